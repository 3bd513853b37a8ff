import JvmDerived
import JvmDerived.Pilot.@@N@@Statement
import JvmDerived.Pilot.@@N@@Code
set_option linter.unusedVariables false
set_option linter.unusedSimpArgs false
namespace Jvm.Pilot.@@N@@
open Jvm Jvm.ClassFile Sem Op Lib Jvm.Free Jvm.Stand Jvm.LawKit Jvm.RoadKit Bundle Jvm.Pilot.@@N@@.Jvm.D
section OwnKit
variable {p : Program} {l : Launch} {e : Env} {R : Room} {s : State} {m : MethodId} {args : Array Value} {below : List Frame} {meth : Method} {c : Code} {T : State} {locs : List Loc} {cells slots : Nat}
/-- from S the run comes to an end that Φ takes -/
def own_G (tb : Tables) (e : Env) (below : List Frame) (Φ : State → Outcome → Prop) (S : State) : Prop := ∃ t o, Steps tb e below S t ∧ t.status = .running ∧ Ended t below o ∧ Φ t o
def own_E (s : State) (Q : Option Value → Heap → List Loc → Prop) (kc ks : Nat) : State → Outcome → Prop := fun t o => ∃ v L, o = .returned v ∧ Q v t.heap L ∧ FrameEnd s o t L kc ks
theorem own_st {tb : Tables} {Φ : State → Outcome → Prop} {S S' : State} (h : ∀ t, Steps tb e below S' t → Steps tb e below S t) (g : own_G tb e below Φ S') : own_G tb e below Φ S := by
  obtain ⟨t, o, a, b⟩ := g
  exact ⟨t, o, h t a, b⟩
theorem own_tr {tb : Tables} {Φ : State → Outcome → Prop} {S S' : State} (h : Steps tb e below S S') (g : own_G tb e below Φ S') : own_G tb e below Φ S := by
  obtain ⟨t, o, a, b⟩ := g
  exact ⟨t, o, h.trans a, b⟩
theorem own_in {s₁ : State} (kc ks : Nat) (Q : Option Value → Heap → List Loc → Prop) {mL : Nat} {g : JFrame} (ef : entryFrame m args mL = g) (k : own_G p.tables e below (own_E s Q kc ks) (s₁.setTop g)) :
    ∃ s₂ o, Steps p.tables e below (s₁.setTop (entryFrame m args mL)) s₂ ∧ s₂.status = .running ∧ Ended s₂ below o ∧ ∃ v L, o = .returned v ∧ Q v s₂.heap L ∧ FrameEnd s o s₂ L kc ks := by
  rw [ef]
  exact k
theorem own_retI0 (X : Stand p l e R s m args below meth c T locs cells slots) (hx : p.tables.exec = Jvm.exec) {pc : Nat} {Ls : Array Slot} {z : Int32} {rest : List Value} (hret : meth.sig.returnType = some .int) (hd : decode c.code pc = .ok (.ireturn, 1)) {fs : List Frame}
    (hl : ∀ (f : JFrame) (acts : List Action), f.method = m → f.locked = none → f.entered = [] → (doReturn e (T.setTop f) acts (some (.int z))).1 = T.setFrames fs) : Steps p.tables e below (T.setTop (mkF m pc Ls (.int z :: rest))) (T.setFrames fs) :=
  retOut X hx hret rfl (Or.inl ⟨rfl, Or.inl rfl, z, rfl⟩) hd hl
theorem own_retI (X : Stand p l e R s m args below meth c T locs cells slots) (hx : p.tables.exec = Jvm.exec) (hlk : meth.locks = false) {pc : Nat} {Ls : Array Slot} {z : Int32} {rest : List Value} (hret : meth.sig.returnType = some .int) (hd : decode c.code pc = .ok (.ireturn, 1))
    {Q : Option Value → Heap → List Loc → Prop} {kc ks : Nat} (hc : cells ≤ kc) (hs : slots ≤ ks) (q : Q (some (.int z)) T.heap locs) : own_G p.tables e below (own_E s Q kc ks) (T.setTop (mkF m pc Ls (.int z :: rest))) := by
  obtain ⟨fs, hr, hrun, hended, hW, hsame⟩ := X.leave (v := some (.int z)) (fun h => by rw [hret] at h; cases h)
  exact ⟨_, _, own_retI0 X hx hret hd hr, hrun, hended, _, _, rfl, q, ⟨_, rfl⟩, hW, hsame.mono hc hs⟩
theorem own_retN (X : Stand p l e R s m args below meth c T locs cells slots) (hx : p.tables.exec = Jvm.exec) (hlk : meth.locks = false) {pc : Nat} {Ls : Array Slot} {z : Int32} {t : FieldType} {rest : List Value} (hret : meth.sig.returnType = some t) (ht : t = .boolean ∨ t = .byte ∨ t = .char ∨ t = .short) (hd : decode c.code pc = .ok (.ireturn, 1))
    {Q : Option Value → Heap → List Loc → Prop} {kc ks : Nat} (hc : cells ≤ kc) (hs : slots ≤ ks) {v' : Int32} (hv : nar t z = v') (q : Q (some (.int v')) T.heap locs) : own_G p.tables e below (own_E s Q kc ks) (T.setTop (mkF m pc Ls (.int z :: rest))) := by
  subst hv
  obtain ⟨fs, hr, hrun, hended, hW, hsame⟩ := X.leave (v := some (.int (nar t z))) (fun h => by rw [hret] at h; cases h)
  exact ⟨_, _, retN X hx hret ht hd hr, hrun, hended, _, _, rfl, q, ⟨_, rfl⟩, hW, hsame.mono hc hs⟩
theorem own_retA (X : Stand p l e R s m args below meth c T locs cells slots) (hx : p.tables.exec = Jvm.exec) (hlk : meth.locks = false) {pc : Nat} {Ls : Array Slot} {w : Value} {t : FieldType} {rest : List Value} (hret : meth.sig.returnType = some t) (ht : t.isReference = true) (hw : w.isRef = true) (hd : decode c.code pc = .ok (.areturn, 1))
    {Q : Option Value → Heap → List Loc → Prop} {kc ks : Nat} (hc : cells ≤ kc) (hs : slots ≤ ks) (q : Q (some w) T.heap locs) : own_G p.tables e below (own_E s Q kc ks) (T.setTop (mkF m pc Ls (w :: rest))) := by
  obtain ⟨fs, hr, hrun, hended, hW, hsame⟩ := X.leave (v := some w) (fun h => by rw [hret] at h; cases h)
  have hn : narrow t w = w := by rcases ref_cases hw with rfl | ⟨a, rfl⟩ <;> cases t <;> rfl
  exact ⟨_, _, retOut X hx hret hn (Or.inr (Or.inr (Or.inr (Or.inr ⟨rfl, ht, hw⟩)))) hd hr, hrun, hended, _, _, rfl, q, ⟨_, rfl⟩, hW, hsame.mono hc hs⟩
theorem own_retJ (X : Stand p l e R s m args below meth c T locs cells slots) (hx : p.tables.exec = Jvm.exec) (hlk : meth.locks = false) {pc : Nat} {Ls : Array Slot} {z : Int64} {rest : List Value} (hret : meth.sig.returnType = some .long) (hd : decode c.code pc = .ok (.lreturn, 1))
    {Q : Option Value → Heap → List Loc → Prop} {kc ks : Nat} (hc : cells ≤ kc) (hs : slots ≤ ks) (q : Q (some (.long z)) T.heap locs) : own_G p.tables e below (own_E s Q kc ks) (T.setTop (mkF m pc Ls (.long z :: rest))) := by
  obtain ⟨fs, hr, hrun, hended, hW, hsame⟩ := X.leave (v := some (.long z)) (fun h => by rw [hret] at h; cases h)
  exact ⟨_, _, retOut X hx hret rfl (Or.inr (Or.inl ⟨rfl, rfl, z, rfl⟩)) hd hr, hrun, hended, _, _, rfl, q, ⟨_, rfl⟩, hW, hsame.mono hc hs⟩
theorem own_retV (X : Stand p l e R s m args below meth c T locs cells slots) (hx : p.tables.exec = Jvm.exec) (hlk : meth.locks = false) {pc : Nat} {Ls : Array Slot} (hret : meth.sig.returnType = none) (hd : decode c.code pc = .ok (.return_, 1))
    {Q : Option Value → Heap → List Loc → Prop} {kc ks : Nat} (hc : cells ≤ kc) (hs : slots ≤ ks) (q : Q none T.heap locs) : own_G p.tables e below (own_E s Q kc ks) (T.setTop (mkF m pc Ls [])) := by
  obtain ⟨fs, hr, hrun, hended, hW, hsame⟩ := X.leave (v := none) (fun _ => rfl)
  exact ⟨_, _, X.returnOut hx hret hd hr, hrun, hended, _, _, rfl, q, ⟨_, rfl⟩, hW, hsame.mono hc hs⟩
end OwnKit
theorem own_cat {v : Value} (h : v.isRef = true) : v.category = 1 := by cases v <;> first | rfl | (simp [Value.isRef] at h)
theorem own_i32 {a b : Int32} (h : a.toInt = b.toInt) : a = b := Int32.toInt_inj.mp h
theorem own_i64 {a b : Int64} (h : a.toInt = b.toInt) : a = b := Int64.toInt_inj.mp h
/-- (x & 0x7fffffff) % d lies from 0 to d - 1 -/
theorem own_mod (x y : Int32) (d : Int) (hy : y.toInt = d) (hd : 0 < d) : 0 ≤ ((x &&& 2147483647) % y).toInt ∧ ((x &&& 2147483647) % y).toInt < d ∧ ((x &&& 2147483647) % y).toInt = (x.toInt % 2147483648) % d := by
  have h1 := c_mask x 2147483647 31 (by decide) (by decide)
  have h2 := (c_irem (x &&& 2147483647) y d hy).1 (by rw [h1]; omega)
  rw [h2, h1]
  refine ⟨Int.emod_nonneg _ (by omega), Int.emod_lt_of_pos _ hd, rfl⟩
theorem own_mod3 (x : Int32) : (x &&& 2147483647) % 3 = (0 : Int32) ∨ (x &&& 2147483647) % 3 = (1 : Int32) ∨ (x &&& 2147483647) % 3 = (2 : Int32) := by
  have h := own_mod x 3 3 (by decide) (by decide)
  have : ((x &&& 2147483647) % 3).toInt = 0 ∨ ((x &&& 2147483647) % 3).toInt = 1 ∨ ((x &&& 2147483647) % 3).toInt = 2 := by omega
  rcases this with h | h | h
  · exact Or.inl (own_i32 (h.trans (by decide)))
  · exact Or.inr (Or.inl (own_i32 (h.trans (by decide))))
  · exact Or.inr (Or.inr (own_i32 (h.trans (by decide))))
theorem d1_0 : decode prog_52_method_4_code 0 = .ok (.aload_n 0, 1) := by decide +kernel
theorem d1_1 : decode prog_52_method_4_code 1 = .ok (.getstatic 3, 3) := by decide +kernel
theorem d1_4 : decode prog_52_method_4_code 4 = .ok (.if_acmp .eq 19, 3) := by decide +kernel
theorem d1_7 : decode prog_52_method_4_code 7 = .ok (.iload_n 1, 1) := by decide +kernel
theorem d1_8 : decode prog_52_method_4_code 8 = .ok (.aload_n 0, 1) := by decide +kernel
theorem d1_9 : decode prog_52_method_4_code 9 = .ok (.getstatic 7, 3) := by decide +kernel
theorem d1_12 : decode prog_52_method_4_code 12 = .ok (.if_acmp .ne 7, 3) := by decide +kernel
theorem d1_15 : decode prog_52_method_4_code 15 = .ok (.iconst 1, 1) := by decide +kernel
theorem d1_16 : decode prog_52_method_4_code 16 = .ok (.goto 4, 3) := by decide +kernel
theorem d1_19 : decode prog_52_method_4_code 19 = .ok (.iconst 0, 1) := by decide +kernel
theorem d1_20 : decode prog_52_method_4_code 20 = .ok (.if_icmp .ne 7, 3) := by decide +kernel
theorem d1_23 : decode prog_52_method_4_code 23 = .ok (.iconst 1, 1) := by decide +kernel
theorem d1_24 : decode prog_52_method_4_code 24 = .ok (.goto 4, 3) := by decide +kernel
theorem d1_27 : decode prog_52_method_4_code 27 = .ok (.iconst 0, 1) := by decide +kernel
theorem d1_28 : decode prog_52_method_4_code 28 = .ok (.ireturn, 1) := by decide +kernel
theorem pn_1 : plainName "com/example/cartouche/cartouche/crosswalks/Placement$Position" = true := by first | (simp [plainName, overriddenIn]; done) | decide +kernel
theorem ef_admits_ANY_0 (m : MethodId) (x0 : Addr) : entryFrame m #[(.ref x0), (.int (0 : Int32))] 2 = mkF m 0 #[.val (.ref x0), .val (.int (0 : Int32))] [] := by first | (simp [entryFrame, mkF, argsToLocals, Value.category]; done) | rfl
def Q_admits_ANY_0 (Z : State) (w_ANY : Addr) (h0 : Heap) (n0 : Nat) (v : Option Value) (h : Heap) (L : List Loc) : Prop := v = some (.int (1 : Int32)) ∧ Fr n0 L ∧ h = h0
set_option maxRecDepth 65536 in
set_option maxHeartbeats 40000000 in
theorem rm_admits_ANY_0 (l : Launch) (Z : State) (a0 : Array Value) (hw : ∀ d ∈ tables_1, d.before a0 Z = true) (ws : List Jvm.Cond) (w_ANY : Addr) (h0 : Heap) (n0 : Nat) (Z0 : n0 ≤ h0.size) (O0 : Old Z n0 h0) (S_ANY : Sta Z Z.heap "com/example/cartouche/cartouche/crosswalks/Placement$Position" "ANY" "Lcom/example/cartouche/cartouche/crosswalks/Placement$Position;" (.ref w_ANY)) :
    MetFree l (⟨"com/example/cartouche/cartouche/crosswalks/Placement$Position", "admits", "(Z)Z"⟩ : MethodName) (head1 (Jvm.Cond.code (⟨"com/example/cartouche/cartouche/crosswalks/Placement$Position", "admits", "(Z)Z"⟩ : MethodName) prog_52_method_4_code 2 (some .boolean) :: ws) ({ frames := 0, cells := 0, slots := 0, locals := 0 } : Room)) (fun a U => a = #[(.ref w_ANY), (.int (0 : Int32))] ∧ Z.Warmed39 U.vm ∧ U.heap = h0) (fun _ _ _ _ _ => True) (fun _ U o U' => ∃ v L, o = .returned v ∧ Q_admits_ANY_0 Z w_ANY h0 n0 v U'.heap L ∧ FrameEnd U o U' L ({ frames := 0, cells := 0, slots := 0, locals := 0 } : Room).cells ({ frames := 0, cells := 0, slots := 0, locals := 0 } : Room).slots) := by
  refine MetFree.of_bodySF (plainFor_of_name pn_1) hisR ?_
  intro p e s m args below meth c s₁ Bd hml0 hP hK
  obtain ⟨rfl, hZ, hh⟩ := hP
  have hx := Bd.exec
  have hby := Bd.bytes
  have hml : c.maxLocals = 2 := hml0
  have hown : s.vm.findClass "com/example/cartouche/cartouche/crosswalks/Placement$Position" = some m.cls := findClass_of_methodNamed Bd.named
  have hnm := (name_of_methodNamed Bd.named Bd.method).1
  have hlk := Bd.notSynchronized
  have hret := Bd.returns
  have X0 : Stand p l e ({ frames := 0, cells := 0, slots := 0, locals := 0 } : Room) s m #[(.ref w_ANY), (.int (0 : Int32))] below meth c s₁ [] 0 0 := Stand.of_body Bd
  have e0 : s₁.heap = h0 := by rw [← hh, Bd.state]; rfl
  have N0 := Fr.nil n0
  refine own_in ({ frames := 0, cells := 0, slots := 0, locals := 0 } : Room).cells ({ frames := 0, cells := 0, slots := 0, locals := 0 } : Room).slots (Q_admits_ANY_0 Z w_ANY h0 n0) (ef_admits_ANY_0 m w_ANY) ?_
  show own_G p.tables e below _ (s₁.setTop (mkF m 0 #[.val (.ref w_ANY), .val (.int (0 : Int32))] []))
  refine own_st (fun _ kS => XS.aloadN X0.here hx rfl (hb hby d1_0) rfl rfl kS) ?_
  show own_G p.tables e below _ (s₁.setTop (mkF m 1 #[.val (.ref w_ANY), .val (.int (0 : Int32))] [(.ref w_ANY)]))
  obtain ⟨T1, X1, e1, st1⟩ := getS2 X0 hx hZ hown (host := "") (Or.inl (hw _ (List.mem_of_getElem? (i := 16) rfl))) Via.refl e0 (Sta.ext O0.2 S_ANY) (g := (mkF m 1 #[.val (.ref w_ANY), .val (.int (0 : Int32))] [(.ref w_ANY)])) rfl (hb hby d1_1)
  refine own_st st1 ?_
  show own_G p.tables e below _ (T1.setTop (mkF m 4 #[.val (.ref w_ANY), .val (.int (0 : Int32))] [(.ref w_ANY), (.ref w_ANY)]))
  refine own_st (fun _ kS => Jvm.RoadKit.acmp (g := (mkF m 4 #[.val (.ref w_ANY), .val (.int (0 : Int32))] [(.ref w_ANY), (.ref w_ANY)])) X1 hx rfl rfl rfl (pc0 := 4) (pc' := 23) (same := true) rfl (hb hby d1_4) rfl (decide_eq_true rfl) (by decide) (by decide) kS) ?_
  show own_G p.tables e below _ (T1.setTop (mkF m 23 #[.val (.ref w_ANY), .val (.int (0 : Int32))] []))
  refine own_st (fun _ kS => XS.iconst X1.here hx rfl (hb hby d1_23) kS) ?_
  show own_G p.tables e below _ (T1.setTop (mkF m 24 #[.val (.ref w_ANY), .val (.int (0 : Int32))] [(.int (1 : Int32))]))
  refine own_st (fun _ kS => XS.goto X1.here hx rfl (pc0 := 24) (pc' := 28) rfl (hb hby d1_24) (by decide) (by decide) kS) ?_
  show own_G p.tables e below _ (T1.setTop (mkF m 28 #[.val (.ref w_ANY), .val (.int (0 : Int32))] [(.int (1 : Int32))]))
  exact own_retN X1 hx hlk (t := .boolean) hret (by simp) (hb hby d1_28) (by decide) (by decide) (v' := (1 : Int32)) rfl (by rw [e1]; exact ⟨rfl, N0, rfl⟩)
theorem ef_admits_ANY_1 (m : MethodId) (x0 : Addr) : entryFrame m #[(.ref x0), (.int (1 : Int32))] 2 = mkF m 0 #[.val (.ref x0), .val (.int (1 : Int32))] [] := by first | (simp [entryFrame, mkF, argsToLocals, Value.category]; done) | rfl
def Q_admits_ANY_1 (Z : State) (w_ANY : Addr) (h0 : Heap) (n0 : Nat) (v : Option Value) (h : Heap) (L : List Loc) : Prop := v = some (.int (1 : Int32)) ∧ Fr n0 L ∧ h = h0
set_option maxRecDepth 65536 in
set_option maxHeartbeats 40000000 in
theorem rm_admits_ANY_1 (l : Launch) (Z : State) (a0 : Array Value) (hw : ∀ d ∈ tables_1, d.before a0 Z = true) (ws : List Jvm.Cond) (w_ANY : Addr) (h0 : Heap) (n0 : Nat) (Z0 : n0 ≤ h0.size) (O0 : Old Z n0 h0) (S_ANY : Sta Z Z.heap "com/example/cartouche/cartouche/crosswalks/Placement$Position" "ANY" "Lcom/example/cartouche/cartouche/crosswalks/Placement$Position;" (.ref w_ANY)) :
    MetFree l (⟨"com/example/cartouche/cartouche/crosswalks/Placement$Position", "admits", "(Z)Z"⟩ : MethodName) (head1 (Jvm.Cond.code (⟨"com/example/cartouche/cartouche/crosswalks/Placement$Position", "admits", "(Z)Z"⟩ : MethodName) prog_52_method_4_code 2 (some .boolean) :: ws) ({ frames := 0, cells := 0, slots := 0, locals := 0 } : Room)) (fun a U => a = #[(.ref w_ANY), (.int (1 : Int32))] ∧ Z.Warmed39 U.vm ∧ U.heap = h0) (fun _ _ _ _ _ => True) (fun _ U o U' => ∃ v L, o = .returned v ∧ Q_admits_ANY_1 Z w_ANY h0 n0 v U'.heap L ∧ FrameEnd U o U' L ({ frames := 0, cells := 0, slots := 0, locals := 0 } : Room).cells ({ frames := 0, cells := 0, slots := 0, locals := 0 } : Room).slots) := by
  refine MetFree.of_bodySF (plainFor_of_name pn_1) hisR ?_
  intro p e s m args below meth c s₁ Bd hml0 hP hK
  obtain ⟨rfl, hZ, hh⟩ := hP
  have hx := Bd.exec
  have hby := Bd.bytes
  have hml : c.maxLocals = 2 := hml0
  have hown : s.vm.findClass "com/example/cartouche/cartouche/crosswalks/Placement$Position" = some m.cls := findClass_of_methodNamed Bd.named
  have hnm := (name_of_methodNamed Bd.named Bd.method).1
  have hlk := Bd.notSynchronized
  have hret := Bd.returns
  have X0 : Stand p l e ({ frames := 0, cells := 0, slots := 0, locals := 0 } : Room) s m #[(.ref w_ANY), (.int (1 : Int32))] below meth c s₁ [] 0 0 := Stand.of_body Bd
  have e0 : s₁.heap = h0 := by rw [← hh, Bd.state]; rfl
  have N0 := Fr.nil n0
  refine own_in ({ frames := 0, cells := 0, slots := 0, locals := 0 } : Room).cells ({ frames := 0, cells := 0, slots := 0, locals := 0 } : Room).slots (Q_admits_ANY_1 Z w_ANY h0 n0) (ef_admits_ANY_1 m w_ANY) ?_
  show own_G p.tables e below _ (s₁.setTop (mkF m 0 #[.val (.ref w_ANY), .val (.int (1 : Int32))] []))
  refine own_st (fun _ kS => XS.aloadN X0.here hx rfl (hb hby d1_0) rfl rfl kS) ?_
  show own_G p.tables e below _ (s₁.setTop (mkF m 1 #[.val (.ref w_ANY), .val (.int (1 : Int32))] [(.ref w_ANY)]))
  obtain ⟨T1, X1, e1, st1⟩ := getS2 X0 hx hZ hown (host := "") (Or.inl (hw _ (List.mem_of_getElem? (i := 16) rfl))) Via.refl e0 (Sta.ext O0.2 S_ANY) (g := (mkF m 1 #[.val (.ref w_ANY), .val (.int (1 : Int32))] [(.ref w_ANY)])) rfl (hb hby d1_1)
  refine own_st st1 ?_
  show own_G p.tables e below _ (T1.setTop (mkF m 4 #[.val (.ref w_ANY), .val (.int (1 : Int32))] [(.ref w_ANY), (.ref w_ANY)]))
  refine own_st (fun _ kS => Jvm.RoadKit.acmp (g := (mkF m 4 #[.val (.ref w_ANY), .val (.int (1 : Int32))] [(.ref w_ANY), (.ref w_ANY)])) X1 hx rfl rfl rfl (pc0 := 4) (pc' := 23) (same := true) rfl (hb hby d1_4) rfl (decide_eq_true rfl) (by decide) (by decide) kS) ?_
  show own_G p.tables e below _ (T1.setTop (mkF m 23 #[.val (.ref w_ANY), .val (.int (1 : Int32))] []))
  refine own_st (fun _ kS => XS.iconst X1.here hx rfl (hb hby d1_23) kS) ?_
  show own_G p.tables e below _ (T1.setTop (mkF m 24 #[.val (.ref w_ANY), .val (.int (1 : Int32))] [(.int (1 : Int32))]))
  refine own_st (fun _ kS => XS.goto X1.here hx rfl (pc0 := 24) (pc' := 28) rfl (hb hby d1_24) (by decide) (by decide) kS) ?_
  show own_G p.tables e below _ (T1.setTop (mkF m 28 #[.val (.ref w_ANY), .val (.int (1 : Int32))] [(.int (1 : Int32))]))
  exact own_retN X1 hx hlk (t := .boolean) hret (by simp) (hb hby d1_28) (by decide) (by decide) (v' := (1 : Int32)) rfl (by rw [e1]; exact ⟨rfl, N0, rfl⟩)
theorem ef_admits_FIRST_0 (m : MethodId) (x0 : Addr) : entryFrame m #[(.ref x0), (.int (0 : Int32))] 2 = mkF m 0 #[.val (.ref x0), .val (.int (0 : Int32))] [] := by first | (simp [entryFrame, mkF, argsToLocals, Value.category]; done) | rfl
def Q_admits_FIRST_0 (Z : State) (w_FIRST : Addr) (w_ANY : Addr) (h0 : Heap) (n0 : Nat) (v : Option Value) (h : Heap) (L : List Loc) : Prop := v = some (.int (0 : Int32)) ∧ Fr n0 L ∧ h = h0
set_option maxRecDepth 65536 in
set_option maxHeartbeats 40000000 in
theorem rm_admits_FIRST_0 (l : Launch) (Z : State) (a0 : Array Value) (hw : ∀ d ∈ tables_1, d.before a0 Z = true) (ws : List Jvm.Cond) (w_FIRST : Addr) (w_ANY : Addr) (h0 : Heap) (n0 : Nat) (Z0 : n0 ≤ h0.size) (O0 : Old Z n0 h0) (S_ANY : Sta Z Z.heap "com/example/cartouche/cartouche/crosswalks/Placement$Position" "ANY" "Lcom/example/cartouche/cartouche/crosswalks/Placement$Position;" (.ref w_ANY)) (S_FIRST : Sta Z Z.heap "com/example/cartouche/cartouche/crosswalks/Placement$Position" "FIRST" "Lcom/example/cartouche/cartouche/crosswalks/Placement$Position;" (.ref w_FIRST)) (ne_FIRST_ANY : w_FIRST ≠ w_ANY) :
    MetFree l (⟨"com/example/cartouche/cartouche/crosswalks/Placement$Position", "admits", "(Z)Z"⟩ : MethodName) (head1 (Jvm.Cond.code (⟨"com/example/cartouche/cartouche/crosswalks/Placement$Position", "admits", "(Z)Z"⟩ : MethodName) prog_52_method_4_code 2 (some .boolean) :: ws) ({ frames := 0, cells := 0, slots := 0, locals := 0 } : Room)) (fun a U => a = #[(.ref w_FIRST), (.int (0 : Int32))] ∧ Z.Warmed39 U.vm ∧ U.heap = h0) (fun _ _ _ _ _ => True) (fun _ U o U' => ∃ v L, o = .returned v ∧ Q_admits_FIRST_0 Z w_FIRST w_ANY h0 n0 v U'.heap L ∧ FrameEnd U o U' L ({ frames := 0, cells := 0, slots := 0, locals := 0 } : Room).cells ({ frames := 0, cells := 0, slots := 0, locals := 0 } : Room).slots) := by
  refine MetFree.of_bodySF (plainFor_of_name pn_1) hisR ?_
  intro p e s m args below meth c s₁ Bd hml0 hP hK
  obtain ⟨rfl, hZ, hh⟩ := hP
  have hx := Bd.exec
  have hby := Bd.bytes
  have hml : c.maxLocals = 2 := hml0
  have hown : s.vm.findClass "com/example/cartouche/cartouche/crosswalks/Placement$Position" = some m.cls := findClass_of_methodNamed Bd.named
  have hnm := (name_of_methodNamed Bd.named Bd.method).1
  have hlk := Bd.notSynchronized
  have hret := Bd.returns
  have X0 : Stand p l e ({ frames := 0, cells := 0, slots := 0, locals := 0 } : Room) s m #[(.ref w_FIRST), (.int (0 : Int32))] below meth c s₁ [] 0 0 := Stand.of_body Bd
  have e0 : s₁.heap = h0 := by rw [← hh, Bd.state]; rfl
  have N0 := Fr.nil n0
  refine own_in ({ frames := 0, cells := 0, slots := 0, locals := 0 } : Room).cells ({ frames := 0, cells := 0, slots := 0, locals := 0 } : Room).slots (Q_admits_FIRST_0 Z w_FIRST w_ANY h0 n0) (ef_admits_FIRST_0 m w_FIRST) ?_
  show own_G p.tables e below _ (s₁.setTop (mkF m 0 #[.val (.ref w_FIRST), .val (.int (0 : Int32))] []))
  refine own_st (fun _ kS => XS.aloadN X0.here hx rfl (hb hby d1_0) rfl rfl kS) ?_
  show own_G p.tables e below _ (s₁.setTop (mkF m 1 #[.val (.ref w_FIRST), .val (.int (0 : Int32))] [(.ref w_FIRST)]))
  obtain ⟨T1, X1, e1, st1⟩ := getS2 X0 hx hZ hown (host := "") (Or.inl (hw _ (List.mem_of_getElem? (i := 16) rfl))) Via.refl e0 (Sta.ext O0.2 S_ANY) (g := (mkF m 1 #[.val (.ref w_FIRST), .val (.int (0 : Int32))] [(.ref w_FIRST)])) rfl (hb hby d1_1)
  refine own_st st1 ?_
  show own_G p.tables e below _ (T1.setTop (mkF m 4 #[.val (.ref w_FIRST), .val (.int (0 : Int32))] [(.ref w_ANY), (.ref w_FIRST)]))
  refine own_st (fun _ kS => Jvm.RoadKit.acmp (g := (mkF m 4 #[.val (.ref w_FIRST), .val (.int (0 : Int32))] [(.ref w_ANY), (.ref w_FIRST)])) X1 hx rfl rfl rfl (pc0 := 4) (pc' := 7) (same := false) rfl (hb hby d1_4) rfl (decide_eq_false fun q => ne_FIRST_ANY (Value.ref.inj q)) (by decide) (by decide) kS) ?_
  show own_G p.tables e below _ (T1.setTop (mkF m 7 #[.val (.ref w_FIRST), .val (.int (0 : Int32))] []))
  refine own_st (fun _ kS => XS.iloadN X1.here hx rfl (hb hby d1_7) rfl kS) ?_
  show own_G p.tables e below _ (T1.setTop (mkF m 8 #[.val (.ref w_FIRST), .val (.int (0 : Int32))] [(.int (0 : Int32))]))
  refine own_st (fun _ kS => XS.aloadN X1.here hx rfl (hb hby d1_8) rfl rfl kS) ?_
  show own_G p.tables e below _ (T1.setTop (mkF m 9 #[.val (.ref w_FIRST), .val (.int (0 : Int32))] [(.ref w_FIRST), (.int (0 : Int32))]))
  obtain ⟨T2, X2, e2, st2⟩ := getS2 X1 hx hZ hown (host := "") (Or.inl (hw _ (List.mem_of_getElem? (i := 17) rfl))) Via.refl e1 (Sta.ext O0.2 S_FIRST) (g := (mkF m 9 #[.val (.ref w_FIRST), .val (.int (0 : Int32))] [(.ref w_FIRST), (.int (0 : Int32))])) rfl (hb hby d1_9)
  refine own_st st2 ?_
  show own_G p.tables e below _ (T2.setTop (mkF m 12 #[.val (.ref w_FIRST), .val (.int (0 : Int32))] [(.ref w_FIRST), (.ref w_FIRST), (.int (0 : Int32))]))
  refine own_st (fun _ kS => Jvm.RoadKit.acmp (g := (mkF m 12 #[.val (.ref w_FIRST), .val (.int (0 : Int32))] [(.ref w_FIRST), (.ref w_FIRST), (.int (0 : Int32))])) X2 hx rfl rfl rfl (pc0 := 12) (pc' := 15) (same := true) rfl (hb hby d1_12) rfl (decide_eq_true rfl) (by decide) (by decide) kS) ?_
  show own_G p.tables e below _ (T2.setTop (mkF m 15 #[.val (.ref w_FIRST), .val (.int (0 : Int32))] [(.int (0 : Int32))]))
  refine own_st (fun _ kS => XS.iconst X2.here hx rfl (hb hby d1_15) kS) ?_
  show own_G p.tables e below _ (T2.setTop (mkF m 16 #[.val (.ref w_FIRST), .val (.int (0 : Int32))] [(.int (1 : Int32)), (.int (0 : Int32))]))
  refine own_st (fun _ kS => XS.goto X2.here hx rfl (pc0 := 16) (pc' := 20) rfl (hb hby d1_16) (by decide) (by decide) kS) ?_
  show own_G p.tables e below _ (T2.setTop (mkF m 20 #[.val (.ref w_FIRST), .val (.int (0 : Int32))] [(.int (1 : Int32)), (.int (0 : Int32))]))
  refine own_st (fun _ kS => XS.icmpYes X2.here hx rfl (pc0 := 20) (pc' := 27) rfl (hb hby d1_20) rfl (feq (by decide : ¬ ((0 : Int32) = (1 : Int32)))).2 (by decide) (by decide) kS) ?_
  show own_G p.tables e below _ (T2.setTop (mkF m 27 #[.val (.ref w_FIRST), .val (.int (0 : Int32))] []))
  refine own_st (fun _ kS => XS.iconst X2.here hx rfl (hb hby d1_27) kS) ?_
  show own_G p.tables e below _ (T2.setTop (mkF m 28 #[.val (.ref w_FIRST), .val (.int (0 : Int32))] [(.int (0 : Int32))]))
  exact own_retN X2 hx hlk (t := .boolean) hret (by simp) (hb hby d1_28) (by decide) (by decide) (v' := (0 : Int32)) rfl (by rw [e2]; exact ⟨rfl, N0, rfl⟩)
theorem ef_admits_FIRST_1 (m : MethodId) (x0 : Addr) : entryFrame m #[(.ref x0), (.int (1 : Int32))] 2 = mkF m 0 #[.val (.ref x0), .val (.int (1 : Int32))] [] := by first | (simp [entryFrame, mkF, argsToLocals, Value.category]; done) | rfl
def Q_admits_FIRST_1 (Z : State) (w_FIRST : Addr) (w_ANY : Addr) (h0 : Heap) (n0 : Nat) (v : Option Value) (h : Heap) (L : List Loc) : Prop := v = some (.int (1 : Int32)) ∧ Fr n0 L ∧ h = h0
set_option maxRecDepth 65536 in
set_option maxHeartbeats 40000000 in
theorem rm_admits_FIRST_1 (l : Launch) (Z : State) (a0 : Array Value) (hw : ∀ d ∈ tables_1, d.before a0 Z = true) (ws : List Jvm.Cond) (w_FIRST : Addr) (w_ANY : Addr) (h0 : Heap) (n0 : Nat) (Z0 : n0 ≤ h0.size) (O0 : Old Z n0 h0) (S_ANY : Sta Z Z.heap "com/example/cartouche/cartouche/crosswalks/Placement$Position" "ANY" "Lcom/example/cartouche/cartouche/crosswalks/Placement$Position;" (.ref w_ANY)) (S_FIRST : Sta Z Z.heap "com/example/cartouche/cartouche/crosswalks/Placement$Position" "FIRST" "Lcom/example/cartouche/cartouche/crosswalks/Placement$Position;" (.ref w_FIRST)) (ne_FIRST_ANY : w_FIRST ≠ w_ANY) :
    MetFree l (⟨"com/example/cartouche/cartouche/crosswalks/Placement$Position", "admits", "(Z)Z"⟩ : MethodName) (head1 (Jvm.Cond.code (⟨"com/example/cartouche/cartouche/crosswalks/Placement$Position", "admits", "(Z)Z"⟩ : MethodName) prog_52_method_4_code 2 (some .boolean) :: ws) ({ frames := 0, cells := 0, slots := 0, locals := 0 } : Room)) (fun a U => a = #[(.ref w_FIRST), (.int (1 : Int32))] ∧ Z.Warmed39 U.vm ∧ U.heap = h0) (fun _ _ _ _ _ => True) (fun _ U o U' => ∃ v L, o = .returned v ∧ Q_admits_FIRST_1 Z w_FIRST w_ANY h0 n0 v U'.heap L ∧ FrameEnd U o U' L ({ frames := 0, cells := 0, slots := 0, locals := 0 } : Room).cells ({ frames := 0, cells := 0, slots := 0, locals := 0 } : Room).slots) := by
  refine MetFree.of_bodySF (plainFor_of_name pn_1) hisR ?_
  intro p e s m args below meth c s₁ Bd hml0 hP hK
  obtain ⟨rfl, hZ, hh⟩ := hP
  have hx := Bd.exec
  have hby := Bd.bytes
  have hml : c.maxLocals = 2 := hml0
  have hown : s.vm.findClass "com/example/cartouche/cartouche/crosswalks/Placement$Position" = some m.cls := findClass_of_methodNamed Bd.named
  have hnm := (name_of_methodNamed Bd.named Bd.method).1
  have hlk := Bd.notSynchronized
  have hret := Bd.returns
  have X0 : Stand p l e ({ frames := 0, cells := 0, slots := 0, locals := 0 } : Room) s m #[(.ref w_FIRST), (.int (1 : Int32))] below meth c s₁ [] 0 0 := Stand.of_body Bd
  have e0 : s₁.heap = h0 := by rw [← hh, Bd.state]; rfl
  have N0 := Fr.nil n0
  refine own_in ({ frames := 0, cells := 0, slots := 0, locals := 0 } : Room).cells ({ frames := 0, cells := 0, slots := 0, locals := 0 } : Room).slots (Q_admits_FIRST_1 Z w_FIRST w_ANY h0 n0) (ef_admits_FIRST_1 m w_FIRST) ?_
  show own_G p.tables e below _ (s₁.setTop (mkF m 0 #[.val (.ref w_FIRST), .val (.int (1 : Int32))] []))
  refine own_st (fun _ kS => XS.aloadN X0.here hx rfl (hb hby d1_0) rfl rfl kS) ?_
  show own_G p.tables e below _ (s₁.setTop (mkF m 1 #[.val (.ref w_FIRST), .val (.int (1 : Int32))] [(.ref w_FIRST)]))
  obtain ⟨T1, X1, e1, st1⟩ := getS2 X0 hx hZ hown (host := "") (Or.inl (hw _ (List.mem_of_getElem? (i := 16) rfl))) Via.refl e0 (Sta.ext O0.2 S_ANY) (g := (mkF m 1 #[.val (.ref w_FIRST), .val (.int (1 : Int32))] [(.ref w_FIRST)])) rfl (hb hby d1_1)
  refine own_st st1 ?_
  show own_G p.tables e below _ (T1.setTop (mkF m 4 #[.val (.ref w_FIRST), .val (.int (1 : Int32))] [(.ref w_ANY), (.ref w_FIRST)]))
  refine own_st (fun _ kS => Jvm.RoadKit.acmp (g := (mkF m 4 #[.val (.ref w_FIRST), .val (.int (1 : Int32))] [(.ref w_ANY), (.ref w_FIRST)])) X1 hx rfl rfl rfl (pc0 := 4) (pc' := 7) (same := false) rfl (hb hby d1_4) rfl (decide_eq_false fun q => ne_FIRST_ANY (Value.ref.inj q)) (by decide) (by decide) kS) ?_
  show own_G p.tables e below _ (T1.setTop (mkF m 7 #[.val (.ref w_FIRST), .val (.int (1 : Int32))] []))
  refine own_st (fun _ kS => XS.iloadN X1.here hx rfl (hb hby d1_7) rfl kS) ?_
  show own_G p.tables e below _ (T1.setTop (mkF m 8 #[.val (.ref w_FIRST), .val (.int (1 : Int32))] [(.int (1 : Int32))]))
  refine own_st (fun _ kS => XS.aloadN X1.here hx rfl (hb hby d1_8) rfl rfl kS) ?_
  show own_G p.tables e below _ (T1.setTop (mkF m 9 #[.val (.ref w_FIRST), .val (.int (1 : Int32))] [(.ref w_FIRST), (.int (1 : Int32))]))
  obtain ⟨T2, X2, e2, st2⟩ := getS2 X1 hx hZ hown (host := "") (Or.inl (hw _ (List.mem_of_getElem? (i := 17) rfl))) Via.refl e1 (Sta.ext O0.2 S_FIRST) (g := (mkF m 9 #[.val (.ref w_FIRST), .val (.int (1 : Int32))] [(.ref w_FIRST), (.int (1 : Int32))])) rfl (hb hby d1_9)
  refine own_st st2 ?_
  show own_G p.tables e below _ (T2.setTop (mkF m 12 #[.val (.ref w_FIRST), .val (.int (1 : Int32))] [(.ref w_FIRST), (.ref w_FIRST), (.int (1 : Int32))]))
  refine own_st (fun _ kS => Jvm.RoadKit.acmp (g := (mkF m 12 #[.val (.ref w_FIRST), .val (.int (1 : Int32))] [(.ref w_FIRST), (.ref w_FIRST), (.int (1 : Int32))])) X2 hx rfl rfl rfl (pc0 := 12) (pc' := 15) (same := true) rfl (hb hby d1_12) rfl (decide_eq_true rfl) (by decide) (by decide) kS) ?_
  show own_G p.tables e below _ (T2.setTop (mkF m 15 #[.val (.ref w_FIRST), .val (.int (1 : Int32))] [(.int (1 : Int32))]))
  refine own_st (fun _ kS => XS.iconst X2.here hx rfl (hb hby d1_15) kS) ?_
  show own_G p.tables e below _ (T2.setTop (mkF m 16 #[.val (.ref w_FIRST), .val (.int (1 : Int32))] [(.int (1 : Int32)), (.int (1 : Int32))]))
  refine own_st (fun _ kS => XS.goto X2.here hx rfl (pc0 := 16) (pc' := 20) rfl (hb hby d1_16) (by decide) (by decide) kS) ?_
  show own_G p.tables e below _ (T2.setTop (mkF m 20 #[.val (.ref w_FIRST), .val (.int (1 : Int32))] [(.int (1 : Int32)), (.int (1 : Int32))]))
  refine own_st (fun _ kS => XS.icmpNo X2.here hx rfl (hb hby d1_20) rfl (teq (by decide : (1 : Int32) = (1 : Int32))).2 kS) ?_
  show own_G p.tables e below _ (T2.setTop (mkF m 23 #[.val (.ref w_FIRST), .val (.int (1 : Int32))] []))
  refine own_st (fun _ kS => XS.iconst X2.here hx rfl (hb hby d1_23) kS) ?_
  show own_G p.tables e below _ (T2.setTop (mkF m 24 #[.val (.ref w_FIRST), .val (.int (1 : Int32))] [(.int (1 : Int32))]))
  refine own_st (fun _ kS => XS.goto X2.here hx rfl (pc0 := 24) (pc' := 28) rfl (hb hby d1_24) (by decide) (by decide) kS) ?_
  show own_G p.tables e below _ (T2.setTop (mkF m 28 #[.val (.ref w_FIRST), .val (.int (1 : Int32))] [(.int (1 : Int32))]))
  exact own_retN X2 hx hlk (t := .boolean) hret (by simp) (hb hby d1_28) (by decide) (by decide) (v' := (1 : Int32)) rfl (by rw [e2]; exact ⟨rfl, N0, rfl⟩)
theorem ef_admits_FURTHER_0 (m : MethodId) (x0 : Addr) : entryFrame m #[(.ref x0), (.int (0 : Int32))] 2 = mkF m 0 #[.val (.ref x0), .val (.int (0 : Int32))] [] := by first | (simp [entryFrame, mkF, argsToLocals, Value.category]; done) | rfl
def Q_admits_FURTHER_0 (Z : State) (w_FURTHER : Addr) (w_ANY : Addr) (w_FIRST : Addr) (h0 : Heap) (n0 : Nat) (v : Option Value) (h : Heap) (L : List Loc) : Prop := v = some (.int (1 : Int32)) ∧ Fr n0 L ∧ h = h0
set_option maxRecDepth 65536 in
set_option maxHeartbeats 40000000 in
theorem rm_admits_FURTHER_0 (l : Launch) (Z : State) (a0 : Array Value) (hw : ∀ d ∈ tables_1, d.before a0 Z = true) (ws : List Jvm.Cond) (w_FURTHER : Addr) (w_ANY : Addr) (w_FIRST : Addr) (h0 : Heap) (n0 : Nat) (Z0 : n0 ≤ h0.size) (O0 : Old Z n0 h0) (S_ANY : Sta Z Z.heap "com/example/cartouche/cartouche/crosswalks/Placement$Position" "ANY" "Lcom/example/cartouche/cartouche/crosswalks/Placement$Position;" (.ref w_ANY)) (S_FIRST : Sta Z Z.heap "com/example/cartouche/cartouche/crosswalks/Placement$Position" "FIRST" "Lcom/example/cartouche/cartouche/crosswalks/Placement$Position;" (.ref w_FIRST)) (ne_FURTHER_ANY : w_FURTHER ≠ w_ANY) (ne_FURTHER_FIRST : w_FURTHER ≠ w_FIRST) :
    MetFree l (⟨"com/example/cartouche/cartouche/crosswalks/Placement$Position", "admits", "(Z)Z"⟩ : MethodName) (head1 (Jvm.Cond.code (⟨"com/example/cartouche/cartouche/crosswalks/Placement$Position", "admits", "(Z)Z"⟩ : MethodName) prog_52_method_4_code 2 (some .boolean) :: ws) ({ frames := 0, cells := 0, slots := 0, locals := 0 } : Room)) (fun a U => a = #[(.ref w_FURTHER), (.int (0 : Int32))] ∧ Z.Warmed39 U.vm ∧ U.heap = h0) (fun _ _ _ _ _ => True) (fun _ U o U' => ∃ v L, o = .returned v ∧ Q_admits_FURTHER_0 Z w_FURTHER w_ANY w_FIRST h0 n0 v U'.heap L ∧ FrameEnd U o U' L ({ frames := 0, cells := 0, slots := 0, locals := 0 } : Room).cells ({ frames := 0, cells := 0, slots := 0, locals := 0 } : Room).slots) := by
  refine MetFree.of_bodySF (plainFor_of_name pn_1) hisR ?_
  intro p e s m args below meth c s₁ Bd hml0 hP hK
  obtain ⟨rfl, hZ, hh⟩ := hP
  have hx := Bd.exec
  have hby := Bd.bytes
  have hml : c.maxLocals = 2 := hml0
  have hown : s.vm.findClass "com/example/cartouche/cartouche/crosswalks/Placement$Position" = some m.cls := findClass_of_methodNamed Bd.named
  have hnm := (name_of_methodNamed Bd.named Bd.method).1
  have hlk := Bd.notSynchronized
  have hret := Bd.returns
  have X0 : Stand p l e ({ frames := 0, cells := 0, slots := 0, locals := 0 } : Room) s m #[(.ref w_FURTHER), (.int (0 : Int32))] below meth c s₁ [] 0 0 := Stand.of_body Bd
  have e0 : s₁.heap = h0 := by rw [← hh, Bd.state]; rfl
  have N0 := Fr.nil n0
  refine own_in ({ frames := 0, cells := 0, slots := 0, locals := 0 } : Room).cells ({ frames := 0, cells := 0, slots := 0, locals := 0 } : Room).slots (Q_admits_FURTHER_0 Z w_FURTHER w_ANY w_FIRST h0 n0) (ef_admits_FURTHER_0 m w_FURTHER) ?_
  show own_G p.tables e below _ (s₁.setTop (mkF m 0 #[.val (.ref w_FURTHER), .val (.int (0 : Int32))] []))
  refine own_st (fun _ kS => XS.aloadN X0.here hx rfl (hb hby d1_0) rfl rfl kS) ?_
  show own_G p.tables e below _ (s₁.setTop (mkF m 1 #[.val (.ref w_FURTHER), .val (.int (0 : Int32))] [(.ref w_FURTHER)]))
  obtain ⟨T1, X1, e1, st1⟩ := getS2 X0 hx hZ hown (host := "") (Or.inl (hw _ (List.mem_of_getElem? (i := 16) rfl))) Via.refl e0 (Sta.ext O0.2 S_ANY) (g := (mkF m 1 #[.val (.ref w_FURTHER), .val (.int (0 : Int32))] [(.ref w_FURTHER)])) rfl (hb hby d1_1)
  refine own_st st1 ?_
  show own_G p.tables e below _ (T1.setTop (mkF m 4 #[.val (.ref w_FURTHER), .val (.int (0 : Int32))] [(.ref w_ANY), (.ref w_FURTHER)]))
  refine own_st (fun _ kS => Jvm.RoadKit.acmp (g := (mkF m 4 #[.val (.ref w_FURTHER), .val (.int (0 : Int32))] [(.ref w_ANY), (.ref w_FURTHER)])) X1 hx rfl rfl rfl (pc0 := 4) (pc' := 7) (same := false) rfl (hb hby d1_4) rfl (decide_eq_false fun q => ne_FURTHER_ANY (Value.ref.inj q)) (by decide) (by decide) kS) ?_
  show own_G p.tables e below _ (T1.setTop (mkF m 7 #[.val (.ref w_FURTHER), .val (.int (0 : Int32))] []))
  refine own_st (fun _ kS => XS.iloadN X1.here hx rfl (hb hby d1_7) rfl kS) ?_
  show own_G p.tables e below _ (T1.setTop (mkF m 8 #[.val (.ref w_FURTHER), .val (.int (0 : Int32))] [(.int (0 : Int32))]))
  refine own_st (fun _ kS => XS.aloadN X1.here hx rfl (hb hby d1_8) rfl rfl kS) ?_
  show own_G p.tables e below _ (T1.setTop (mkF m 9 #[.val (.ref w_FURTHER), .val (.int (0 : Int32))] [(.ref w_FURTHER), (.int (0 : Int32))]))
  obtain ⟨T2, X2, e2, st2⟩ := getS2 X1 hx hZ hown (host := "") (Or.inl (hw _ (List.mem_of_getElem? (i := 17) rfl))) Via.refl e1 (Sta.ext O0.2 S_FIRST) (g := (mkF m 9 #[.val (.ref w_FURTHER), .val (.int (0 : Int32))] [(.ref w_FURTHER), (.int (0 : Int32))])) rfl (hb hby d1_9)
  refine own_st st2 ?_
  show own_G p.tables e below _ (T2.setTop (mkF m 12 #[.val (.ref w_FURTHER), .val (.int (0 : Int32))] [(.ref w_FIRST), (.ref w_FURTHER), (.int (0 : Int32))]))
  refine own_st (fun _ kS => Jvm.RoadKit.acmp (g := (mkF m 12 #[.val (.ref w_FURTHER), .val (.int (0 : Int32))] [(.ref w_FIRST), (.ref w_FURTHER), (.int (0 : Int32))])) X2 hx rfl rfl rfl (pc0 := 12) (pc' := 19) (same := false) rfl (hb hby d1_12) rfl (decide_eq_false fun q => ne_FURTHER_FIRST (Value.ref.inj q)) (by decide) (by decide) kS) ?_
  show own_G p.tables e below _ (T2.setTop (mkF m 19 #[.val (.ref w_FURTHER), .val (.int (0 : Int32))] [(.int (0 : Int32))]))
  refine own_st (fun _ kS => XS.iconst X2.here hx rfl (hb hby d1_19) kS) ?_
  show own_G p.tables e below _ (T2.setTop (mkF m 20 #[.val (.ref w_FURTHER), .val (.int (0 : Int32))] [(.int (0 : Int32)), (.int (0 : Int32))]))
  refine own_st (fun _ kS => XS.icmpNo X2.here hx rfl (hb hby d1_20) rfl (teq (by decide : (0 : Int32) = (0 : Int32))).2 kS) ?_
  show own_G p.tables e below _ (T2.setTop (mkF m 23 #[.val (.ref w_FURTHER), .val (.int (0 : Int32))] []))
  refine own_st (fun _ kS => XS.iconst X2.here hx rfl (hb hby d1_23) kS) ?_
  show own_G p.tables e below _ (T2.setTop (mkF m 24 #[.val (.ref w_FURTHER), .val (.int (0 : Int32))] [(.int (1 : Int32))]))
  refine own_st (fun _ kS => XS.goto X2.here hx rfl (pc0 := 24) (pc' := 28) rfl (hb hby d1_24) (by decide) (by decide) kS) ?_
  show own_G p.tables e below _ (T2.setTop (mkF m 28 #[.val (.ref w_FURTHER), .val (.int (0 : Int32))] [(.int (1 : Int32))]))
  exact own_retN X2 hx hlk (t := .boolean) hret (by simp) (hb hby d1_28) (by decide) (by decide) (v' := (1 : Int32)) rfl (by rw [e2]; exact ⟨rfl, N0, rfl⟩)
theorem ef_admits_FURTHER_1 (m : MethodId) (x0 : Addr) : entryFrame m #[(.ref x0), (.int (1 : Int32))] 2 = mkF m 0 #[.val (.ref x0), .val (.int (1 : Int32))] [] := by first | (simp [entryFrame, mkF, argsToLocals, Value.category]; done) | rfl
def Q_admits_FURTHER_1 (Z : State) (w_FURTHER : Addr) (w_ANY : Addr) (w_FIRST : Addr) (h0 : Heap) (n0 : Nat) (v : Option Value) (h : Heap) (L : List Loc) : Prop := v = some (.int (0 : Int32)) ∧ Fr n0 L ∧ h = h0
set_option maxRecDepth 65536 in
set_option maxHeartbeats 40000000 in
theorem rm_admits_FURTHER_1 (l : Launch) (Z : State) (a0 : Array Value) (hw : ∀ d ∈ tables_1, d.before a0 Z = true) (ws : List Jvm.Cond) (w_FURTHER : Addr) (w_ANY : Addr) (w_FIRST : Addr) (h0 : Heap) (n0 : Nat) (Z0 : n0 ≤ h0.size) (O0 : Old Z n0 h0) (S_ANY : Sta Z Z.heap "com/example/cartouche/cartouche/crosswalks/Placement$Position" "ANY" "Lcom/example/cartouche/cartouche/crosswalks/Placement$Position;" (.ref w_ANY)) (S_FIRST : Sta Z Z.heap "com/example/cartouche/cartouche/crosswalks/Placement$Position" "FIRST" "Lcom/example/cartouche/cartouche/crosswalks/Placement$Position;" (.ref w_FIRST)) (ne_FURTHER_ANY : w_FURTHER ≠ w_ANY) (ne_FURTHER_FIRST : w_FURTHER ≠ w_FIRST) :
    MetFree l (⟨"com/example/cartouche/cartouche/crosswalks/Placement$Position", "admits", "(Z)Z"⟩ : MethodName) (head1 (Jvm.Cond.code (⟨"com/example/cartouche/cartouche/crosswalks/Placement$Position", "admits", "(Z)Z"⟩ : MethodName) prog_52_method_4_code 2 (some .boolean) :: ws) ({ frames := 0, cells := 0, slots := 0, locals := 0 } : Room)) (fun a U => a = #[(.ref w_FURTHER), (.int (1 : Int32))] ∧ Z.Warmed39 U.vm ∧ U.heap = h0) (fun _ _ _ _ _ => True) (fun _ U o U' => ∃ v L, o = .returned v ∧ Q_admits_FURTHER_1 Z w_FURTHER w_ANY w_FIRST h0 n0 v U'.heap L ∧ FrameEnd U o U' L ({ frames := 0, cells := 0, slots := 0, locals := 0 } : Room).cells ({ frames := 0, cells := 0, slots := 0, locals := 0 } : Room).slots) := by
  refine MetFree.of_bodySF (plainFor_of_name pn_1) hisR ?_
  intro p e s m args below meth c s₁ Bd hml0 hP hK
  obtain ⟨rfl, hZ, hh⟩ := hP
  have hx := Bd.exec
  have hby := Bd.bytes
  have hml : c.maxLocals = 2 := hml0
  have hown : s.vm.findClass "com/example/cartouche/cartouche/crosswalks/Placement$Position" = some m.cls := findClass_of_methodNamed Bd.named
  have hnm := (name_of_methodNamed Bd.named Bd.method).1
  have hlk := Bd.notSynchronized
  have hret := Bd.returns
  have X0 : Stand p l e ({ frames := 0, cells := 0, slots := 0, locals := 0 } : Room) s m #[(.ref w_FURTHER), (.int (1 : Int32))] below meth c s₁ [] 0 0 := Stand.of_body Bd
  have e0 : s₁.heap = h0 := by rw [← hh, Bd.state]; rfl
  have N0 := Fr.nil n0
  refine own_in ({ frames := 0, cells := 0, slots := 0, locals := 0 } : Room).cells ({ frames := 0, cells := 0, slots := 0, locals := 0 } : Room).slots (Q_admits_FURTHER_1 Z w_FURTHER w_ANY w_FIRST h0 n0) (ef_admits_FURTHER_1 m w_FURTHER) ?_
  show own_G p.tables e below _ (s₁.setTop (mkF m 0 #[.val (.ref w_FURTHER), .val (.int (1 : Int32))] []))
  refine own_st (fun _ kS => XS.aloadN X0.here hx rfl (hb hby d1_0) rfl rfl kS) ?_
  show own_G p.tables e below _ (s₁.setTop (mkF m 1 #[.val (.ref w_FURTHER), .val (.int (1 : Int32))] [(.ref w_FURTHER)]))
  obtain ⟨T1, X1, e1, st1⟩ := getS2 X0 hx hZ hown (host := "") (Or.inl (hw _ (List.mem_of_getElem? (i := 16) rfl))) Via.refl e0 (Sta.ext O0.2 S_ANY) (g := (mkF m 1 #[.val (.ref w_FURTHER), .val (.int (1 : Int32))] [(.ref w_FURTHER)])) rfl (hb hby d1_1)
  refine own_st st1 ?_
  show own_G p.tables e below _ (T1.setTop (mkF m 4 #[.val (.ref w_FURTHER), .val (.int (1 : Int32))] [(.ref w_ANY), (.ref w_FURTHER)]))
  refine own_st (fun _ kS => Jvm.RoadKit.acmp (g := (mkF m 4 #[.val (.ref w_FURTHER), .val (.int (1 : Int32))] [(.ref w_ANY), (.ref w_FURTHER)])) X1 hx rfl rfl rfl (pc0 := 4) (pc' := 7) (same := false) rfl (hb hby d1_4) rfl (decide_eq_false fun q => ne_FURTHER_ANY (Value.ref.inj q)) (by decide) (by decide) kS) ?_
  show own_G p.tables e below _ (T1.setTop (mkF m 7 #[.val (.ref w_FURTHER), .val (.int (1 : Int32))] []))
  refine own_st (fun _ kS => XS.iloadN X1.here hx rfl (hb hby d1_7) rfl kS) ?_
  show own_G p.tables e below _ (T1.setTop (mkF m 8 #[.val (.ref w_FURTHER), .val (.int (1 : Int32))] [(.int (1 : Int32))]))
  refine own_st (fun _ kS => XS.aloadN X1.here hx rfl (hb hby d1_8) rfl rfl kS) ?_
  show own_G p.tables e below _ (T1.setTop (mkF m 9 #[.val (.ref w_FURTHER), .val (.int (1 : Int32))] [(.ref w_FURTHER), (.int (1 : Int32))]))
  obtain ⟨T2, X2, e2, st2⟩ := getS2 X1 hx hZ hown (host := "") (Or.inl (hw _ (List.mem_of_getElem? (i := 17) rfl))) Via.refl e1 (Sta.ext O0.2 S_FIRST) (g := (mkF m 9 #[.val (.ref w_FURTHER), .val (.int (1 : Int32))] [(.ref w_FURTHER), (.int (1 : Int32))])) rfl (hb hby d1_9)
  refine own_st st2 ?_
  show own_G p.tables e below _ (T2.setTop (mkF m 12 #[.val (.ref w_FURTHER), .val (.int (1 : Int32))] [(.ref w_FIRST), (.ref w_FURTHER), (.int (1 : Int32))]))
  refine own_st (fun _ kS => Jvm.RoadKit.acmp (g := (mkF m 12 #[.val (.ref w_FURTHER), .val (.int (1 : Int32))] [(.ref w_FIRST), (.ref w_FURTHER), (.int (1 : Int32))])) X2 hx rfl rfl rfl (pc0 := 12) (pc' := 19) (same := false) rfl (hb hby d1_12) rfl (decide_eq_false fun q => ne_FURTHER_FIRST (Value.ref.inj q)) (by decide) (by decide) kS) ?_
  show own_G p.tables e below _ (T2.setTop (mkF m 19 #[.val (.ref w_FURTHER), .val (.int (1 : Int32))] [(.int (1 : Int32))]))
  refine own_st (fun _ kS => XS.iconst X2.here hx rfl (hb hby d1_19) kS) ?_
  show own_G p.tables e below _ (T2.setTop (mkF m 20 #[.val (.ref w_FURTHER), .val (.int (1 : Int32))] [(.int (0 : Int32)), (.int (1 : Int32))]))
  refine own_st (fun _ kS => XS.icmpYes X2.here hx rfl (pc0 := 20) (pc' := 27) rfl (hb hby d1_20) rfl (feq (by decide : ¬ ((1 : Int32) = (0 : Int32)))).2 (by decide) (by decide) kS) ?_
  show own_G p.tables e below _ (T2.setTop (mkF m 27 #[.val (.ref w_FURTHER), .val (.int (1 : Int32))] []))
  refine own_st (fun _ kS => XS.iconst X2.here hx rfl (hb hby d1_27) kS) ?_
  show own_G p.tables e below _ (T2.setTop (mkF m 28 #[.val (.ref w_FURTHER), .val (.int (1 : Int32))] [(.int (0 : Int32))]))
  exact own_retN X2 hx hlk (t := .boolean) hret (by simp) (hb hby d1_28) (by decide) (by decide) (v' := (0 : Int32)) rfl (by rw [e2]; exact ⟨rfl, N0, rfl⟩)
theorem pn_0 : plainName "com/example/cartouche/cartouche/crosswalks/PositionAdmitsPinLaw" = true := by first | (simp [plainName, overriddenIn]; done) | decide +kernel
def Q_law (n0 : Nat) (v : Option Value) (h : Heap) (L : List Loc) : Prop := v = some (.int (1 : Int32)) ∧ Fr n0 L
theorem own_pd0 : parseMethodDescriptor "(Z)Z" = some ⟨[.boolean], some .boolean⟩ := by decide +kernel
theorem ef_law (m : MethodId) (x0 : Int32) (x1 : Int32) : entryFrame m #[(.int x0), (.int x1)] maxLocals = mkF m 0 #[.val (.int x0), .val (.int x1), .unset, .unset, .unset, .unset, .unset] [] := by first | (simp [entryFrame, mkF, argsToLocals, Value.category, maxLocals]; done) | rfl
set_option maxRecDepth 65536 in
set_option maxHeartbeats 40000000 in
theorem rm_law (l : Launch) (Z : State) (a0 : Array Value) (hw : ∀ d ∈ tables_1, d.before a0 Z = true) (ws : List Jvm.Cond) (p1 : Int32) (p2 : Int32) (w_ANY : Addr) (w_FIRST : Addr) (w_FURTHER : Addr) (h0 : Heap) (n0 : Nat) (Z0 : n0 ≤ h0.size) (O0 : Old Z n0 h0) (S_ANY : Sta Z Z.heap "com/example/cartouche/cartouche/crosswalks/Placement$Position" "ANY" "Lcom/example/cartouche/cartouche/crosswalks/Placement$Position;" (.ref w_ANY)) (S_FIRST : Sta Z Z.heap "com/example/cartouche/cartouche/crosswalks/Placement$Position" "FIRST" "Lcom/example/cartouche/cartouche/crosswalks/Placement$Position;" (.ref w_FIRST)) (S_FURTHER : Sta Z Z.heap "com/example/cartouche/cartouche/crosswalks/Placement$Position" "FURTHER" "Lcom/example/cartouche/cartouche/crosswalks/Placement$Position;" (.ref w_FURTHER)) (E_ANY : Exa Z Z.heap w_ANY "com/example/cartouche/cartouche/crosswalks/Placement$Position") (E_FIRST : Exa Z Z.heap w_FIRST "com/example/cartouche/cartouche/crosswalks/Placement$Position") (E_FURTHER : Exa Z Z.heap w_FURTHER "com/example/cartouche/cartouche/crosswalks/Placement$Position") (ne_ANY_FIRST : w_ANY ≠ w_FIRST) (ne_FIRST_ANY : w_FIRST ≠ w_ANY) (ne_FURTHER_ANY : w_FURTHER ≠ w_ANY) (ne_FURTHER_FIRST : w_FURTHER ≠ w_FIRST) :
    MetFree l x (head1 (Jvm.Cond.code x code maxLocals ret :: ws) room_1) (fun a U => a = #[(.int p1), (.int p2)] ∧ Z.Warmed39 U.vm ∧ U.heap = h0) (fun _ _ _ _ _ => True) (fun _ U o U' => ∃ v L, o = .returned v ∧ Q_law n0 v U'.heap L ∧ FrameEnd U o U' L room_1.cells room_1.slots) := by
  refine MetFree.of_bodySF (plainFor_of_name pn_0) hisR ?_
  intro p e s m args below meth c s₁ Bd hml0 hP hK
  obtain ⟨rfl, hZ, hh⟩ := hP
  have hx := Bd.exec
  have hby := Bd.bytes
  have hml : c.maxLocals = 7 := hml0
  have hown : s.vm.findClass "com/example/cartouche/cartouche/crosswalks/PositionAdmitsPinLaw" = some m.cls := findClass_of_methodNamed Bd.named
  have hnm := (name_of_methodNamed Bd.named Bd.method).1
  have hlk := Bd.notSynchronized
  have hret := Bd.returns
  have X0 : Stand p l e room_1 s m #[(.int p1), (.int p2)] below meth c s₁ [] 0 0 := Stand.of_body Bd
  have e0 : s₁.heap = h0 := by rw [← hh, Bd.state]; rfl
  have N0 := Fr.nil n0
  refine own_in room_1.cells room_1.slots (Q_law n0) (ef_law m p1 p2) ?_
  show own_G p.tables e below _ (s₁.setTop (mkF m 0 #[.val (.int p1), .val (.int p2), .unset, .unset, .unset, .unset, .unset] []))
  refine own_st (fun _ kS => XS.iconst X0.here hx rfl (hb hby at_0) kS) ?_
  show own_G p.tables e below _ (s₁.setTop (mkF m 1 #[.val (.int p1), .val (.int p2), .unset, .unset, .unset, .unset, .unset] [(.int (3 : Int32))]))
  obtain ⟨T1, h1, k1, X1, e1, E1, A1, V1, st1⟩ := newR X0 hx hZ hown (hw _ (List.mem_of_getElem? (i := 0) rfl)) (hw _ (List.mem_of_getElem? (i := 1) rfl)) e0 (g := (mkF m 1 #[.val (.int p1), .val (.int p2), .unset, .unset, .unset, .unset, .unset] [(.int (3 : Int32))])) rfl (hb hby at_1) rfl (by decide) (cap := 3) (by decide) (by decide) (by decide) (by decide)
  obtain ⟨b1, g1⟩ : ∃ z, z = h0.size := ⟨_, rfl⟩
  have ge_b1 : n0 ≤ b1 := Nat.le_trans Z0 (Nat.le_of_eq g1.symm)
  rw [← g1] at A1 st1
  have O1 := O0.ext E1
  have R1 : Arv Z h1 b1 k1 (.object "com/example/cartouche/cartouche/crosswalks/Placement$Position") (3 : Int32) [.null, .null, .null] .null := (Arv.new A1 (by decide)).pad (pad_rep [] .null 3)
  refine own_st st1 ?_
  show own_G p.tables e below _ (T1.setTop (mkF m 4 #[.val (.int p1), .val (.int p2), .unset, .unset, .unset, .unset, .unset] [(.ref b1)]))
  refine own_st (fun _ kS => XS.dup X1.here hx rfl (hb hby at_4) rfl rfl kS) ?_
  show own_G p.tables e below _ (T1.setTop (mkF m 5 #[.val (.int p1), .val (.int p2), .unset, .unset, .unset, .unset, .unset] [(.ref b1), (.ref b1)]))
  refine own_st (fun _ kS => XS.iconst X1.here hx rfl (hb hby at_5) kS) ?_
  show own_G p.tables e below _ (T1.setTop (mkF m 6 #[.val (.int p1), .val (.int p2), .unset, .unset, .unset, .unset, .unset] [(.int (0 : Int32)), (.ref b1), (.ref b1)]))
  obtain ⟨T2, X2, e2, st2⟩ := getS2 X1 hx hZ hown (host := "") (Or.inl (hw _ (List.mem_of_getElem? (i := 2) rfl))) Via.refl e1 (Sta.ext O1.2 S_ANY) (g := (mkF m 6 #[.val (.int p1), .val (.int p2), .unset, .unset, .unset, .unset, .unset] [(.int (0 : Int32)), (.ref b1), (.ref b1)])) rfl (hb hby at_6)
  refine own_st st2 ?_
  show own_G p.tables e below _ (T2.setTop (mkF m 9 #[.val (.int p1), .val (.int p2), .unset, .unset, .unset, .unset, .unset] [(.ref w_ANY), (.int (0 : Int32)), (.ref b1), (.ref b1)]))
  obtain ⟨cl3, Ar3, qa3, qs3, qn3, qh3, qg3⟩ := R1
  obtain ⟨T3, h3, X3, e3, W3, st3⟩ := stR X2 hx hZ e2 Ar3 (j := (0 : Int32)) (inb_of qs3 ⟨by decide, by decide⟩) rfl (Sto.ofV Ar3 qa3 V1 (Ins.self (Exa.ext O1.2 E_ANY))) (g := (mkF m 9 #[.val (.int p1), .val (.int p2), .unset, .unset, .unset, .unset, .unset] [(.ref w_ANY), (.int (0 : Int32)), (.ref b1), (.ref b1)])) rfl rfl (hb hby at_9)
  have N3 := Fr.snoc X3 N0 ge_b1
  have O3 := O1.wr W3 ge_b1
  have R3 : Arv Z h3 b1 k1 (.object "com/example/cartouche/cartouche/crosswalks/Placement$Position") (3 : Int32) [(.ref w_ANY), .null, .null] .null := Arv.set Ar3 qa3 qs3 qn3 qh3 qg3 rfl W3 0 rfl (Nat.le_of_ble_eq_true rfl)
  refine own_st st3 ?_
  show own_G p.tables e below _ (T3.setTop (mkF m 10 #[.val (.int p1), .val (.int p2), .unset, .unset, .unset, .unset, .unset] [(.ref b1)]))
  refine own_st (fun _ kS => XS.dup X3.here hx rfl (hb hby at_10) rfl rfl kS) ?_
  show own_G p.tables e below _ (T3.setTop (mkF m 11 #[.val (.int p1), .val (.int p2), .unset, .unset, .unset, .unset, .unset] [(.ref b1), (.ref b1)]))
  refine own_st (fun _ kS => XS.iconst X3.here hx rfl (hb hby at_11) kS) ?_
  show own_G p.tables e below _ (T3.setTop (mkF m 12 #[.val (.int p1), .val (.int p2), .unset, .unset, .unset, .unset, .unset] [(.int (1 : Int32)), (.ref b1), (.ref b1)]))
  obtain ⟨T4, X4, e4, st4⟩ := getS2 X3 hx hZ hown (host := "") (Or.inl (hw _ (List.mem_of_getElem? (i := 6) rfl))) Via.refl e3 (Sta.ext O3.2 S_FIRST) (g := (mkF m 12 #[.val (.int p1), .val (.int p2), .unset, .unset, .unset, .unset, .unset] [(.int (1 : Int32)), (.ref b1), (.ref b1)])) rfl (hb hby at_12)
  refine own_st st4 ?_
  show own_G p.tables e below _ (T4.setTop (mkF m 15 #[.val (.int p1), .val (.int p2), .unset, .unset, .unset, .unset, .unset] [(.ref w_FIRST), (.int (1 : Int32)), (.ref b1), (.ref b1)]))
  obtain ⟨cl5, Ar5, qa5, qs5, qn5, qh5, qg5⟩ := R3
  obtain ⟨T5, h5, X5, e5, W5, st5⟩ := stR X4 hx hZ e4 Ar5 (j := (1 : Int32)) (inb_of qs5 ⟨by decide, by decide⟩) rfl (Sto.ofV Ar5 qa5 V1 (Ins.self (Exa.ext O3.2 E_FIRST))) (g := (mkF m 15 #[.val (.int p1), .val (.int p2), .unset, .unset, .unset, .unset, .unset] [(.ref w_FIRST), (.int (1 : Int32)), (.ref b1), (.ref b1)])) rfl rfl (hb hby at_15)
  have N5 := Fr.snoc X5 N3 ge_b1
  have O5 := O3.wr W5 ge_b1
  have R5 : Arv Z h5 b1 k1 (.object "com/example/cartouche/cartouche/crosswalks/Placement$Position") (3 : Int32) [(.ref w_ANY), (.ref w_FIRST), .null] .null := Arv.set Ar5 qa5 qs5 qn5 qh5 qg5 rfl W5 1 rfl (Nat.le_of_ble_eq_true rfl)
  refine own_st st5 ?_
  show own_G p.tables e below _ (T5.setTop (mkF m 16 #[.val (.int p1), .val (.int p2), .unset, .unset, .unset, .unset, .unset] [(.ref b1)]))
  refine own_st (fun _ kS => XS.dup X5.here hx rfl (hb hby at_16) rfl rfl kS) ?_
  show own_G p.tables e below _ (T5.setTop (mkF m 17 #[.val (.int p1), .val (.int p2), .unset, .unset, .unset, .unset, .unset] [(.ref b1), (.ref b1)]))
  refine own_st (fun _ kS => XS.iconst X5.here hx rfl (hb hby at_17) kS) ?_
  show own_G p.tables e below _ (T5.setTop (mkF m 18 #[.val (.int p1), .val (.int p2), .unset, .unset, .unset, .unset, .unset] [(.int (2 : Int32)), (.ref b1), (.ref b1)]))
  obtain ⟨T6, X6, e6, st6⟩ := getS2 X5 hx hZ hown (host := "") (Or.inl (hw _ (List.mem_of_getElem? (i := 8) rfl))) Via.refl e5 (Sta.ext O5.2 S_FURTHER) (g := (mkF m 18 #[.val (.int p1), .val (.int p2), .unset, .unset, .unset, .unset, .unset] [(.int (2 : Int32)), (.ref b1), (.ref b1)])) rfl (hb hby at_18)
  refine own_st st6 ?_
  show own_G p.tables e below _ (T6.setTop (mkF m 21 #[.val (.int p1), .val (.int p2), .unset, .unset, .unset, .unset, .unset] [(.ref w_FURTHER), (.int (2 : Int32)), (.ref b1), (.ref b1)]))
  obtain ⟨cl7, Ar7, qa7, qs7, qn7, qh7, qg7⟩ := R5
  obtain ⟨T7, h7, X7, e7, W7, st7⟩ := stR X6 hx hZ e6 Ar7 (j := (2 : Int32)) (inb_of qs7 ⟨by decide, by decide⟩) rfl (Sto.ofV Ar7 qa7 V1 (Ins.self (Exa.ext O5.2 E_FURTHER))) (g := (mkF m 21 #[.val (.int p1), .val (.int p2), .unset, .unset, .unset, .unset, .unset] [(.ref w_FURTHER), (.int (2 : Int32)), (.ref b1), (.ref b1)])) rfl rfl (hb hby at_21)
  have N7 := Fr.snoc X7 N5 ge_b1
  have O7 := O5.wr W7 ge_b1
  have R7 : Arv Z h7 b1 k1 (.object "com/example/cartouche/cartouche/crosswalks/Placement$Position") (3 : Int32) [(.ref w_ANY), (.ref w_FIRST), (.ref w_FURTHER)] .null := Arv.set Ar7 qa7 qs7 qn7 qh7 qg7 rfl W7 2 rfl (Nat.le_of_ble_eq_true rfl)
  refine own_st st7 ?_
  show own_G p.tables e below _ (T7.setTop (mkF m 22 #[.val (.int p1), .val (.int p2), .unset, .unset, .unset, .unset, .unset] [(.ref b1)]))
  refine own_st (fun _ kS => XS.astoreN X7.here hx rfl (hb hby at_22) rfl rfl (l' := #[.val (.int p1), .val (.int p2), .val (.ref b1), .unset, .unset, .unset, .unset]) rfl kS) ?_
  show own_G p.tables e below _ (T7.setTop (mkF m 23 #[.val (.int p1), .val (.int p2), .val (.ref b1), .unset, .unset, .unset, .unset] []))
  refine own_st (fun _ kS => XS.iloadN X7.here hx rfl (hb hby at_23) rfl kS) ?_
  show own_G p.tables e below _ (T7.setTop (mkF m 24 #[.val (.int p1), .val (.int p2), .val (.ref b1), .unset, .unset, .unset, .unset] [(.int p1)]))
  refine own_st (fun _ kS => X7.ldcInt hx hown (mvT hZ (hw _ (List.mem_of_getElem? (i := 10) rfl))) (g := (mkF m 24 #[.val (.int p1), .val (.int p2), .val (.ref b1), .unset, .unset, .unset, .unset] [(.int p1)])) rfl (hb hby at_24) _ kS) ?_
  show own_G p.tables e below _ (T7.setTop (mkF m 26 #[.val (.int p1), .val (.int p2), .val (.ref b1), .unset, .unset, .unset, .unset] [(.int (2147483647 : Int32)), (.int p1)]))
  refine own_st (fun _ kS => XS.iand X7.here hx rfl (hb hby at_26) rfl kS) ?_
  show own_G p.tables e below _ (T7.setTop (mkF m 27 #[.val (.int p1), .val (.int p2), .val (.ref b1), .unset, .unset, .unset, .unset] [(.int (p1 &&& (2147483647 : Int32)))]))
  refine own_st (fun _ kS => XS.iconst X7.here hx rfl (hb hby at_27) kS) ?_
  show own_G p.tables e below _ (T7.setTop (mkF m 28 #[.val (.int p1), .val (.int p2), .val (.ref b1), .unset, .unset, .unset, .unset] [(.int (3 : Int32)), (.int (p1 &&& (2147483647 : Int32)))]))
  refine own_st (fun _ kS => iremM (g := (mkF m 28 #[.val (.int p1), .val (.int p2), .val (.ref b1), .unset, .unset, .unset, .unset] [(.int (3 : Int32)), (.int (p1 &&& (2147483647 : Int32)))])) X7 hx rfl (hb hby at_28) rfl (by decide) kS) ?_
  show own_G p.tables e below _ (T7.setTop (mkF m 29 #[.val (.int p1), .val (.int p2), .val (.ref b1), .unset, .unset, .unset, .unset] [(.int ((p1 &&& (2147483647 : Int32)) % (3 : Int32)))]))
  rcases own_mod3 p1 with hk8 | hk8 | hk8
  · rw [hk8]
    show own_G p.tables e below _ (T7.setTop (mkF m 29 #[.val (.int p1), .val (.int p2), .val (.ref b1), .unset, .unset, .unset, .unset] [(.int (0 : Int32))]))
    refine own_st (fun _ kS => XS.istoreN X7.here hx rfl (hb hby at_29) rfl (l' := #[.val (.int p1), .val (.int p2), .val (.ref b1), .val (.int (0 : Int32)), .unset, .unset, .unset]) rfl kS) ?_
    show own_G p.tables e below _ (T7.setTop (mkF m 30 #[.val (.int p1), .val (.int p2), .val (.ref b1), .val (.int (0 : Int32)), .unset, .unset, .unset] []))
    refine own_st (fun _ kS => XS.iloadN X7.here hx rfl (hb hby at_30) rfl kS) ?_
    show own_G p.tables e below _ (T7.setTop (mkF m 31 #[.val (.int p1), .val (.int p2), .val (.ref b1), .val (.int (0 : Int32)), .unset, .unset, .unset] [(.int p2)]))
    refine own_st (fun _ kS => XS.iconst X7.here hx rfl (hb hby at_31) kS) ?_
    show own_G p.tables e below _ (T7.setTop (mkF m 32 #[.val (.int p1), .val (.int p2), .val (.ref b1), .val (.int (0 : Int32)), .unset, .unset, .unset] [(.int (1 : Int32)), (.int p2)]))
    refine own_st (fun _ kS => XS.iand X7.here hx rfl (hb hby at_32) rfl kS) ?_
    show own_G p.tables e below _ (T7.setTop (mkF m 33 #[.val (.int p1), .val (.int p2), .val (.ref b1), .val (.int (0 : Int32)), .unset, .unset, .unset] [(.int (p2 &&& (1 : Int32)))]))
    by_cases hc33_9 : (p2 &&& (1 : Int32)) = (0 : Int32)
    · skip
      refine own_st (fun _ kS => XS.ifYes X7.here hx rfl (pc0 := 33) (pc' := 40) rfl (hb hby at_33) rfl ((if0 _ _).trans (teq hc33_9).1) (by decide) (by decide) kS) ?_
      show own_G p.tables e below _ (T7.setTop (mkF m 40 #[.val (.int p1), .val (.int p2), .val (.ref b1), .val (.int (0 : Int32)), .unset, .unset, .unset] []))
      refine own_st (fun _ kS => XS.iconst X7.here hx rfl (hb hby at_40) kS) ?_
      show own_G p.tables e below _ (T7.setTop (mkF m 41 #[.val (.int p1), .val (.int p2), .val (.ref b1), .val (.int (0 : Int32)), .unset, .unset, .unset] [(.int (0 : Int32))]))
      refine own_st (fun _ kS => XS.istore X7.here hx rfl (hb hby at_41) rfl (l' := #[.val (.int p1), .val (.int p2), .val (.ref b1), .val (.int (0 : Int32)), .val (.int (0 : Int32)), .unset, .unset]) rfl kS) ?_
      show own_G p.tables e below _ (T7.setTop (mkF m 43 #[.val (.int p1), .val (.int p2), .val (.ref b1), .val (.int (0 : Int32)), .val (.int (0 : Int32)), .unset, .unset] []))
      refine own_st (fun _ kS => XS.aloadN X7.here hx rfl (hb hby at_43) rfl rfl kS) ?_
      show own_G p.tables e below _ (T7.setTop (mkF m 44 #[.val (.int p1), .val (.int p2), .val (.ref b1), .val (.int (0 : Int32)), .val (.int (0 : Int32)), .unset, .unset] [(.ref b1)]))
      refine own_st (fun _ kS => XS.iloadN X7.here hx rfl (hb hby at_44) rfl kS) ?_
      show own_G p.tables e below _ (T7.setTop (mkF m 45 #[.val (.int p1), .val (.int p2), .val (.ref b1), .val (.int (0 : Int32)), .val (.int (0 : Int32)), .unset, .unset] [(.int (0 : Int32)), (.ref b1)]))
      obtain ⟨cl10, Ar10, qa10, qs10, qn10, qh10, qg10⟩ := R7
      refine own_st (fun _ kS => X7.aaload hx (j := (0 : Int32)) (v := (.ref w_ANY)) (by rw [e7]; exact Ar10.1) (State.isArrayOf_alike hZ.alike Ar10.2.1) rfl Ar10.2.2 (inb_of qs10 ⟨by decide, by decide⟩) (qh10.at (inb_of qs10 ⟨by decide, by decide⟩) rfl) (g := (mkF m 45 #[.val (.int p1), .val (.int p2), .val (.ref b1), .val (.int (0 : Int32)), .val (.int (0 : Int32)), .unset, .unset] [(.int (0 : Int32)), (.ref b1)])) rfl rfl (hb hby at_45) _ kS) ?_
      show own_G p.tables e below _ (T7.setTop (mkF m 46 #[.val (.int p1), .val (.int p2), .val (.ref b1), .val (.int (0 : Int32)), .val (.int (0 : Int32)), .unset, .unset] [(.ref w_ANY)]))
      refine own_st (fun _ kS => XS.astore X7.here hx rfl (hb hby at_46) rfl rfl (l' := #[.val (.int p1), .val (.int p2), .val (.ref b1), .val (.int (0 : Int32)), .val (.int (0 : Int32)), .val (.ref w_ANY), .unset]) rfl kS) ?_
      show own_G p.tables e below _ (T7.setTop (mkF m 48 #[.val (.int p1), .val (.int p2), .val (.ref b1), .val (.int (0 : Int32)), .val (.int (0 : Int32)), .val (.ref w_ANY), .unset] []))
      refine own_st (fun _ kS => XS.iloadN X7.here hx rfl (hb hby at_48) rfl kS) ?_
      show own_G p.tables e below _ (T7.setTop (mkF m 49 #[.val (.int p1), .val (.int p2), .val (.ref b1), .val (.int (0 : Int32)), .val (.int (0 : Int32)), .val (.ref w_ANY), .unset] [(.int (0 : Int32))]))
      refine own_st (fun _ kS => XS.ifNo X7.here hx rfl (hb hby at_49) rfl ((if0 _ _).trans (teq (by decide : (0 : Int32) = (0 : Int32))).2) kS) ?_
      show own_G p.tables e below _ (T7.setTop (mkF m 52 #[.val (.int p1), .val (.int p2), .val (.ref b1), .val (.int (0 : Int32)), .val (.int (0 : Int32)), .val (.ref w_ANY), .unset] []))
      refine own_st (fun _ kS => XS.iconst X7.here hx rfl (hb hby at_52) kS) ?_
      show own_G p.tables e below _ (T7.setTop (mkF m 53 #[.val (.int p1), .val (.int p2), .val (.ref b1), .val (.int (0 : Int32)), .val (.int (0 : Int32)), .val (.ref w_ANY), .unset] [(.int (1 : Int32))]))
      refine own_st (fun _ kS => XS.istore X7.here hx rfl (hb hby at_53) rfl (l' := #[.val (.int p1), .val (.int p2), .val (.ref b1), .val (.int (0 : Int32)), .val (.int (0 : Int32)), .val (.ref w_ANY), .val (.int (1 : Int32))]) rfl kS) ?_
      show own_G p.tables e below _ (T7.setTop (mkF m 55 #[.val (.int p1), .val (.int p2), .val (.ref b1), .val (.int (0 : Int32)), .val (.int (0 : Int32)), .val (.ref w_ANY), .val (.int (1 : Int32))] []))
      refine own_st (fun _ kS => XS.goto X7.here hx rfl (pc0 := 55) (pc' := 82) rfl (hb hby at_55) (by decide) (by decide) kS) ?_
      show own_G p.tables e below _ (T7.setTop (mkF m 82 #[.val (.int p1), .val (.int p2), .val (.ref b1), .val (.int (0 : Int32)), .val (.int (0 : Int32)), .val (.ref w_ANY), .val (.int (1 : Int32))] []))
      refine own_st (fun _ kS => XS.aload X7.here hx rfl (hb hby at_82) rfl rfl kS) ?_
      show own_G p.tables e below _ (T7.setTop (mkF m 84 #[.val (.int p1), .val (.int p2), .val (.ref b1), .val (.int (0 : Int32)), .val (.int (0 : Int32)), .val (.ref w_ANY), .val (.int (1 : Int32))] [(.ref w_ANY)]))
      refine own_st (fun _ kS => XS.iload X7.here hx rfl (hb hby at_84) rfl kS) ?_
      show own_G p.tables e below _ (T7.setTop (mkF m 86 #[.val (.int p1), .val (.int p2), .val (.ref b1), .val (.int (0 : Int32)), .val (.int (0 : Int32)), .val (.ref w_ANY), .val (.int (1 : Int32))] [(.int (0 : Int32)), (.ref w_ANY)]))
      obtain ⟨cq11, kq11, q11a, q11b, q11c⟩ := isOf hZ e7 (Exa.ext O7.2 E_ANY)
      obtain ⟨_, _, ⟨T11, L11, k11, n11⟩, -, X11, ⟨Lc11, hQ11, l11, y11, z11⟩, st11⟩ := X7.virtualBack hx (y := (⟨"com/example/cartouche/cartouche/crosswalks/Placement$Position", "admits", "(Z)Z"⟩ : MethodName)) (z := (⟨"com/example/cartouche/cartouche/crosswalks/Placement$Position", "admits", "(Z)Z"⟩ : MethodName)) hown (mvT hZ (hw _ (List.mem_of_getElem? (i := 11) rfl))) (mvT hZ (hw _ (List.mem_of_getElem? (i := 12) rfl))) (notFace_of_selects (args := #[]) (mvT hZ (hw _ (List.mem_of_getElem? (i := 14) rfl)))) (mvT hZ (hw _ (List.mem_of_getElem? (i := 14) rfl))) (mvT hZ (hw _ (List.mem_of_getElem? (i := 13) rfl))) (by decide) (backOf (W := 0) (rm_admits_ANY_0 l Z a0 hw [] w_ANY h7 n0 (Nat.le_trans (Nat.le_trans (Nat.le_trans (Nat.le_trans Z0 E1.1) (Keep.of_wr W3).1) (Keep.of_wr W5).1) (Keep.of_wr W7).1) O7 S_ANY) hZ (hw _ (List.mem_of_getElem? (i := 15) rfl)) (hw _ (List.mem_of_getElem? (i := 3) rfl)) (by decide) (by decide)) q11a q11c (g := (mkF m 86 #[.val (.int p1), .val (.int p2), .val (.ref b1), .val (.int (0 : Int32)), .val (.int (0 : Int32)), .val (.ref w_ANY), .val (.int (1 : Int32))] [(.int (0 : Int32)), (.ref w_ANY)])) rfl (by rw [hml]; rfl) (Steps.refl _) (argsL := [(.int (0 : Int32))]) (rest := []) (lenOf own_pd0 rfl) rfl (by show 2 * 0 + _ ≤ _; exact Nat.le_of_eq rfl) (hb hby at_86) (fun _ _ => ⟨rfl, e7, (by decide : 1 + 0 ≤ _), (by decide : 3 + 0 ≤ _)⟩)
      dsimp only [Pt.U, Pt.locs, Pt.cells, Pt.slots] at X11 l11 y11 z11 st11 hQ11
      subst l11 y11 z11
      obtain ⟨rfl, Nq11, eq11⟩ := hQ11
      have N11 := Fr.app N7 Nq11
      refine own_tr st11 ?_
      show own_G p.tables e below _ (T11.setTop (mkF m 89 #[.val (.int p1), .val (.int p2), .val (.ref b1), .val (.int (0 : Int32)), .val (.int (0 : Int32)), .val (.ref w_ANY), .val (.int (1 : Int32))] [(.int (1 : Int32))]))
      refine own_st (fun _ kS => XS.iload X11.here hx rfl (hb hby at_89) rfl kS) ?_
      show own_G p.tables e below _ (T11.setTop (mkF m 91 #[.val (.int p1), .val (.int p2), .val (.ref b1), .val (.int (0 : Int32)), .val (.int (0 : Int32)), .val (.ref w_ANY), .val (.int (1 : Int32))] [(.int (1 : Int32)), (.int (1 : Int32))]))
      refine own_st (fun _ kS => XS.icmpNo X11.here hx rfl (hb hby at_91) rfl (teq (by decide : (1 : Int32) = (1 : Int32))).2 kS) ?_
      show own_G p.tables e below _ (T11.setTop (mkF m 94 #[.val (.int p1), .val (.int p2), .val (.ref b1), .val (.int (0 : Int32)), .val (.int (0 : Int32)), .val (.ref w_ANY), .val (.int (1 : Int32))] []))
      refine own_st (fun _ kS => XS.iconst X11.here hx rfl (hb hby at_94) kS) ?_
      show own_G p.tables e below _ (T11.setTop (mkF m 95 #[.val (.int p1), .val (.int p2), .val (.ref b1), .val (.int (0 : Int32)), .val (.int (0 : Int32)), .val (.ref w_ANY), .val (.int (1 : Int32))] [(.int (1 : Int32))]))
      refine own_st (fun _ kS => XS.goto X11.here hx rfl (pc0 := 95) (pc' := 99) rfl (hb hby at_95) (by decide) (by decide) kS) ?_
      show own_G p.tables e below _ (T11.setTop (mkF m 99 #[.val (.int p1), .val (.int p2), .val (.ref b1), .val (.int (0 : Int32)), .val (.int (0 : Int32)), .val (.ref w_ANY), .val (.int (1 : Int32))] [(.int (1 : Int32))]))
      exact own_retN X11 hx hlk (t := .boolean) hret (by simp) (hb hby at_99) (by decide) (by decide) (v' := (1 : Int32)) rfl (by rw [eq11]; exact ⟨rfl, N11⟩)
    · skip
      refine own_st (fun _ kS => XS.ifNo X7.here hx rfl (hb hby at_33) rfl ((if0 _ _).trans (feq hc33_9).1) kS) ?_
      show own_G p.tables e below _ (T7.setTop (mkF m 36 #[.val (.int p1), .val (.int p2), .val (.ref b1), .val (.int (0 : Int32)), .unset, .unset, .unset] []))
      refine own_st (fun _ kS => XS.iconst X7.here hx rfl (hb hby at_36) kS) ?_
      show own_G p.tables e below _ (T7.setTop (mkF m 37 #[.val (.int p1), .val (.int p2), .val (.ref b1), .val (.int (0 : Int32)), .unset, .unset, .unset] [(.int (1 : Int32))]))
      refine own_st (fun _ kS => XS.goto X7.here hx rfl (pc0 := 37) (pc' := 41) rfl (hb hby at_37) (by decide) (by decide) kS) ?_
      show own_G p.tables e below _ (T7.setTop (mkF m 41 #[.val (.int p1), .val (.int p2), .val (.ref b1), .val (.int (0 : Int32)), .unset, .unset, .unset] [(.int (1 : Int32))]))
      refine own_st (fun _ kS => XS.istore X7.here hx rfl (hb hby at_41) rfl (l' := #[.val (.int p1), .val (.int p2), .val (.ref b1), .val (.int (0 : Int32)), .val (.int (1 : Int32)), .unset, .unset]) rfl kS) ?_
      show own_G p.tables e below _ (T7.setTop (mkF m 43 #[.val (.int p1), .val (.int p2), .val (.ref b1), .val (.int (0 : Int32)), .val (.int (1 : Int32)), .unset, .unset] []))
      refine own_st (fun _ kS => XS.aloadN X7.here hx rfl (hb hby at_43) rfl rfl kS) ?_
      show own_G p.tables e below _ (T7.setTop (mkF m 44 #[.val (.int p1), .val (.int p2), .val (.ref b1), .val (.int (0 : Int32)), .val (.int (1 : Int32)), .unset, .unset] [(.ref b1)]))
      refine own_st (fun _ kS => XS.iloadN X7.here hx rfl (hb hby at_44) rfl kS) ?_
      show own_G p.tables e below _ (T7.setTop (mkF m 45 #[.val (.int p1), .val (.int p2), .val (.ref b1), .val (.int (0 : Int32)), .val (.int (1 : Int32)), .unset, .unset] [(.int (0 : Int32)), (.ref b1)]))
      obtain ⟨cl12, Ar12, qa12, qs12, qn12, qh12, qg12⟩ := R7
      refine own_st (fun _ kS => X7.aaload hx (j := (0 : Int32)) (v := (.ref w_ANY)) (by rw [e7]; exact Ar12.1) (State.isArrayOf_alike hZ.alike Ar12.2.1) rfl Ar12.2.2 (inb_of qs12 ⟨by decide, by decide⟩) (qh12.at (inb_of qs12 ⟨by decide, by decide⟩) rfl) (g := (mkF m 45 #[.val (.int p1), .val (.int p2), .val (.ref b1), .val (.int (0 : Int32)), .val (.int (1 : Int32)), .unset, .unset] [(.int (0 : Int32)), (.ref b1)])) rfl rfl (hb hby at_45) _ kS) ?_
      show own_G p.tables e below _ (T7.setTop (mkF m 46 #[.val (.int p1), .val (.int p2), .val (.ref b1), .val (.int (0 : Int32)), .val (.int (1 : Int32)), .unset, .unset] [(.ref w_ANY)]))
      refine own_st (fun _ kS => XS.astore X7.here hx rfl (hb hby at_46) rfl rfl (l' := #[.val (.int p1), .val (.int p2), .val (.ref b1), .val (.int (0 : Int32)), .val (.int (1 : Int32)), .val (.ref w_ANY), .unset]) rfl kS) ?_
      show own_G p.tables e below _ (T7.setTop (mkF m 48 #[.val (.int p1), .val (.int p2), .val (.ref b1), .val (.int (0 : Int32)), .val (.int (1 : Int32)), .val (.ref w_ANY), .unset] []))
      refine own_st (fun _ kS => XS.iloadN X7.here hx rfl (hb hby at_48) rfl kS) ?_
      show own_G p.tables e below _ (T7.setTop (mkF m 49 #[.val (.int p1), .val (.int p2), .val (.ref b1), .val (.int (0 : Int32)), .val (.int (1 : Int32)), .val (.ref w_ANY), .unset] [(.int (0 : Int32))]))
      refine own_st (fun _ kS => XS.ifNo X7.here hx rfl (hb hby at_49) rfl ((if0 _ _).trans (teq (by decide : (0 : Int32) = (0 : Int32))).2) kS) ?_
      show own_G p.tables e below _ (T7.setTop (mkF m 52 #[.val (.int p1), .val (.int p2), .val (.ref b1), .val (.int (0 : Int32)), .val (.int (1 : Int32)), .val (.ref w_ANY), .unset] []))
      refine own_st (fun _ kS => XS.iconst X7.here hx rfl (hb hby at_52) kS) ?_
      show own_G p.tables e below _ (T7.setTop (mkF m 53 #[.val (.int p1), .val (.int p2), .val (.ref b1), .val (.int (0 : Int32)), .val (.int (1 : Int32)), .val (.ref w_ANY), .unset] [(.int (1 : Int32))]))
      refine own_st (fun _ kS => XS.istore X7.here hx rfl (hb hby at_53) rfl (l' := #[.val (.int p1), .val (.int p2), .val (.ref b1), .val (.int (0 : Int32)), .val (.int (1 : Int32)), .val (.ref w_ANY), .val (.int (1 : Int32))]) rfl kS) ?_
      show own_G p.tables e below _ (T7.setTop (mkF m 55 #[.val (.int p1), .val (.int p2), .val (.ref b1), .val (.int (0 : Int32)), .val (.int (1 : Int32)), .val (.ref w_ANY), .val (.int (1 : Int32))] []))
      refine own_st (fun _ kS => XS.goto X7.here hx rfl (pc0 := 55) (pc' := 82) rfl (hb hby at_55) (by decide) (by decide) kS) ?_
      show own_G p.tables e below _ (T7.setTop (mkF m 82 #[.val (.int p1), .val (.int p2), .val (.ref b1), .val (.int (0 : Int32)), .val (.int (1 : Int32)), .val (.ref w_ANY), .val (.int (1 : Int32))] []))
      refine own_st (fun _ kS => XS.aload X7.here hx rfl (hb hby at_82) rfl rfl kS) ?_
      show own_G p.tables e below _ (T7.setTop (mkF m 84 #[.val (.int p1), .val (.int p2), .val (.ref b1), .val (.int (0 : Int32)), .val (.int (1 : Int32)), .val (.ref w_ANY), .val (.int (1 : Int32))] [(.ref w_ANY)]))
      refine own_st (fun _ kS => XS.iload X7.here hx rfl (hb hby at_84) rfl kS) ?_
      show own_G p.tables e below _ (T7.setTop (mkF m 86 #[.val (.int p1), .val (.int p2), .val (.ref b1), .val (.int (0 : Int32)), .val (.int (1 : Int32)), .val (.ref w_ANY), .val (.int (1 : Int32))] [(.int (1 : Int32)), (.ref w_ANY)]))
      obtain ⟨cq13, kq13, q13a, q13b, q13c⟩ := isOf hZ e7 (Exa.ext O7.2 E_ANY)
      obtain ⟨_, _, ⟨T13, L13, k13, n13⟩, -, X13, ⟨Lc13, hQ13, l13, y13, z13⟩, st13⟩ := X7.virtualBack hx (y := (⟨"com/example/cartouche/cartouche/crosswalks/Placement$Position", "admits", "(Z)Z"⟩ : MethodName)) (z := (⟨"com/example/cartouche/cartouche/crosswalks/Placement$Position", "admits", "(Z)Z"⟩ : MethodName)) hown (mvT hZ (hw _ (List.mem_of_getElem? (i := 11) rfl))) (mvT hZ (hw _ (List.mem_of_getElem? (i := 12) rfl))) (notFace_of_selects (args := #[]) (mvT hZ (hw _ (List.mem_of_getElem? (i := 14) rfl)))) (mvT hZ (hw _ (List.mem_of_getElem? (i := 14) rfl))) (mvT hZ (hw _ (List.mem_of_getElem? (i := 13) rfl))) (by decide) (backOf (W := 0) (rm_admits_ANY_1 l Z a0 hw [] w_ANY h7 n0 (Nat.le_trans (Nat.le_trans (Nat.le_trans (Nat.le_trans Z0 E1.1) (Keep.of_wr W3).1) (Keep.of_wr W5).1) (Keep.of_wr W7).1) O7 S_ANY) hZ (hw _ (List.mem_of_getElem? (i := 15) rfl)) (hw _ (List.mem_of_getElem? (i := 3) rfl)) (by decide) (by decide)) q13a q13c (g := (mkF m 86 #[.val (.int p1), .val (.int p2), .val (.ref b1), .val (.int (0 : Int32)), .val (.int (1 : Int32)), .val (.ref w_ANY), .val (.int (1 : Int32))] [(.int (1 : Int32)), (.ref w_ANY)])) rfl (by rw [hml]; rfl) (Steps.refl _) (argsL := [(.int (1 : Int32))]) (rest := []) (lenOf own_pd0 rfl) rfl (by show 2 * 0 + _ ≤ _; exact Nat.le_of_eq rfl) (hb hby at_86) (fun _ _ => ⟨rfl, e7, (by decide : 1 + 0 ≤ _), (by decide : 3 + 0 ≤ _)⟩)
      dsimp only [Pt.U, Pt.locs, Pt.cells, Pt.slots] at X13 l13 y13 z13 st13 hQ13
      subst l13 y13 z13
      obtain ⟨rfl, Nq13, eq13⟩ := hQ13
      have N13 := Fr.app N7 Nq13
      refine own_tr st13 ?_
      show own_G p.tables e below _ (T13.setTop (mkF m 89 #[.val (.int p1), .val (.int p2), .val (.ref b1), .val (.int (0 : Int32)), .val (.int (1 : Int32)), .val (.ref w_ANY), .val (.int (1 : Int32))] [(.int (1 : Int32))]))
      refine own_st (fun _ kS => XS.iload X13.here hx rfl (hb hby at_89) rfl kS) ?_
      show own_G p.tables e below _ (T13.setTop (mkF m 91 #[.val (.int p1), .val (.int p2), .val (.ref b1), .val (.int (0 : Int32)), .val (.int (1 : Int32)), .val (.ref w_ANY), .val (.int (1 : Int32))] [(.int (1 : Int32)), (.int (1 : Int32))]))
      refine own_st (fun _ kS => XS.icmpNo X13.here hx rfl (hb hby at_91) rfl (teq (by decide : (1 : Int32) = (1 : Int32))).2 kS) ?_
      show own_G p.tables e below _ (T13.setTop (mkF m 94 #[.val (.int p1), .val (.int p2), .val (.ref b1), .val (.int (0 : Int32)), .val (.int (1 : Int32)), .val (.ref w_ANY), .val (.int (1 : Int32))] []))
      refine own_st (fun _ kS => XS.iconst X13.here hx rfl (hb hby at_94) kS) ?_
      show own_G p.tables e below _ (T13.setTop (mkF m 95 #[.val (.int p1), .val (.int p2), .val (.ref b1), .val (.int (0 : Int32)), .val (.int (1 : Int32)), .val (.ref w_ANY), .val (.int (1 : Int32))] [(.int (1 : Int32))]))
      refine own_st (fun _ kS => XS.goto X13.here hx rfl (pc0 := 95) (pc' := 99) rfl (hb hby at_95) (by decide) (by decide) kS) ?_
      show own_G p.tables e below _ (T13.setTop (mkF m 99 #[.val (.int p1), .val (.int p2), .val (.ref b1), .val (.int (0 : Int32)), .val (.int (1 : Int32)), .val (.ref w_ANY), .val (.int (1 : Int32))] [(.int (1 : Int32))]))
      exact own_retN X13 hx hlk (t := .boolean) hret (by simp) (hb hby at_99) (by decide) (by decide) (v' := (1 : Int32)) rfl (by rw [eq13]; exact ⟨rfl, N13⟩)
  · rw [hk8]
    show own_G p.tables e below _ (T7.setTop (mkF m 29 #[.val (.int p1), .val (.int p2), .val (.ref b1), .unset, .unset, .unset, .unset] [(.int (1 : Int32))]))
    refine own_st (fun _ kS => XS.istoreN X7.here hx rfl (hb hby at_29) rfl (l' := #[.val (.int p1), .val (.int p2), .val (.ref b1), .val (.int (1 : Int32)), .unset, .unset, .unset]) rfl kS) ?_
    show own_G p.tables e below _ (T7.setTop (mkF m 30 #[.val (.int p1), .val (.int p2), .val (.ref b1), .val (.int (1 : Int32)), .unset, .unset, .unset] []))
    refine own_st (fun _ kS => XS.iloadN X7.here hx rfl (hb hby at_30) rfl kS) ?_
    show own_G p.tables e below _ (T7.setTop (mkF m 31 #[.val (.int p1), .val (.int p2), .val (.ref b1), .val (.int (1 : Int32)), .unset, .unset, .unset] [(.int p2)]))
    refine own_st (fun _ kS => XS.iconst X7.here hx rfl (hb hby at_31) kS) ?_
    show own_G p.tables e below _ (T7.setTop (mkF m 32 #[.val (.int p1), .val (.int p2), .val (.ref b1), .val (.int (1 : Int32)), .unset, .unset, .unset] [(.int (1 : Int32)), (.int p2)]))
    refine own_st (fun _ kS => XS.iand X7.here hx rfl (hb hby at_32) rfl kS) ?_
    show own_G p.tables e below _ (T7.setTop (mkF m 33 #[.val (.int p1), .val (.int p2), .val (.ref b1), .val (.int (1 : Int32)), .unset, .unset, .unset] [(.int (p2 &&& (1 : Int32)))]))
    by_cases hc33_14 : (p2 &&& (1 : Int32)) = (0 : Int32)
    · skip
      refine own_st (fun _ kS => XS.ifYes X7.here hx rfl (pc0 := 33) (pc' := 40) rfl (hb hby at_33) rfl ((if0 _ _).trans (teq hc33_14).1) (by decide) (by decide) kS) ?_
      show own_G p.tables e below _ (T7.setTop (mkF m 40 #[.val (.int p1), .val (.int p2), .val (.ref b1), .val (.int (1 : Int32)), .unset, .unset, .unset] []))
      refine own_st (fun _ kS => XS.iconst X7.here hx rfl (hb hby at_40) kS) ?_
      show own_G p.tables e below _ (T7.setTop (mkF m 41 #[.val (.int p1), .val (.int p2), .val (.ref b1), .val (.int (1 : Int32)), .unset, .unset, .unset] [(.int (0 : Int32))]))
      refine own_st (fun _ kS => XS.istore X7.here hx rfl (hb hby at_41) rfl (l' := #[.val (.int p1), .val (.int p2), .val (.ref b1), .val (.int (1 : Int32)), .val (.int (0 : Int32)), .unset, .unset]) rfl kS) ?_
      show own_G p.tables e below _ (T7.setTop (mkF m 43 #[.val (.int p1), .val (.int p2), .val (.ref b1), .val (.int (1 : Int32)), .val (.int (0 : Int32)), .unset, .unset] []))
      refine own_st (fun _ kS => XS.aloadN X7.here hx rfl (hb hby at_43) rfl rfl kS) ?_
      show own_G p.tables e below _ (T7.setTop (mkF m 44 #[.val (.int p1), .val (.int p2), .val (.ref b1), .val (.int (1 : Int32)), .val (.int (0 : Int32)), .unset, .unset] [(.ref b1)]))
      refine own_st (fun _ kS => XS.iloadN X7.here hx rfl (hb hby at_44) rfl kS) ?_
      show own_G p.tables e below _ (T7.setTop (mkF m 45 #[.val (.int p1), .val (.int p2), .val (.ref b1), .val (.int (1 : Int32)), .val (.int (0 : Int32)), .unset, .unset] [(.int (1 : Int32)), (.ref b1)]))
      obtain ⟨cl15, Ar15, qa15, qs15, qn15, qh15, qg15⟩ := R7
      refine own_st (fun _ kS => X7.aaload hx (j := (1 : Int32)) (v := (.ref w_FIRST)) (by rw [e7]; exact Ar15.1) (State.isArrayOf_alike hZ.alike Ar15.2.1) rfl Ar15.2.2 (inb_of qs15 ⟨by decide, by decide⟩) (qh15.at (inb_of qs15 ⟨by decide, by decide⟩) rfl) (g := (mkF m 45 #[.val (.int p1), .val (.int p2), .val (.ref b1), .val (.int (1 : Int32)), .val (.int (0 : Int32)), .unset, .unset] [(.int (1 : Int32)), (.ref b1)])) rfl rfl (hb hby at_45) _ kS) ?_
      show own_G p.tables e below _ (T7.setTop (mkF m 46 #[.val (.int p1), .val (.int p2), .val (.ref b1), .val (.int (1 : Int32)), .val (.int (0 : Int32)), .unset, .unset] [(.ref w_FIRST)]))
      refine own_st (fun _ kS => XS.astore X7.here hx rfl (hb hby at_46) rfl rfl (l' := #[.val (.int p1), .val (.int p2), .val (.ref b1), .val (.int (1 : Int32)), .val (.int (0 : Int32)), .val (.ref w_FIRST), .unset]) rfl kS) ?_
      show own_G p.tables e below _ (T7.setTop (mkF m 48 #[.val (.int p1), .val (.int p2), .val (.ref b1), .val (.int (1 : Int32)), .val (.int (0 : Int32)), .val (.ref w_FIRST), .unset] []))
      refine own_st (fun _ kS => XS.iloadN X7.here hx rfl (hb hby at_48) rfl kS) ?_
      show own_G p.tables e below _ (T7.setTop (mkF m 49 #[.val (.int p1), .val (.int p2), .val (.ref b1), .val (.int (1 : Int32)), .val (.int (0 : Int32)), .val (.ref w_FIRST), .unset] [(.int (1 : Int32))]))
      refine own_st (fun _ kS => XS.ifYes X7.here hx rfl (pc0 := 49) (pc' := 58) rfl (hb hby at_49) rfl ((if0 _ _).trans (feq (by decide : ¬ ((1 : Int32) = (0 : Int32)))).2) (by decide) (by decide) kS) ?_
      show own_G p.tables e below _ (T7.setTop (mkF m 58 #[.val (.int p1), .val (.int p2), .val (.ref b1), .val (.int (1 : Int32)), .val (.int (0 : Int32)), .val (.ref w_FIRST), .unset] []))
      refine own_st (fun _ kS => XS.iloadN X7.here hx rfl (hb hby at_58) rfl kS) ?_
      show own_G p.tables e below _ (T7.setTop (mkF m 59 #[.val (.int p1), .val (.int p2), .val (.ref b1), .val (.int (1 : Int32)), .val (.int (0 : Int32)), .val (.ref w_FIRST), .unset] [(.int (1 : Int32))]))
      refine own_st (fun _ kS => XS.iconst X7.here hx rfl (hb hby at_59) kS) ?_
      show own_G p.tables e below _ (T7.setTop (mkF m 60 #[.val (.int p1), .val (.int p2), .val (.ref b1), .val (.int (1 : Int32)), .val (.int (0 : Int32)), .val (.ref w_FIRST), .unset] [(.int (1 : Int32)), (.int (1 : Int32))]))
      refine own_st (fun _ kS => XS.icmpNo X7.here hx rfl (hb hby at_60) rfl (teq (by decide : (1 : Int32) = (1 : Int32))).2 kS) ?_
      show own_G p.tables e below _ (T7.setTop (mkF m 63 #[.val (.int p1), .val (.int p2), .val (.ref b1), .val (.int (1 : Int32)), .val (.int (0 : Int32)), .val (.ref w_FIRST), .unset] []))
      refine own_st (fun _ kS => XS.iload X7.here hx rfl (hb hby at_63) rfl kS) ?_
      show own_G p.tables e below _ (T7.setTop (mkF m 65 #[.val (.int p1), .val (.int p2), .val (.ref b1), .val (.int (1 : Int32)), .val (.int (0 : Int32)), .val (.ref w_FIRST), .unset] [(.int (0 : Int32))]))
      refine own_st (fun _ kS => XS.istore X7.here hx rfl (hb hby at_65) rfl (l' := #[.val (.int p1), .val (.int p2), .val (.ref b1), .val (.int (1 : Int32)), .val (.int (0 : Int32)), .val (.ref w_FIRST), .val (.int (0 : Int32))]) rfl kS) ?_
      show own_G p.tables e below _ (T7.setTop (mkF m 67 #[.val (.int p1), .val (.int p2), .val (.ref b1), .val (.int (1 : Int32)), .val (.int (0 : Int32)), .val (.ref w_FIRST), .val (.int (0 : Int32))] []))
      refine own_st (fun _ kS => XS.goto X7.here hx rfl (pc0 := 67) (pc' := 82) rfl (hb hby at_67) (by decide) (by decide) kS) ?_
      show own_G p.tables e below _ (T7.setTop (mkF m 82 #[.val (.int p1), .val (.int p2), .val (.ref b1), .val (.int (1 : Int32)), .val (.int (0 : Int32)), .val (.ref w_FIRST), .val (.int (0 : Int32))] []))
      refine own_st (fun _ kS => XS.aload X7.here hx rfl (hb hby at_82) rfl rfl kS) ?_
      show own_G p.tables e below _ (T7.setTop (mkF m 84 #[.val (.int p1), .val (.int p2), .val (.ref b1), .val (.int (1 : Int32)), .val (.int (0 : Int32)), .val (.ref w_FIRST), .val (.int (0 : Int32))] [(.ref w_FIRST)]))
      refine own_st (fun _ kS => XS.iload X7.here hx rfl (hb hby at_84) rfl kS) ?_
      show own_G p.tables e below _ (T7.setTop (mkF m 86 #[.val (.int p1), .val (.int p2), .val (.ref b1), .val (.int (1 : Int32)), .val (.int (0 : Int32)), .val (.ref w_FIRST), .val (.int (0 : Int32))] [(.int (0 : Int32)), (.ref w_FIRST)]))
      obtain ⟨cq16, kq16, q16a, q16b, q16c⟩ := isOf hZ e7 (Exa.ext O7.2 E_FIRST)
      obtain ⟨_, _, ⟨T16, L16, k16, n16⟩, -, X16, ⟨Lc16, hQ16, l16, y16, z16⟩, st16⟩ := X7.virtualBack hx (y := (⟨"com/example/cartouche/cartouche/crosswalks/Placement$Position", "admits", "(Z)Z"⟩ : MethodName)) (z := (⟨"com/example/cartouche/cartouche/crosswalks/Placement$Position", "admits", "(Z)Z"⟩ : MethodName)) hown (mvT hZ (hw _ (List.mem_of_getElem? (i := 11) rfl))) (mvT hZ (hw _ (List.mem_of_getElem? (i := 12) rfl))) (notFace_of_selects (args := #[]) (mvT hZ (hw _ (List.mem_of_getElem? (i := 14) rfl)))) (mvT hZ (hw _ (List.mem_of_getElem? (i := 14) rfl))) (mvT hZ (hw _ (List.mem_of_getElem? (i := 13) rfl))) (by decide) (backOf (W := 0) (rm_admits_FIRST_0 l Z a0 hw [] w_FIRST w_ANY h7 n0 (Nat.le_trans (Nat.le_trans (Nat.le_trans (Nat.le_trans Z0 E1.1) (Keep.of_wr W3).1) (Keep.of_wr W5).1) (Keep.of_wr W7).1) O7 S_ANY S_FIRST ne_FIRST_ANY) hZ (hw _ (List.mem_of_getElem? (i := 15) rfl)) (hw _ (List.mem_of_getElem? (i := 3) rfl)) (by decide) (by decide)) q16a q16c (g := (mkF m 86 #[.val (.int p1), .val (.int p2), .val (.ref b1), .val (.int (1 : Int32)), .val (.int (0 : Int32)), .val (.ref w_FIRST), .val (.int (0 : Int32))] [(.int (0 : Int32)), (.ref w_FIRST)])) rfl (by rw [hml]; rfl) (Steps.refl _) (argsL := [(.int (0 : Int32))]) (rest := []) (lenOf own_pd0 rfl) rfl (by show 2 * 0 + _ ≤ _; exact Nat.le_of_eq rfl) (hb hby at_86) (fun _ _ => ⟨rfl, e7, (by decide : 1 + 0 ≤ _), (by decide : 3 + 0 ≤ _)⟩)
      dsimp only [Pt.U, Pt.locs, Pt.cells, Pt.slots] at X16 l16 y16 z16 st16 hQ16
      subst l16 y16 z16
      obtain ⟨rfl, Nq16, eq16⟩ := hQ16
      have N16 := Fr.app N7 Nq16
      refine own_tr st16 ?_
      show own_G p.tables e below _ (T16.setTop (mkF m 89 #[.val (.int p1), .val (.int p2), .val (.ref b1), .val (.int (1 : Int32)), .val (.int (0 : Int32)), .val (.ref w_FIRST), .val (.int (0 : Int32))] [(.int (0 : Int32))]))
      refine own_st (fun _ kS => XS.iload X16.here hx rfl (hb hby at_89) rfl kS) ?_
      show own_G p.tables e below _ (T16.setTop (mkF m 91 #[.val (.int p1), .val (.int p2), .val (.ref b1), .val (.int (1 : Int32)), .val (.int (0 : Int32)), .val (.ref w_FIRST), .val (.int (0 : Int32))] [(.int (0 : Int32)), (.int (0 : Int32))]))
      refine own_st (fun _ kS => XS.icmpNo X16.here hx rfl (hb hby at_91) rfl (teq (by decide : (0 : Int32) = (0 : Int32))).2 kS) ?_
      show own_G p.tables e below _ (T16.setTop (mkF m 94 #[.val (.int p1), .val (.int p2), .val (.ref b1), .val (.int (1 : Int32)), .val (.int (0 : Int32)), .val (.ref w_FIRST), .val (.int (0 : Int32))] []))
      refine own_st (fun _ kS => XS.iconst X16.here hx rfl (hb hby at_94) kS) ?_
      show own_G p.tables e below _ (T16.setTop (mkF m 95 #[.val (.int p1), .val (.int p2), .val (.ref b1), .val (.int (1 : Int32)), .val (.int (0 : Int32)), .val (.ref w_FIRST), .val (.int (0 : Int32))] [(.int (1 : Int32))]))
      refine own_st (fun _ kS => XS.goto X16.here hx rfl (pc0 := 95) (pc' := 99) rfl (hb hby at_95) (by decide) (by decide) kS) ?_
      show own_G p.tables e below _ (T16.setTop (mkF m 99 #[.val (.int p1), .val (.int p2), .val (.ref b1), .val (.int (1 : Int32)), .val (.int (0 : Int32)), .val (.ref w_FIRST), .val (.int (0 : Int32))] [(.int (1 : Int32))]))
      exact own_retN X16 hx hlk (t := .boolean) hret (by simp) (hb hby at_99) (by decide) (by decide) (v' := (1 : Int32)) rfl (by rw [eq16]; exact ⟨rfl, N16⟩)
    · skip
      refine own_st (fun _ kS => XS.ifNo X7.here hx rfl (hb hby at_33) rfl ((if0 _ _).trans (feq hc33_14).1) kS) ?_
      show own_G p.tables e below _ (T7.setTop (mkF m 36 #[.val (.int p1), .val (.int p2), .val (.ref b1), .val (.int (1 : Int32)), .unset, .unset, .unset] []))
      refine own_st (fun _ kS => XS.iconst X7.here hx rfl (hb hby at_36) kS) ?_
      show own_G p.tables e below _ (T7.setTop (mkF m 37 #[.val (.int p1), .val (.int p2), .val (.ref b1), .val (.int (1 : Int32)), .unset, .unset, .unset] [(.int (1 : Int32))]))
      refine own_st (fun _ kS => XS.goto X7.here hx rfl (pc0 := 37) (pc' := 41) rfl (hb hby at_37) (by decide) (by decide) kS) ?_
      show own_G p.tables e below _ (T7.setTop (mkF m 41 #[.val (.int p1), .val (.int p2), .val (.ref b1), .val (.int (1 : Int32)), .unset, .unset, .unset] [(.int (1 : Int32))]))
      refine own_st (fun _ kS => XS.istore X7.here hx rfl (hb hby at_41) rfl (l' := #[.val (.int p1), .val (.int p2), .val (.ref b1), .val (.int (1 : Int32)), .val (.int (1 : Int32)), .unset, .unset]) rfl kS) ?_
      show own_G p.tables e below _ (T7.setTop (mkF m 43 #[.val (.int p1), .val (.int p2), .val (.ref b1), .val (.int (1 : Int32)), .val (.int (1 : Int32)), .unset, .unset] []))
      refine own_st (fun _ kS => XS.aloadN X7.here hx rfl (hb hby at_43) rfl rfl kS) ?_
      show own_G p.tables e below _ (T7.setTop (mkF m 44 #[.val (.int p1), .val (.int p2), .val (.ref b1), .val (.int (1 : Int32)), .val (.int (1 : Int32)), .unset, .unset] [(.ref b1)]))
      refine own_st (fun _ kS => XS.iloadN X7.here hx rfl (hb hby at_44) rfl kS) ?_
      show own_G p.tables e below _ (T7.setTop (mkF m 45 #[.val (.int p1), .val (.int p2), .val (.ref b1), .val (.int (1 : Int32)), .val (.int (1 : Int32)), .unset, .unset] [(.int (1 : Int32)), (.ref b1)]))
      obtain ⟨cl17, Ar17, qa17, qs17, qn17, qh17, qg17⟩ := R7
      refine own_st (fun _ kS => X7.aaload hx (j := (1 : Int32)) (v := (.ref w_FIRST)) (by rw [e7]; exact Ar17.1) (State.isArrayOf_alike hZ.alike Ar17.2.1) rfl Ar17.2.2 (inb_of qs17 ⟨by decide, by decide⟩) (qh17.at (inb_of qs17 ⟨by decide, by decide⟩) rfl) (g := (mkF m 45 #[.val (.int p1), .val (.int p2), .val (.ref b1), .val (.int (1 : Int32)), .val (.int (1 : Int32)), .unset, .unset] [(.int (1 : Int32)), (.ref b1)])) rfl rfl (hb hby at_45) _ kS) ?_
      show own_G p.tables e below _ (T7.setTop (mkF m 46 #[.val (.int p1), .val (.int p2), .val (.ref b1), .val (.int (1 : Int32)), .val (.int (1 : Int32)), .unset, .unset] [(.ref w_FIRST)]))
      refine own_st (fun _ kS => XS.astore X7.here hx rfl (hb hby at_46) rfl rfl (l' := #[.val (.int p1), .val (.int p2), .val (.ref b1), .val (.int (1 : Int32)), .val (.int (1 : Int32)), .val (.ref w_FIRST), .unset]) rfl kS) ?_
      show own_G p.tables e below _ (T7.setTop (mkF m 48 #[.val (.int p1), .val (.int p2), .val (.ref b1), .val (.int (1 : Int32)), .val (.int (1 : Int32)), .val (.ref w_FIRST), .unset] []))
      refine own_st (fun _ kS => XS.iloadN X7.here hx rfl (hb hby at_48) rfl kS) ?_
      show own_G p.tables e below _ (T7.setTop (mkF m 49 #[.val (.int p1), .val (.int p2), .val (.ref b1), .val (.int (1 : Int32)), .val (.int (1 : Int32)), .val (.ref w_FIRST), .unset] [(.int (1 : Int32))]))
      refine own_st (fun _ kS => XS.ifYes X7.here hx rfl (pc0 := 49) (pc' := 58) rfl (hb hby at_49) rfl ((if0 _ _).trans (feq (by decide : ¬ ((1 : Int32) = (0 : Int32)))).2) (by decide) (by decide) kS) ?_
      show own_G p.tables e below _ (T7.setTop (mkF m 58 #[.val (.int p1), .val (.int p2), .val (.ref b1), .val (.int (1 : Int32)), .val (.int (1 : Int32)), .val (.ref w_FIRST), .unset] []))
      refine own_st (fun _ kS => XS.iloadN X7.here hx rfl (hb hby at_58) rfl kS) ?_
      show own_G p.tables e below _ (T7.setTop (mkF m 59 #[.val (.int p1), .val (.int p2), .val (.ref b1), .val (.int (1 : Int32)), .val (.int (1 : Int32)), .val (.ref w_FIRST), .unset] [(.int (1 : Int32))]))
      refine own_st (fun _ kS => XS.iconst X7.here hx rfl (hb hby at_59) kS) ?_
      show own_G p.tables e below _ (T7.setTop (mkF m 60 #[.val (.int p1), .val (.int p2), .val (.ref b1), .val (.int (1 : Int32)), .val (.int (1 : Int32)), .val (.ref w_FIRST), .unset] [(.int (1 : Int32)), (.int (1 : Int32))]))
      refine own_st (fun _ kS => XS.icmpNo X7.here hx rfl (hb hby at_60) rfl (teq (by decide : (1 : Int32) = (1 : Int32))).2 kS) ?_
      show own_G p.tables e below _ (T7.setTop (mkF m 63 #[.val (.int p1), .val (.int p2), .val (.ref b1), .val (.int (1 : Int32)), .val (.int (1 : Int32)), .val (.ref w_FIRST), .unset] []))
      refine own_st (fun _ kS => XS.iload X7.here hx rfl (hb hby at_63) rfl kS) ?_
      show own_G p.tables e below _ (T7.setTop (mkF m 65 #[.val (.int p1), .val (.int p2), .val (.ref b1), .val (.int (1 : Int32)), .val (.int (1 : Int32)), .val (.ref w_FIRST), .unset] [(.int (1 : Int32))]))
      refine own_st (fun _ kS => XS.istore X7.here hx rfl (hb hby at_65) rfl (l' := #[.val (.int p1), .val (.int p2), .val (.ref b1), .val (.int (1 : Int32)), .val (.int (1 : Int32)), .val (.ref w_FIRST), .val (.int (1 : Int32))]) rfl kS) ?_
      show own_G p.tables e below _ (T7.setTop (mkF m 67 #[.val (.int p1), .val (.int p2), .val (.ref b1), .val (.int (1 : Int32)), .val (.int (1 : Int32)), .val (.ref w_FIRST), .val (.int (1 : Int32))] []))
      refine own_st (fun _ kS => XS.goto X7.here hx rfl (pc0 := 67) (pc' := 82) rfl (hb hby at_67) (by decide) (by decide) kS) ?_
      show own_G p.tables e below _ (T7.setTop (mkF m 82 #[.val (.int p1), .val (.int p2), .val (.ref b1), .val (.int (1 : Int32)), .val (.int (1 : Int32)), .val (.ref w_FIRST), .val (.int (1 : Int32))] []))
      refine own_st (fun _ kS => XS.aload X7.here hx rfl (hb hby at_82) rfl rfl kS) ?_
      show own_G p.tables e below _ (T7.setTop (mkF m 84 #[.val (.int p1), .val (.int p2), .val (.ref b1), .val (.int (1 : Int32)), .val (.int (1 : Int32)), .val (.ref w_FIRST), .val (.int (1 : Int32))] [(.ref w_FIRST)]))
      refine own_st (fun _ kS => XS.iload X7.here hx rfl (hb hby at_84) rfl kS) ?_
      show own_G p.tables e below _ (T7.setTop (mkF m 86 #[.val (.int p1), .val (.int p2), .val (.ref b1), .val (.int (1 : Int32)), .val (.int (1 : Int32)), .val (.ref w_FIRST), .val (.int (1 : Int32))] [(.int (1 : Int32)), (.ref w_FIRST)]))
      obtain ⟨cq18, kq18, q18a, q18b, q18c⟩ := isOf hZ e7 (Exa.ext O7.2 E_FIRST)
      obtain ⟨_, _, ⟨T18, L18, k18, n18⟩, -, X18, ⟨Lc18, hQ18, l18, y18, z18⟩, st18⟩ := X7.virtualBack hx (y := (⟨"com/example/cartouche/cartouche/crosswalks/Placement$Position", "admits", "(Z)Z"⟩ : MethodName)) (z := (⟨"com/example/cartouche/cartouche/crosswalks/Placement$Position", "admits", "(Z)Z"⟩ : MethodName)) hown (mvT hZ (hw _ (List.mem_of_getElem? (i := 11) rfl))) (mvT hZ (hw _ (List.mem_of_getElem? (i := 12) rfl))) (notFace_of_selects (args := #[]) (mvT hZ (hw _ (List.mem_of_getElem? (i := 14) rfl)))) (mvT hZ (hw _ (List.mem_of_getElem? (i := 14) rfl))) (mvT hZ (hw _ (List.mem_of_getElem? (i := 13) rfl))) (by decide) (backOf (W := 0) (rm_admits_FIRST_1 l Z a0 hw [] w_FIRST w_ANY h7 n0 (Nat.le_trans (Nat.le_trans (Nat.le_trans (Nat.le_trans Z0 E1.1) (Keep.of_wr W3).1) (Keep.of_wr W5).1) (Keep.of_wr W7).1) O7 S_ANY S_FIRST ne_FIRST_ANY) hZ (hw _ (List.mem_of_getElem? (i := 15) rfl)) (hw _ (List.mem_of_getElem? (i := 3) rfl)) (by decide) (by decide)) q18a q18c (g := (mkF m 86 #[.val (.int p1), .val (.int p2), .val (.ref b1), .val (.int (1 : Int32)), .val (.int (1 : Int32)), .val (.ref w_FIRST), .val (.int (1 : Int32))] [(.int (1 : Int32)), (.ref w_FIRST)])) rfl (by rw [hml]; rfl) (Steps.refl _) (argsL := [(.int (1 : Int32))]) (rest := []) (lenOf own_pd0 rfl) rfl (by show 2 * 0 + _ ≤ _; exact Nat.le_of_eq rfl) (hb hby at_86) (fun _ _ => ⟨rfl, e7, (by decide : 1 + 0 ≤ _), (by decide : 3 + 0 ≤ _)⟩)
      dsimp only [Pt.U, Pt.locs, Pt.cells, Pt.slots] at X18 l18 y18 z18 st18 hQ18
      subst l18 y18 z18
      obtain ⟨rfl, Nq18, eq18⟩ := hQ18
      have N18 := Fr.app N7 Nq18
      refine own_tr st18 ?_
      show own_G p.tables e below _ (T18.setTop (mkF m 89 #[.val (.int p1), .val (.int p2), .val (.ref b1), .val (.int (1 : Int32)), .val (.int (1 : Int32)), .val (.ref w_FIRST), .val (.int (1 : Int32))] [(.int (1 : Int32))]))
      refine own_st (fun _ kS => XS.iload X18.here hx rfl (hb hby at_89) rfl kS) ?_
      show own_G p.tables e below _ (T18.setTop (mkF m 91 #[.val (.int p1), .val (.int p2), .val (.ref b1), .val (.int (1 : Int32)), .val (.int (1 : Int32)), .val (.ref w_FIRST), .val (.int (1 : Int32))] [(.int (1 : Int32)), (.int (1 : Int32))]))
      refine own_st (fun _ kS => XS.icmpNo X18.here hx rfl (hb hby at_91) rfl (teq (by decide : (1 : Int32) = (1 : Int32))).2 kS) ?_
      show own_G p.tables e below _ (T18.setTop (mkF m 94 #[.val (.int p1), .val (.int p2), .val (.ref b1), .val (.int (1 : Int32)), .val (.int (1 : Int32)), .val (.ref w_FIRST), .val (.int (1 : Int32))] []))
      refine own_st (fun _ kS => XS.iconst X18.here hx rfl (hb hby at_94) kS) ?_
      show own_G p.tables e below _ (T18.setTop (mkF m 95 #[.val (.int p1), .val (.int p2), .val (.ref b1), .val (.int (1 : Int32)), .val (.int (1 : Int32)), .val (.ref w_FIRST), .val (.int (1 : Int32))] [(.int (1 : Int32))]))
      refine own_st (fun _ kS => XS.goto X18.here hx rfl (pc0 := 95) (pc' := 99) rfl (hb hby at_95) (by decide) (by decide) kS) ?_
      show own_G p.tables e below _ (T18.setTop (mkF m 99 #[.val (.int p1), .val (.int p2), .val (.ref b1), .val (.int (1 : Int32)), .val (.int (1 : Int32)), .val (.ref w_FIRST), .val (.int (1 : Int32))] [(.int (1 : Int32))]))
      exact own_retN X18 hx hlk (t := .boolean) hret (by simp) (hb hby at_99) (by decide) (by decide) (v' := (1 : Int32)) rfl (by rw [eq18]; exact ⟨rfl, N18⟩)
  · rw [hk8]
    show own_G p.tables e below _ (T7.setTop (mkF m 29 #[.val (.int p1), .val (.int p2), .val (.ref b1), .unset, .unset, .unset, .unset] [(.int (2 : Int32))]))
    refine own_st (fun _ kS => XS.istoreN X7.here hx rfl (hb hby at_29) rfl (l' := #[.val (.int p1), .val (.int p2), .val (.ref b1), .val (.int (2 : Int32)), .unset, .unset, .unset]) rfl kS) ?_
    show own_G p.tables e below _ (T7.setTop (mkF m 30 #[.val (.int p1), .val (.int p2), .val (.ref b1), .val (.int (2 : Int32)), .unset, .unset, .unset] []))
    refine own_st (fun _ kS => XS.iloadN X7.here hx rfl (hb hby at_30) rfl kS) ?_
    show own_G p.tables e below _ (T7.setTop (mkF m 31 #[.val (.int p1), .val (.int p2), .val (.ref b1), .val (.int (2 : Int32)), .unset, .unset, .unset] [(.int p2)]))
    refine own_st (fun _ kS => XS.iconst X7.here hx rfl (hb hby at_31) kS) ?_
    show own_G p.tables e below _ (T7.setTop (mkF m 32 #[.val (.int p1), .val (.int p2), .val (.ref b1), .val (.int (2 : Int32)), .unset, .unset, .unset] [(.int (1 : Int32)), (.int p2)]))
    refine own_st (fun _ kS => XS.iand X7.here hx rfl (hb hby at_32) rfl kS) ?_
    show own_G p.tables e below _ (T7.setTop (mkF m 33 #[.val (.int p1), .val (.int p2), .val (.ref b1), .val (.int (2 : Int32)), .unset, .unset, .unset] [(.int (p2 &&& (1 : Int32)))]))
    by_cases hc33_19 : (p2 &&& (1 : Int32)) = (0 : Int32)
    · skip
      refine own_st (fun _ kS => XS.ifYes X7.here hx rfl (pc0 := 33) (pc' := 40) rfl (hb hby at_33) rfl ((if0 _ _).trans (teq hc33_19).1) (by decide) (by decide) kS) ?_
      show own_G p.tables e below _ (T7.setTop (mkF m 40 #[.val (.int p1), .val (.int p2), .val (.ref b1), .val (.int (2 : Int32)), .unset, .unset, .unset] []))
      refine own_st (fun _ kS => XS.iconst X7.here hx rfl (hb hby at_40) kS) ?_
      show own_G p.tables e below _ (T7.setTop (mkF m 41 #[.val (.int p1), .val (.int p2), .val (.ref b1), .val (.int (2 : Int32)), .unset, .unset, .unset] [(.int (0 : Int32))]))
      refine own_st (fun _ kS => XS.istore X7.here hx rfl (hb hby at_41) rfl (l' := #[.val (.int p1), .val (.int p2), .val (.ref b1), .val (.int (2 : Int32)), .val (.int (0 : Int32)), .unset, .unset]) rfl kS) ?_
      show own_G p.tables e below _ (T7.setTop (mkF m 43 #[.val (.int p1), .val (.int p2), .val (.ref b1), .val (.int (2 : Int32)), .val (.int (0 : Int32)), .unset, .unset] []))
      refine own_st (fun _ kS => XS.aloadN X7.here hx rfl (hb hby at_43) rfl rfl kS) ?_
      show own_G p.tables e below _ (T7.setTop (mkF m 44 #[.val (.int p1), .val (.int p2), .val (.ref b1), .val (.int (2 : Int32)), .val (.int (0 : Int32)), .unset, .unset] [(.ref b1)]))
      refine own_st (fun _ kS => XS.iloadN X7.here hx rfl (hb hby at_44) rfl kS) ?_
      show own_G p.tables e below _ (T7.setTop (mkF m 45 #[.val (.int p1), .val (.int p2), .val (.ref b1), .val (.int (2 : Int32)), .val (.int (0 : Int32)), .unset, .unset] [(.int (2 : Int32)), (.ref b1)]))
      obtain ⟨cl20, Ar20, qa20, qs20, qn20, qh20, qg20⟩ := R7
      refine own_st (fun _ kS => X7.aaload hx (j := (2 : Int32)) (v := (.ref w_FURTHER)) (by rw [e7]; exact Ar20.1) (State.isArrayOf_alike hZ.alike Ar20.2.1) rfl Ar20.2.2 (inb_of qs20 ⟨by decide, by decide⟩) (qh20.at (inb_of qs20 ⟨by decide, by decide⟩) rfl) (g := (mkF m 45 #[.val (.int p1), .val (.int p2), .val (.ref b1), .val (.int (2 : Int32)), .val (.int (0 : Int32)), .unset, .unset] [(.int (2 : Int32)), (.ref b1)])) rfl rfl (hb hby at_45) _ kS) ?_
      show own_G p.tables e below _ (T7.setTop (mkF m 46 #[.val (.int p1), .val (.int p2), .val (.ref b1), .val (.int (2 : Int32)), .val (.int (0 : Int32)), .unset, .unset] [(.ref w_FURTHER)]))
      refine own_st (fun _ kS => XS.astore X7.here hx rfl (hb hby at_46) rfl rfl (l' := #[.val (.int p1), .val (.int p2), .val (.ref b1), .val (.int (2 : Int32)), .val (.int (0 : Int32)), .val (.ref w_FURTHER), .unset]) rfl kS) ?_
      show own_G p.tables e below _ (T7.setTop (mkF m 48 #[.val (.int p1), .val (.int p2), .val (.ref b1), .val (.int (2 : Int32)), .val (.int (0 : Int32)), .val (.ref w_FURTHER), .unset] []))
      refine own_st (fun _ kS => XS.iloadN X7.here hx rfl (hb hby at_48) rfl kS) ?_
      show own_G p.tables e below _ (T7.setTop (mkF m 49 #[.val (.int p1), .val (.int p2), .val (.ref b1), .val (.int (2 : Int32)), .val (.int (0 : Int32)), .val (.ref w_FURTHER), .unset] [(.int (2 : Int32))]))
      refine own_st (fun _ kS => XS.ifYes X7.here hx rfl (pc0 := 49) (pc' := 58) rfl (hb hby at_49) rfl ((if0 _ _).trans (feq (by decide : ¬ ((2 : Int32) = (0 : Int32)))).2) (by decide) (by decide) kS) ?_
      show own_G p.tables e below _ (T7.setTop (mkF m 58 #[.val (.int p1), .val (.int p2), .val (.ref b1), .val (.int (2 : Int32)), .val (.int (0 : Int32)), .val (.ref w_FURTHER), .unset] []))
      refine own_st (fun _ kS => XS.iloadN X7.here hx rfl (hb hby at_58) rfl kS) ?_
      show own_G p.tables e below _ (T7.setTop (mkF m 59 #[.val (.int p1), .val (.int p2), .val (.ref b1), .val (.int (2 : Int32)), .val (.int (0 : Int32)), .val (.ref w_FURTHER), .unset] [(.int (2 : Int32))]))
      refine own_st (fun _ kS => XS.iconst X7.here hx rfl (hb hby at_59) kS) ?_
      show own_G p.tables e below _ (T7.setTop (mkF m 60 #[.val (.int p1), .val (.int p2), .val (.ref b1), .val (.int (2 : Int32)), .val (.int (0 : Int32)), .val (.ref w_FURTHER), .unset] [(.int (1 : Int32)), (.int (2 : Int32))]))
      refine own_st (fun _ kS => XS.icmpYes X7.here hx rfl (pc0 := 60) (pc' := 70) rfl (hb hby at_60) rfl (feq (by decide : ¬ ((2 : Int32) = (1 : Int32)))).2 (by decide) (by decide) kS) ?_
      show own_G p.tables e below _ (T7.setTop (mkF m 70 #[.val (.int p1), .val (.int p2), .val (.ref b1), .val (.int (2 : Int32)), .val (.int (0 : Int32)), .val (.ref w_FURTHER), .unset] []))
      refine own_st (fun _ kS => XS.iload X7.here hx rfl (hb hby at_70) rfl kS) ?_
      show own_G p.tables e below _ (T7.setTop (mkF m 72 #[.val (.int p1), .val (.int p2), .val (.ref b1), .val (.int (2 : Int32)), .val (.int (0 : Int32)), .val (.ref w_FURTHER), .unset] [(.int (0 : Int32))]))
      refine own_st (fun _ kS => XS.ifNo X7.here hx rfl (hb hby at_72) rfl ((if0 _ _).trans (teq (by decide : (0 : Int32) = (0 : Int32))).2) kS) ?_
      show own_G p.tables e below _ (T7.setTop (mkF m 75 #[.val (.int p1), .val (.int p2), .val (.ref b1), .val (.int (2 : Int32)), .val (.int (0 : Int32)), .val (.ref w_FURTHER), .unset] []))
      refine own_st (fun _ kS => XS.iconst X7.here hx rfl (hb hby at_75) kS) ?_
      show own_G p.tables e below _ (T7.setTop (mkF m 76 #[.val (.int p1), .val (.int p2), .val (.ref b1), .val (.int (2 : Int32)), .val (.int (0 : Int32)), .val (.ref w_FURTHER), .unset] [(.int (1 : Int32))]))
      refine own_st (fun _ kS => XS.goto X7.here hx rfl (pc0 := 76) (pc' := 80) rfl (hb hby at_76) (by decide) (by decide) kS) ?_
      show own_G p.tables e below _ (T7.setTop (mkF m 80 #[.val (.int p1), .val (.int p2), .val (.ref b1), .val (.int (2 : Int32)), .val (.int (0 : Int32)), .val (.ref w_FURTHER), .unset] [(.int (1 : Int32))]))
      refine own_st (fun _ kS => XS.istore X7.here hx rfl (hb hby at_80) rfl (l' := #[.val (.int p1), .val (.int p2), .val (.ref b1), .val (.int (2 : Int32)), .val (.int (0 : Int32)), .val (.ref w_FURTHER), .val (.int (1 : Int32))]) rfl kS) ?_
      show own_G p.tables e below _ (T7.setTop (mkF m 82 #[.val (.int p1), .val (.int p2), .val (.ref b1), .val (.int (2 : Int32)), .val (.int (0 : Int32)), .val (.ref w_FURTHER), .val (.int (1 : Int32))] []))
      refine own_st (fun _ kS => XS.aload X7.here hx rfl (hb hby at_82) rfl rfl kS) ?_
      show own_G p.tables e below _ (T7.setTop (mkF m 84 #[.val (.int p1), .val (.int p2), .val (.ref b1), .val (.int (2 : Int32)), .val (.int (0 : Int32)), .val (.ref w_FURTHER), .val (.int (1 : Int32))] [(.ref w_FURTHER)]))
      refine own_st (fun _ kS => XS.iload X7.here hx rfl (hb hby at_84) rfl kS) ?_
      show own_G p.tables e below _ (T7.setTop (mkF m 86 #[.val (.int p1), .val (.int p2), .val (.ref b1), .val (.int (2 : Int32)), .val (.int (0 : Int32)), .val (.ref w_FURTHER), .val (.int (1 : Int32))] [(.int (0 : Int32)), (.ref w_FURTHER)]))
      obtain ⟨cq21, kq21, q21a, q21b, q21c⟩ := isOf hZ e7 (Exa.ext O7.2 E_FURTHER)
      obtain ⟨_, _, ⟨T21, L21, k21, n21⟩, -, X21, ⟨Lc21, hQ21, l21, y21, z21⟩, st21⟩ := X7.virtualBack hx (y := (⟨"com/example/cartouche/cartouche/crosswalks/Placement$Position", "admits", "(Z)Z"⟩ : MethodName)) (z := (⟨"com/example/cartouche/cartouche/crosswalks/Placement$Position", "admits", "(Z)Z"⟩ : MethodName)) hown (mvT hZ (hw _ (List.mem_of_getElem? (i := 11) rfl))) (mvT hZ (hw _ (List.mem_of_getElem? (i := 12) rfl))) (notFace_of_selects (args := #[]) (mvT hZ (hw _ (List.mem_of_getElem? (i := 14) rfl)))) (mvT hZ (hw _ (List.mem_of_getElem? (i := 14) rfl))) (mvT hZ (hw _ (List.mem_of_getElem? (i := 13) rfl))) (by decide) (backOf (W := 0) (rm_admits_FURTHER_0 l Z a0 hw [] w_FURTHER w_ANY w_FIRST h7 n0 (Nat.le_trans (Nat.le_trans (Nat.le_trans (Nat.le_trans Z0 E1.1) (Keep.of_wr W3).1) (Keep.of_wr W5).1) (Keep.of_wr W7).1) O7 S_ANY S_FIRST ne_FURTHER_ANY ne_FURTHER_FIRST) hZ (hw _ (List.mem_of_getElem? (i := 15) rfl)) (hw _ (List.mem_of_getElem? (i := 3) rfl)) (by decide) (by decide)) q21a q21c (g := (mkF m 86 #[.val (.int p1), .val (.int p2), .val (.ref b1), .val (.int (2 : Int32)), .val (.int (0 : Int32)), .val (.ref w_FURTHER), .val (.int (1 : Int32))] [(.int (0 : Int32)), (.ref w_FURTHER)])) rfl (by rw [hml]; rfl) (Steps.refl _) (argsL := [(.int (0 : Int32))]) (rest := []) (lenOf own_pd0 rfl) rfl (by show 2 * 0 + _ ≤ _; exact Nat.le_of_eq rfl) (hb hby at_86) (fun _ _ => ⟨rfl, e7, (by decide : 1 + 0 ≤ _), (by decide : 3 + 0 ≤ _)⟩)
      dsimp only [Pt.U, Pt.locs, Pt.cells, Pt.slots] at X21 l21 y21 z21 st21 hQ21
      subst l21 y21 z21
      obtain ⟨rfl, Nq21, eq21⟩ := hQ21
      have N21 := Fr.app N7 Nq21
      refine own_tr st21 ?_
      show own_G p.tables e below _ (T21.setTop (mkF m 89 #[.val (.int p1), .val (.int p2), .val (.ref b1), .val (.int (2 : Int32)), .val (.int (0 : Int32)), .val (.ref w_FURTHER), .val (.int (1 : Int32))] [(.int (1 : Int32))]))
      refine own_st (fun _ kS => XS.iload X21.here hx rfl (hb hby at_89) rfl kS) ?_
      show own_G p.tables e below _ (T21.setTop (mkF m 91 #[.val (.int p1), .val (.int p2), .val (.ref b1), .val (.int (2 : Int32)), .val (.int (0 : Int32)), .val (.ref w_FURTHER), .val (.int (1 : Int32))] [(.int (1 : Int32)), (.int (1 : Int32))]))
      refine own_st (fun _ kS => XS.icmpNo X21.here hx rfl (hb hby at_91) rfl (teq (by decide : (1 : Int32) = (1 : Int32))).2 kS) ?_
      show own_G p.tables e below _ (T21.setTop (mkF m 94 #[.val (.int p1), .val (.int p2), .val (.ref b1), .val (.int (2 : Int32)), .val (.int (0 : Int32)), .val (.ref w_FURTHER), .val (.int (1 : Int32))] []))
      refine own_st (fun _ kS => XS.iconst X21.here hx rfl (hb hby at_94) kS) ?_
      show own_G p.tables e below _ (T21.setTop (mkF m 95 #[.val (.int p1), .val (.int p2), .val (.ref b1), .val (.int (2 : Int32)), .val (.int (0 : Int32)), .val (.ref w_FURTHER), .val (.int (1 : Int32))] [(.int (1 : Int32))]))
      refine own_st (fun _ kS => XS.goto X21.here hx rfl (pc0 := 95) (pc' := 99) rfl (hb hby at_95) (by decide) (by decide) kS) ?_
      show own_G p.tables e below _ (T21.setTop (mkF m 99 #[.val (.int p1), .val (.int p2), .val (.ref b1), .val (.int (2 : Int32)), .val (.int (0 : Int32)), .val (.ref w_FURTHER), .val (.int (1 : Int32))] [(.int (1 : Int32))]))
      exact own_retN X21 hx hlk (t := .boolean) hret (by simp) (hb hby at_99) (by decide) (by decide) (v' := (1 : Int32)) rfl (by rw [eq21]; exact ⟨rfl, N21⟩)
    · skip
      refine own_st (fun _ kS => XS.ifNo X7.here hx rfl (hb hby at_33) rfl ((if0 _ _).trans (feq hc33_19).1) kS) ?_
      show own_G p.tables e below _ (T7.setTop (mkF m 36 #[.val (.int p1), .val (.int p2), .val (.ref b1), .val (.int (2 : Int32)), .unset, .unset, .unset] []))
      refine own_st (fun _ kS => XS.iconst X7.here hx rfl (hb hby at_36) kS) ?_
      show own_G p.tables e below _ (T7.setTop (mkF m 37 #[.val (.int p1), .val (.int p2), .val (.ref b1), .val (.int (2 : Int32)), .unset, .unset, .unset] [(.int (1 : Int32))]))
      refine own_st (fun _ kS => XS.goto X7.here hx rfl (pc0 := 37) (pc' := 41) rfl (hb hby at_37) (by decide) (by decide) kS) ?_
      show own_G p.tables e below _ (T7.setTop (mkF m 41 #[.val (.int p1), .val (.int p2), .val (.ref b1), .val (.int (2 : Int32)), .unset, .unset, .unset] [(.int (1 : Int32))]))
      refine own_st (fun _ kS => XS.istore X7.here hx rfl (hb hby at_41) rfl (l' := #[.val (.int p1), .val (.int p2), .val (.ref b1), .val (.int (2 : Int32)), .val (.int (1 : Int32)), .unset, .unset]) rfl kS) ?_
      show own_G p.tables e below _ (T7.setTop (mkF m 43 #[.val (.int p1), .val (.int p2), .val (.ref b1), .val (.int (2 : Int32)), .val (.int (1 : Int32)), .unset, .unset] []))
      refine own_st (fun _ kS => XS.aloadN X7.here hx rfl (hb hby at_43) rfl rfl kS) ?_
      show own_G p.tables e below _ (T7.setTop (mkF m 44 #[.val (.int p1), .val (.int p2), .val (.ref b1), .val (.int (2 : Int32)), .val (.int (1 : Int32)), .unset, .unset] [(.ref b1)]))
      refine own_st (fun _ kS => XS.iloadN X7.here hx rfl (hb hby at_44) rfl kS) ?_
      show own_G p.tables e below _ (T7.setTop (mkF m 45 #[.val (.int p1), .val (.int p2), .val (.ref b1), .val (.int (2 : Int32)), .val (.int (1 : Int32)), .unset, .unset] [(.int (2 : Int32)), (.ref b1)]))
      obtain ⟨cl22, Ar22, qa22, qs22, qn22, qh22, qg22⟩ := R7
      refine own_st (fun _ kS => X7.aaload hx (j := (2 : Int32)) (v := (.ref w_FURTHER)) (by rw [e7]; exact Ar22.1) (State.isArrayOf_alike hZ.alike Ar22.2.1) rfl Ar22.2.2 (inb_of qs22 ⟨by decide, by decide⟩) (qh22.at (inb_of qs22 ⟨by decide, by decide⟩) rfl) (g := (mkF m 45 #[.val (.int p1), .val (.int p2), .val (.ref b1), .val (.int (2 : Int32)), .val (.int (1 : Int32)), .unset, .unset] [(.int (2 : Int32)), (.ref b1)])) rfl rfl (hb hby at_45) _ kS) ?_
      show own_G p.tables e below _ (T7.setTop (mkF m 46 #[.val (.int p1), .val (.int p2), .val (.ref b1), .val (.int (2 : Int32)), .val (.int (1 : Int32)), .unset, .unset] [(.ref w_FURTHER)]))
      refine own_st (fun _ kS => XS.astore X7.here hx rfl (hb hby at_46) rfl rfl (l' := #[.val (.int p1), .val (.int p2), .val (.ref b1), .val (.int (2 : Int32)), .val (.int (1 : Int32)), .val (.ref w_FURTHER), .unset]) rfl kS) ?_
      show own_G p.tables e below _ (T7.setTop (mkF m 48 #[.val (.int p1), .val (.int p2), .val (.ref b1), .val (.int (2 : Int32)), .val (.int (1 : Int32)), .val (.ref w_FURTHER), .unset] []))
      refine own_st (fun _ kS => XS.iloadN X7.here hx rfl (hb hby at_48) rfl kS) ?_
      show own_G p.tables e below _ (T7.setTop (mkF m 49 #[.val (.int p1), .val (.int p2), .val (.ref b1), .val (.int (2 : Int32)), .val (.int (1 : Int32)), .val (.ref w_FURTHER), .unset] [(.int (2 : Int32))]))
      refine own_st (fun _ kS => XS.ifYes X7.here hx rfl (pc0 := 49) (pc' := 58) rfl (hb hby at_49) rfl ((if0 _ _).trans (feq (by decide : ¬ ((2 : Int32) = (0 : Int32)))).2) (by decide) (by decide) kS) ?_
      show own_G p.tables e below _ (T7.setTop (mkF m 58 #[.val (.int p1), .val (.int p2), .val (.ref b1), .val (.int (2 : Int32)), .val (.int (1 : Int32)), .val (.ref w_FURTHER), .unset] []))
      refine own_st (fun _ kS => XS.iloadN X7.here hx rfl (hb hby at_58) rfl kS) ?_
      show own_G p.tables e below _ (T7.setTop (mkF m 59 #[.val (.int p1), .val (.int p2), .val (.ref b1), .val (.int (2 : Int32)), .val (.int (1 : Int32)), .val (.ref w_FURTHER), .unset] [(.int (2 : Int32))]))
      refine own_st (fun _ kS => XS.iconst X7.here hx rfl (hb hby at_59) kS) ?_
      show own_G p.tables e below _ (T7.setTop (mkF m 60 #[.val (.int p1), .val (.int p2), .val (.ref b1), .val (.int (2 : Int32)), .val (.int (1 : Int32)), .val (.ref w_FURTHER), .unset] [(.int (1 : Int32)), (.int (2 : Int32))]))
      refine own_st (fun _ kS => XS.icmpYes X7.here hx rfl (pc0 := 60) (pc' := 70) rfl (hb hby at_60) rfl (feq (by decide : ¬ ((2 : Int32) = (1 : Int32)))).2 (by decide) (by decide) kS) ?_
      show own_G p.tables e below _ (T7.setTop (mkF m 70 #[.val (.int p1), .val (.int p2), .val (.ref b1), .val (.int (2 : Int32)), .val (.int (1 : Int32)), .val (.ref w_FURTHER), .unset] []))
      refine own_st (fun _ kS => XS.iload X7.here hx rfl (hb hby at_70) rfl kS) ?_
      show own_G p.tables e below _ (T7.setTop (mkF m 72 #[.val (.int p1), .val (.int p2), .val (.ref b1), .val (.int (2 : Int32)), .val (.int (1 : Int32)), .val (.ref w_FURTHER), .unset] [(.int (1 : Int32))]))
      refine own_st (fun _ kS => XS.ifYes X7.here hx rfl (pc0 := 72) (pc' := 79) rfl (hb hby at_72) rfl ((if0 _ _).trans (feq (by decide : ¬ ((1 : Int32) = (0 : Int32)))).2) (by decide) (by decide) kS) ?_
      show own_G p.tables e below _ (T7.setTop (mkF m 79 #[.val (.int p1), .val (.int p2), .val (.ref b1), .val (.int (2 : Int32)), .val (.int (1 : Int32)), .val (.ref w_FURTHER), .unset] []))
      refine own_st (fun _ kS => XS.iconst X7.here hx rfl (hb hby at_79) kS) ?_
      show own_G p.tables e below _ (T7.setTop (mkF m 80 #[.val (.int p1), .val (.int p2), .val (.ref b1), .val (.int (2 : Int32)), .val (.int (1 : Int32)), .val (.ref w_FURTHER), .unset] [(.int (0 : Int32))]))
      refine own_st (fun _ kS => XS.istore X7.here hx rfl (hb hby at_80) rfl (l' := #[.val (.int p1), .val (.int p2), .val (.ref b1), .val (.int (2 : Int32)), .val (.int (1 : Int32)), .val (.ref w_FURTHER), .val (.int (0 : Int32))]) rfl kS) ?_
      show own_G p.tables e below _ (T7.setTop (mkF m 82 #[.val (.int p1), .val (.int p2), .val (.ref b1), .val (.int (2 : Int32)), .val (.int (1 : Int32)), .val (.ref w_FURTHER), .val (.int (0 : Int32))] []))
      refine own_st (fun _ kS => XS.aload X7.here hx rfl (hb hby at_82) rfl rfl kS) ?_
      show own_G p.tables e below _ (T7.setTop (mkF m 84 #[.val (.int p1), .val (.int p2), .val (.ref b1), .val (.int (2 : Int32)), .val (.int (1 : Int32)), .val (.ref w_FURTHER), .val (.int (0 : Int32))] [(.ref w_FURTHER)]))
      refine own_st (fun _ kS => XS.iload X7.here hx rfl (hb hby at_84) rfl kS) ?_
      show own_G p.tables e below _ (T7.setTop (mkF m 86 #[.val (.int p1), .val (.int p2), .val (.ref b1), .val (.int (2 : Int32)), .val (.int (1 : Int32)), .val (.ref w_FURTHER), .val (.int (0 : Int32))] [(.int (1 : Int32)), (.ref w_FURTHER)]))
      obtain ⟨cq23, kq23, q23a, q23b, q23c⟩ := isOf hZ e7 (Exa.ext O7.2 E_FURTHER)
      obtain ⟨_, _, ⟨T23, L23, k23, n23⟩, -, X23, ⟨Lc23, hQ23, l23, y23, z23⟩, st23⟩ := X7.virtualBack hx (y := (⟨"com/example/cartouche/cartouche/crosswalks/Placement$Position", "admits", "(Z)Z"⟩ : MethodName)) (z := (⟨"com/example/cartouche/cartouche/crosswalks/Placement$Position", "admits", "(Z)Z"⟩ : MethodName)) hown (mvT hZ (hw _ (List.mem_of_getElem? (i := 11) rfl))) (mvT hZ (hw _ (List.mem_of_getElem? (i := 12) rfl))) (notFace_of_selects (args := #[]) (mvT hZ (hw _ (List.mem_of_getElem? (i := 14) rfl)))) (mvT hZ (hw _ (List.mem_of_getElem? (i := 14) rfl))) (mvT hZ (hw _ (List.mem_of_getElem? (i := 13) rfl))) (by decide) (backOf (W := 0) (rm_admits_FURTHER_1 l Z a0 hw [] w_FURTHER w_ANY w_FIRST h7 n0 (Nat.le_trans (Nat.le_trans (Nat.le_trans (Nat.le_trans Z0 E1.1) (Keep.of_wr W3).1) (Keep.of_wr W5).1) (Keep.of_wr W7).1) O7 S_ANY S_FIRST ne_FURTHER_ANY ne_FURTHER_FIRST) hZ (hw _ (List.mem_of_getElem? (i := 15) rfl)) (hw _ (List.mem_of_getElem? (i := 3) rfl)) (by decide) (by decide)) q23a q23c (g := (mkF m 86 #[.val (.int p1), .val (.int p2), .val (.ref b1), .val (.int (2 : Int32)), .val (.int (1 : Int32)), .val (.ref w_FURTHER), .val (.int (0 : Int32))] [(.int (1 : Int32)), (.ref w_FURTHER)])) rfl (by rw [hml]; rfl) (Steps.refl _) (argsL := [(.int (1 : Int32))]) (rest := []) (lenOf own_pd0 rfl) rfl (by show 2 * 0 + _ ≤ _; exact Nat.le_of_eq rfl) (hb hby at_86) (fun _ _ => ⟨rfl, e7, (by decide : 1 + 0 ≤ _), (by decide : 3 + 0 ≤ _)⟩)
      dsimp only [Pt.U, Pt.locs, Pt.cells, Pt.slots] at X23 l23 y23 z23 st23 hQ23
      subst l23 y23 z23
      obtain ⟨rfl, Nq23, eq23⟩ := hQ23
      have N23 := Fr.app N7 Nq23
      refine own_tr st23 ?_
      show own_G p.tables e below _ (T23.setTop (mkF m 89 #[.val (.int p1), .val (.int p2), .val (.ref b1), .val (.int (2 : Int32)), .val (.int (1 : Int32)), .val (.ref w_FURTHER), .val (.int (0 : Int32))] [(.int (0 : Int32))]))
      refine own_st (fun _ kS => XS.iload X23.here hx rfl (hb hby at_89) rfl kS) ?_
      show own_G p.tables e below _ (T23.setTop (mkF m 91 #[.val (.int p1), .val (.int p2), .val (.ref b1), .val (.int (2 : Int32)), .val (.int (1 : Int32)), .val (.ref w_FURTHER), .val (.int (0 : Int32))] [(.int (0 : Int32)), (.int (0 : Int32))]))
      refine own_st (fun _ kS => XS.icmpNo X23.here hx rfl (hb hby at_91) rfl (teq (by decide : (0 : Int32) = (0 : Int32))).2 kS) ?_
      show own_G p.tables e below _ (T23.setTop (mkF m 94 #[.val (.int p1), .val (.int p2), .val (.ref b1), .val (.int (2 : Int32)), .val (.int (1 : Int32)), .val (.ref w_FURTHER), .val (.int (0 : Int32))] []))
      refine own_st (fun _ kS => XS.iconst X23.here hx rfl (hb hby at_94) kS) ?_
      show own_G p.tables e below _ (T23.setTop (mkF m 95 #[.val (.int p1), .val (.int p2), .val (.ref b1), .val (.int (2 : Int32)), .val (.int (1 : Int32)), .val (.ref w_FURTHER), .val (.int (0 : Int32))] [(.int (1 : Int32))]))
      refine own_st (fun _ kS => XS.goto X23.here hx rfl (pc0 := 95) (pc' := 99) rfl (hb hby at_95) (by decide) (by decide) kS) ?_
      show own_G p.tables e below _ (T23.setTop (mkF m 99 #[.val (.int p1), .val (.int p2), .val (.ref b1), .val (.int (2 : Int32)), .val (.int (1 : Int32)), .val (.ref w_FURTHER), .val (.int (0 : Int32))] [(.int (1 : Int32))]))
      exact own_retN X23 hx hlk (t := .boolean) hret (by simp) (hb hby at_99) (by decide) (by decide) (v' := (1 : Int32)) rfl (by rw [eq23]; exact ⟨rfl, N23⟩)
set_option maxRecDepth 65536 in
set_option maxHeartbeats 40000000 in
theorem comes_1 {Post : Tables → Env → Array Value → State → Outcome → State → Prop} (hpost : ∀ tb e args s v u, (limb_1_1.after args s (.returned v) u = true ∧ limb_1_2.after args s (.returned v) u = true ∧ True) → FrameEnd s (.returned v) u (Jvm.fieldLocs frame_1_writes args s ++ Jvm.arrayLocs frame_1_arrays args s ++ Jvm.staticLocs frame_1_statics s) 16 128 → Post tb e args s (.returned v) u) :
    ArmFor flags0 classFile x code maxLocals ret World_1 tables_1 room_1 Calls_1 rest_1 Pre_1 Post := by
  intro l hfl _ _ p e ha hc hk s m args below hf hA hF happ hP
  obtain ⟨hcalls, hrest, hpre⟩ := hP
  obtain ⟨-, -, -, hnamed, -, -, -, hat⟩ := (Spec.applies_iff hf).mp happ
  obtain ⟨hg, hn⟩ := and_e (Cond.before_iff.mp (show (Jvm.Cond.and given_1 narrow_1).before args s = true from hpre))
  obtain ⟨g1a, g1b⟩ := and_e hg
  obtain ⟨g2a, g2b⟩ := and_e g1b
  obtain ⟨w0, w1, rfl⟩ : ∃ w0 w1 : Value, args = #[w0, w1] := by
    have hs : args.size = 2 := by simpa [Cond.value, given_1] using g1a
    obtain ⟨L⟩ := args
    match L, hs with
    | [w0, w1], _ => exact ⟨w0, w1, rfl⟩
  have hw := fun d (hd : d ∈ tables_1) => atoms_spec (ws := Jvm.Cond.code x code maxLocals ret :: tables_1) hat d (List.mem_cons_of_mem _ hd)
  have hfit : Fit s := fun {y c} hc i hi => by
    obtain ⟨ha, rfl⟩ := Array.getElem?_eq_some_iff.mp hc
    have q := List.all_eq_true.mp ((Array.all_eq_true_iff_forall_mem.mp hF) _ (Array.getElem_mem ha)) i (List.mem_range.mpr hi)
    simpa [Array.getElem?_eq_getElem hi] using q
  obtain ⟨i0, ei0⟩ := is_v g2a
  obtain rfl : w0 = (.int i0) := Option.some.inj ei0
  obtain ⟨i1, ei1⟩ := is_v g2b
  obtain rfl : w1 = (.int i1) := Option.some.inj ei1
  obtain ⟨g3a, g3b⟩ := and_e hn
  obtain ⟨g4a, g4b⟩ := and_e g3b
  obtain ⟨g5a, g5b⟩ := and_e g4b
  obtain ⟨g6a, g6b⟩ := and_e g5b
  obtain ⟨g7a, g7b⟩ := and_e g6b
  obtain ⟨w_ANY, v_ANY⟩ := exa_v g3a
  have E_ANY := Exa.start v_ANY g3a
  have S_ANY := Sta.start v_ANY (Or.inr ⟨(hw _ (List.mem_of_getElem? (i := 3) rfl)), (hw _ (List.mem_of_getElem? (i := 4) rfl))⟩)
  obtain ⟨w_FIRST, v_FIRST⟩ := exa_v g4a
  have E_FIRST := Exa.start v_FIRST g4a
  have S_FIRST := Sta.start v_FIRST (Or.inr ⟨(hw _ (List.mem_of_getElem? (i := 3) rfl)), (hw _ (List.mem_of_getElem? (i := 7) rfl))⟩)
  obtain ⟨w_FURTHER, v_FURTHER⟩ := exa_v g5a
  have E_FURTHER := Exa.start v_FURTHER g5a
  have S_FURTHER := Sta.start v_FURTHER (Or.inr ⟨(hw _ (List.mem_of_getElem? (i := 3) rfl)), (hw _ (List.mem_of_getElem? (i := 9) rfl))⟩)
  have F_FURTHER_ordinal : Fld s s.heap w_FURTHER "java/lang/Enum" "ordinal" "I" (.int (2 : Int32)) := Fld.start ((fld_at v_FURTHER).symm.trans (eqv_i (Term.int_eval (2)) g6a))
  have F_ANY_ordinal : Fld s s.heap w_ANY "java/lang/Enum" "ordinal" "I" (.int (0 : Int32)) := Fld.start ((fld_at v_ANY).symm.trans (eqv_i (Term.int_eval (0)) g7a))
  have F_FIRST_ordinal : Fld s s.heap w_FIRST "java/lang/Enum" "ordinal" "I" (.int (1 : Int32)) := Fld.start ((fld_at v_FIRST).symm.trans (eqv_i (Term.int_eval (1)) g7b))
  have ne_ANY_FIRST := Fld.ne F_ANY_ordinal F_FIRST_ordinal (by decide)
  have ne_FIRST_ANY := Fld.ne F_FIRST_ordinal F_ANY_ordinal (by decide)
  have ne_FURTHER_ANY := Fld.ne F_FURTHER_ordinal F_ANY_ordinal (by decide)
  have ne_FURTHER_FIRST := Fld.ne F_FURTHER_ordinal F_FIRST_ordinal (by decide)
  obtain ⟨n, o, h1, h2, h3, _, L, rfl, ⟨rfl, N⟩, hq⟩ := rm_law l s _ hw tables_1 i0 i1 w_ANY w_FIRST w_FURTHER s.heap s.heap.size (Nat.le_refl _) (Old.start s) S_ANY S_FIRST S_FURTHER E_ANY E_FIRST E_FURTHER ne_ANY_FIRST ne_FIRST_ANY ne_FURTHER_ANY ne_FURTHER_FIRST p e ha hc hk s m _ below hf ((Spec.applies_iff_loose hf).mp happ).1 ⟨rfl, State.Warmed39.refl s, rfl⟩ trivial
  refine ⟨n, _, h1, h2, h3, hpost _ _ _ _ _ _ ⟨Cond.after_iff.mpr rfl, Cond.after_iff.mpr (eq_i res_at (Term.int_eval (1)) rfl), trivial⟩ ⟨hq.1, hq.2.1, (hq.2.2.sift fun y hy => Or.inr (N y hy)).mono (by decide) (by decide)⟩⟩
theorem main_1_1 : Claimed_1_1 := comes_1 fun _ _ _ _ _ _ h hF => ⟨h.1, hF⟩
theorem main_1_2 : Claimed_1_2 := comes_1 fun _ _ _ _ _ _ h hF => ⟨h.2.1, hF⟩
end Jvm.Pilot.@@N@@
namespace Jvm.Pilot.@@N@@
open Jvm Jvm.ClassFile Sem Op Lib Jvm.Free Jvm.Stand Jvm.Pilot.@@N@@.Jvm.D
/-! MADE BY PROGRAM (witnessworld.py) out of the Statement's table words and the real class files: 13 classes; the members and pool entries that the words name. The judged class is class 1, her method 1. -/
namespace start1
open Jvm.ClassFile
def u (s : String) : CpInfo := .utf8 (stringToUtf16 s)
/-- a pool by its gaps: so many unusable entries, then the entry; so many at the end -/
def gap : Nat → List CpInfo → List CpInfo
  | 0, r => r
  | n + 1, r => .unusable :: gap n r
def poolList (es : List (Nat × CpInfo)) (last : Nat) : List CpInfo := es.foldr (fun e r => gap e.1 (e.2 :: r)) (gap last [])
def pool (es : List (Nat × CpInfo)) (last : Nat) : Array CpInfo := ⟨poolList es last⟩
def fileOf (pool : Array CpInfo) (this : Nat) (attrs : Array Attribute := #[]) (ms : Array MethodInfo := #[]) (fl : Nat := 33) (sup : Nat := 0) (ifs : Array Nat := #[]) (fds : Array FieldInfo := #[]) : ClassFile where
  minorVersion := 0
  majorVersion := 65
  constantPool := pool
  accessFlags := fl
  thisClass := this
  superClass := sup
  interfaces := ifs
  fields := fds
  methods := ms
  attributes := attrs
def plain (name : String) (sup : Option ClassId) : Class where
  name := name
  kind := .ordinary
  loader := none
  accessFlags := 33
  super := sup
  interfaces := #[]
  cf := none
  fields := #[]
  methods := #[]
  instanceTypes := #[]
  staticTypes := #[]
  resolved := #[]
  callSites := []
  init := .initialized
  statics := none
  mirror := none

def pool0 : Array CpInfo := pool [(5, u "<init>"), (0, u "()V"), (1, .class_ 10), (1, u "java/lang/Object")] 113

def k0m0 : Method := { name := "<init>", desc := "()V", sig := { parameters := [], returnType := none }, accessFlags := 1, code := none }
/-- java/lang/Object -/
def k0 : Class := { plain "java/lang/Object" none with
  accessFlags := 33
  interfaces := #[]
  cf := some (fileOf pool0 8 #[] #[{ accessFlags := 1, nameIndex := 5, descriptorIndex := 6, attributes := #[] }] 33 0 #[] #[])
  fields := #[]
  methods := #[k0m0]
  instanceTypes := #[]
  staticTypes := #[]
  resolved := Array.replicate 124 none
  statics := none }

def pool1 : Array CpInfo := pool [(2, .class_ 4), (1, u "java/lang/Object"), (0, u "<init>"), (0, u "()V"), (0, .class_ 8), (0, u "com/example/cartouche/cartouche/crosswalks/Placement$Position"), (0, .fieldref 7 10), (0, .nameAndType 11 12), (0, u "ANY"), (0, u "Lcom/example/cartouche/cartouche/crosswalks/Placement$Position;"), (0, .fieldref 7 14), (0, .nameAndType 15 12), (0, u "FIRST"), (0, .fieldref 7 17), (0, .nameAndType 18 12), (0, u "FURTHER"), (0, .integer 2147483647), (0, .methodref 7 21), (0, .nameAndType 22 23), (0, u "admits"), (0, u "(Z)Z"), (0, .class_ 25), (0, u "com/example/cartouche/cartouche/crosswalks/PositionAdmitsPinLaw"), (2, u "law"), (0, u "(II)Z")] 9

def k1m0 : Method := { name := "<init>", desc := "()V", sig := { parameters := [], returnType := none }, accessFlags := 2, code := none }
def k1c1 : Code := { maxStack := 4, maxLocals := 7, code := code, exceptionTable := #[], attributes := #[] }
def k1m1 : Method := { name := "law", desc := "(II)Z", sig := { parameters := [.int, .int], returnType := some .boolean }, accessFlags := 9, code := some k1c1 }
/-- com/example/cartouche/cartouche/crosswalks/PositionAdmitsPinLaw -/
def k1 : Class := { plain "com/example/cartouche/cartouche/crosswalks/PositionAdmitsPinLaw" (some 0) with
  accessFlags := 49
  interfaces := #[]
  cf := some (fileOf pool1 24 #[] #[{ accessFlags := 2, nameIndex := 5, descriptorIndex := 6, attributes := #[] }, { accessFlags := 9, nameIndex := 28, descriptorIndex := 29, attributes := #[] }] 49 2 #[] #[])
  fields := #[]
  methods := #[k1m0, k1m1]
  instanceTypes := #[]
  staticTypes := #[]
  resolved := Array.replicate 39 none
  statics := none }

def pool2 : Array CpInfo := pool [(1, .class_ 2), (0, u "java/lang/constant/Constable"), (0, .class_ 4), (0, u "java/lang/Object")] 6

/-- java/lang/constant/Constable -/
def k2 : Class := { plain "java/lang/constant/Constable" (some 0) with
  accessFlags := 1537
  interfaces := #[]
  cf := some (fileOf pool2 1 #[] #[] 1537 3 #[] #[])
  fields := #[]
  methods := #[]
  instanceTypes := #[]
  staticTypes := #[]
  resolved := Array.replicate 11 none
  statics := none }

def pool3 : Array CpInfo := pool [(1, .class_ 2), (0, u "java/lang/Comparable"), (0, .class_ 4), (0, u "java/lang/Object")] 7

/-- java/lang/Comparable -/
def k3 : Class := { plain "java/lang/Comparable" (some 0) with
  accessFlags := 1537
  interfaces := #[]
  cf := some (fileOf pool3 1 #[] #[] 1537 3 #[] #[])
  fields := #[]
  methods := #[]
  instanceTypes := #[]
  staticTypes := #[]
  resolved := Array.replicate 12 none
  statics := none }

def pool4 : Array CpInfo := pool [(1, .class_ 2), (0, u "java/io/Serializable"), (0, .class_ 4), (0, u "java/lang/Object")] 2

/-- java/io/Serializable -/
def k4 : Class := { plain "java/io/Serializable" (some 0) with
  accessFlags := 1537
  interfaces := #[]
  cf := some (fileOf pool4 1 #[] #[] 1537 3 #[] #[])
  fields := #[]
  methods := #[]
  instanceTypes := #[]
  staticTypes := #[]
  resolved := Array.replicate 7 none
  statics := none }

def pool5 : Array CpInfo := pool [(2, .class_ 4), (1, u "java/lang/Enum"), (0, u "name"), (0, u "Ljava/lang/String;"), (2, u "ordinal"), (0, u "I"), (1, .class_ 14), (1, u "java/lang/Object"), (4, u "hash"), (86, .class_ 108), (1, u "java/lang/Enum$EnumDesc"), (2, .class_ 112), (0, u "java/lang/constant/Constable"), (0, .class_ 114), (0, u "java/lang/Comparable"), (0, .class_ 116), (0, u "java/io/Serializable")] 87

/-- java/lang/Enum -/
def k5 : Class := { plain "java/lang/Enum" (some 0) with
  accessFlags := 1057
  interfaces := #[2, 3, 4]
  cf := some (fileOf pool5 2 #[.nestMembers #[106]] #[] 1057 12 #[111, 113, 115] #[{ accessFlags := 18, nameIndex := 5, descriptorIndex := 6, attributes := #[] }, { accessFlags := 18, nameIndex := 9, descriptorIndex := 10, attributes := #[] }, { accessFlags := 2, nameIndex := 19, descriptorIndex := 10, attributes := #[] }])
  fields := #[{ name := "name", type := (.object "java/lang/String"), accessFlags := 18, slot := 0, constantValue := 0 }, { name := "ordinal", type := .int, accessFlags := 18, slot := 1, constantValue := 0 }, { name := "hash", type := .int, accessFlags := 2, slot := 2, constantValue := 0 }]
  methods := #[]
  instanceTypes := #[(.object "java/lang/String"), .int, .int]
  staticTypes := #[]
  resolved := Array.replicate 204 none
  statics := none }

def pool6 : Array CpInfo := pool [(1, .class_ 2), (0, u "com/example/cartouche/cartouche/crosswalks/Placement$Position"), (0, .fieldref 1 4), (0, .nameAndType 5 6), (0, u "ANY"), (0, u "Lcom/example/cartouche/cartouche/crosswalks/Placement$Position;"), (0, .fieldref 1 8), (0, .nameAndType 9 6), (0, u "FIRST"), (2, u "FURTHER"), (2, u "$VALUES"), (0, u "[Lcom/example/cartouche/cartouche/crosswalks/Placement$Position;"), (6, .class_ 25), (1, u "java/lang/Enum"), (21, u "admits"), (0, u "(Z)Z"), (6, .class_ 56), (0, u "com/example/cartouche/cartouche/crosswalks/Placement")] 2

def k6c0 : Code := { maxStack := 3, maxLocals := 2, code := prog_52_method_4_code, exceptionTable := #[], attributes := #[] }
def k6m0 : Method := { name := "admits", desc := "(Z)Z", sig := { parameters := [.boolean], returnType := some .boolean }, accessFlags := 0, code := some k6c0 }
/-- com/example/cartouche/cartouche/crosswalks/Placement$Position -/
def k6 : Class := { plain "com/example/cartouche/cartouche/crosswalks/Placement$Position" (some 5) with
  accessFlags := 16432
  interfaces := #[]
  cf := some (fileOf pool6 1 #[.nestHost 55] #[{ accessFlags := 0, nameIndex := 47, descriptorIndex := 48, attributes := #[] }] 16432 23 #[] #[{ accessFlags := 16409, nameIndex := 5, descriptorIndex := 6, attributes := #[] }, { accessFlags := 16409, nameIndex := 9, descriptorIndex := 6, attributes := #[] }, { accessFlags := 16409, nameIndex := 12, descriptorIndex := 6, attributes := #[] }, { accessFlags := 4122, nameIndex := 15, descriptorIndex := 16, attributes := #[] }])
  fields := #[{ name := "ANY", type := (.object "com/example/cartouche/cartouche/crosswalks/Placement$Position"), accessFlags := 16409, slot := 0, constantValue := 0 }, { name := "FIRST", type := (.object "com/example/cartouche/cartouche/crosswalks/Placement$Position"), accessFlags := 16409, slot := 1, constantValue := 0 }, { name := "FURTHER", type := (.object "com/example/cartouche/cartouche/crosswalks/Placement$Position"), accessFlags := 16409, slot := 2, constantValue := 0 }, { name := "$VALUES", type := (.array (.object "com/example/cartouche/cartouche/crosswalks/Placement$Position")), accessFlags := 4122, slot := 3, constantValue := 0 }]
  methods := #[k6m0]
  instanceTypes := #[(.object "java/lang/String"), .int, .int]
  staticTypes := #[(.object "com/example/cartouche/cartouche/crosswalks/Placement$Position"), (.object "com/example/cartouche/cartouche/crosswalks/Placement$Position"), (.object "com/example/cartouche/cartouche/crosswalks/Placement$Position"), (.array (.object "com/example/cartouche/cartouche/crosswalks/Placement$Position"))]
  resolved := Array.replicate 59 none
  statics := some 0 }

def pool7 : Array CpInfo := pool [(1, u "java/lang/Cloneable"), (0, .class_ 1), (0, u "java/lang/Object"), (0, .class_ 3)] 3

/-- java/lang/Cloneable -/
def k7 : Class := { plain "java/lang/Cloneable" (some 0) with
  accessFlags := 1537
  interfaces := #[]
  cf := some (fileOf pool7 2 #[] #[] 1537 4 #[] #[])
  fields := #[]
  methods := #[]
  instanceTypes := #[]
  staticTypes := #[]
  resolved := Array.replicate 8 none
  statics := none }

/-- the primitive byte -/
def k8 : Class := { plain "byte" none with kind := .primitive 'B', accessFlags := 0x411 }
/-- [B -/
def k9 : Class := { plain "[B" (some 0) with kind := .array 8 .byte, interfaces := #[7, 4], accessFlags := 1041 }

/-- the primitive int -/
def k10 : Class := { plain "int" none with kind := .primitive 'I', accessFlags := 0x411 }
/-- [I -/
def k11 : Class := { plain "[I" (some 0) with kind := .array 10 .int, interfaces := #[7, 4], accessFlags := 1041 }

/-- [Lcom/example/cartouche/cartouche/crosswalks/Placement$Position; -/
def k12 : Class := { plain "[Lcom/example/cartouche/cartouche/crosswalks/Placement$Position;" (some 0) with kind := .array 6 (.object "com/example/cartouche/cartouche/crosswalks/Placement$Position"), interfaces := #[7, 4], accessFlags := 1041 }

def heap : Heap := #[{ cls := 6, slots := #[.ref 1, .ref 2, .ref 3, .null], vm := .statics 6 },
  { cls := 6, slots := #[.null, .int 0, .int 0], vm := .none },
  { cls := 6, slots := #[.null, .int 1, .int 0], vm := .none },
  { cls := 6, slots := #[.null, .int 2, .int 0], vm := .none }]
def classes : Array Class := #[k0, k1, k2, k3, k4, k5, k6, k7, k8, k9, k10, k11, k12]
def interned : List (Array UInt16 × Addr) := []
def slotsUsed : Nat := 13
def theMethod : MethodId := ⟨1, 1⟩
def args0 : Array Value := #[.int 5, .int 1]
def aboutOver (below : List Frame) : State where
  vm := { classes := classes, interned := interned.toArray }
  heap := heap
  slotsUsed := slotsUsed
  threads := #[{ frames := .invoking theMethod args0 :: below }]
def below0 : List Frame := [.native { method := ⟨0, 0⟩, args := #[] }]
def about1 : State := aboutOver below0
def p0 : Program := .bare "" "" ""
def e0 : Env := launch0.env 0 0 0
theorem w_frames : about1.frames = Frame.invoking theMethod args0 :: below0 := rfl
set_option maxRecDepth 65536 in
theorem w_args : argsFit about1.vm theMethod args0 = true := by decide +kernel
set_option maxRecDepth 65536 in
theorem w_heap : heapFits about1 = true := by decide +kernel
set_option maxRecDepth 65536 in
theorem w_runnable : about1.curStatus? = some .runnable := by decide +kernel
set_option maxRecDepth 65536 in
theorem w_alone : about1.alone = true := by decide +kernel
set_option maxRecDepth 65536 in
theorem w_named : about1.methodNamed? x = some theMethod := by decide +kernel
set_option maxRecDepth 65536 in
theorem w_hears : about1.hears theMethod below0 = true := by decide +kernel
set_option maxRecDepth 65536 in
theorem w_ripe : about1.ripe theMethod args0 below0 = true := by decide +kernel
theorem w_running : about1.status = .running := rfl
set_option maxRecDepth 65536 in
theorem w_room : about1.hasRoom e0.platform room_1 = true :=
  launch0.hasRoom_least _ room_1 (by decide +kernel) (by decide +kernel) (by decide +kernel) (by decide +kernel) (by decide +kernel) (by decide +kernel)
theorem allAtoms_all (ts : List Jvm.Cond) (a : Array Jvm.Value) (st : Jvm.State) : (allAtoms ts).before a st = ts.all (fun c => c.before a st) := by
  induction ts with
  | nil => rfl
  | cons c t ih =>
    show (Jvm.Cond.and c (allAtoms t)).before a st = _
    rw [Jvm.Cond.before_and, ih, List.all_cons]
def words1 : List Jvm.Cond := Jvm.Cond.code x code maxLocals ret :: tables_1
/-- a 'code' word, met by the world's own term for the bytes: nothing is compared byte by byte -/
theorem code_word {y : MethodName} {bytes : ByteArray} {mx : Nat} {rt : Option FieldType} {a : Array Value} {s : State} {m : MethodId} {meth : Method} {c : Code} (h1 : s.methodNamed? y = some m) (h2 : s.vm.method? m = some meth) (h3 : meth.code = some c) (h4 : c.code = bytes)
    (h5 : (c.maxLocals == mx && c.exceptionTable.isEmpty && decide (c.maxStack ≤ mostOperands) && decide (meth.sig.returnType = rt) && !meth.locks && decide (parseMethodDescriptor y.desc = some meth.sig)) = true) : (Jvm.Cond.code y bytes mx rt).before a s = true := by
  simp only [Bool.and_eq_true, beq_iff_eq, Bool.not_eq_true', decide_eq_true_eq] at h5
  obtain ⟨⟨⟨⟨⟨g1, g2⟩, g3⟩, g4⟩, g5⟩, g6⟩ := h5
  simp [Cond.before, Cond.holds, Cond.value, h1, h2, h3, h4, g1, g2, g3, g4, g5, g6]
def isCode : Jvm.Cond → Bool
  | .code _ _ _ _ => true
  | _ => false
theorem all_split {L : List Jvm.Cond} {P : Jvm.Cond → Bool} (h1 : L.all (fun c => isCode c || P c) = true) (h2 : ∀ c ∈ L.filter isCode, P c = true) : L.all P = true := by
  refine List.all_eq_true.mpr fun c hc => ?_
  have h := List.all_eq_true.mp h1 c hc
  rcases Bool.eq_false_or_eq_true (isCode c) with hi | hi
  · exact h2 c (List.mem_filter.mpr ⟨hc, hi⟩)
  · simpa [hi] using h
set_option maxRecDepth 65536 in
theorem w_c0 : (Jvm.Cond.code x code maxLocals ret).before args0 about1 = true := code_word (m := ⟨1, 1⟩) (meth := k1m1) (c := k1c1) (by decide +kernel) rfl rfl rfl (by decide +kernel)
set_option maxRecDepth 65536 in
theorem w_c1 : (Jvm.Cond.code ({ cls := "com/example/cartouche/cartouche/crosswalks/Placement$Position", name := "admits", desc := "(Z)Z" } : Jvm.MethodName) prog_52_method_4_code (2 : Nat) (Option.some Jvm.ClassFile.FieldType.boolean)).before args0 about1 = true := code_word (m := ⟨6, 0⟩) (meth := k6m0) (c := k6c0) (by decide +kernel) rfl rfl rfl (by decide +kernel)
def codes1 : List Jvm.Cond := [Jvm.Cond.code x code maxLocals ret, Jvm.Cond.code ({ cls := "com/example/cartouche/cartouche/crosswalks/Placement$Position", name := "admits", desc := "(Z)Z" } : Jvm.MethodName) prog_52_method_4_code (2 : Nat) (Option.some Jvm.ClassFile.FieldType.boolean)]
set_option maxRecDepth 65536 in
theorem codes_eq : words1.filter isCode = codes1 := rfl
theorem w_codes : ∀ c ∈ words1.filter isCode, c.before args0 about1 = true := by
  rw [codes_eq]
  intro c hc
  simp only [codes1, List.mem_cons, List.not_mem_nil, or_false] at hc
  rcases hc with rfl | rfl
  · exact w_c0
  · exact w_c1
set_option maxRecDepth 65536 in
theorem w_t1 : words1.all (fun c => isCode c || c.before args0 about1) = true := by decide +kernel
theorem w_tables : (allAtoms (Jvm.Cond.code x code maxLocals ret :: tables_1)).before args0 about1 = true := by
  rw [allAtoms_all]
  show words1.all (fun c => c.before args0 about1) = true
  refine all_split ?_ w_codes
  rw [w_t1]
set_option maxRecDepth 65536 in
theorem w_case : (Jvm.Cond.and given_1 narrow_1).before args0 about1 = true := by decide +kernel
theorem w_applies : (headSpec (Jvm.Cond.code x code maxLocals ret :: tables_1) room_1).applies x e0.platform about1 = true :=
  (Spec.applies_iff w_frames).mpr ⟨w_running, w_runnable, w_alone, w_named, w_hears, w_ripe, w_room, w_tables⟩
theorem atStart : AtStart classFile x code maxLocals ret World_1 tables_1 room_1 Calls_1 rest_1 Pre_1 launch0 p0 e0 about1 theMethod args0 below0 :=
  ⟨lists_1, trivial, launch0.admits_env _ _ _, launch0.least_env, fairChoices_fair.cas, fairChoices_fair.clock, w_frames, w_args, w_heap, w_applies, trivial, trivial, w_case⟩
end start1
theorem witness_1 : WitnessClaimed_1 := ⟨start1.p0, start1.e0, start1.about1, start1.theMethod, start1.args0, start1.below0, start1.atStart⟩
end Jvm.Pilot.@@N@@
