import JvmDerived
import JvmDerived.Pilot.@@N@@Statement
import JvmDerived.Pilot.@@N@@Code
set_option linter.unusedVariables false
set_option linter.unusedSimpArgs false
namespace Jvm.Pilot.@@N@@
open Jvm Jvm.ClassFile Sem Op Lib Jvm.Free Jvm.Stand Jvm.LawKit Jvm.RoadKit Bundle Jvm.Pilot.@@N@@.Jvm.D
section OwnKit
variable {p : Program} {l : Launch} {e : Env} {R : Room} {s : State} {m : MethodId} {args : Array Value} {below : List Frame} {meth : Method} {c : Code} {T : State} {locs : List Loc} {cells slots : Nat}
/-- from S the run comes to an end that Φ takes -/
def own_G (tb : Tables) (e : Env) (below : List Frame) (Φ : State → Outcome → Prop) (S : State) : Prop := ∃ t o, Steps tb e below S t ∧ t.status = .running ∧ Ended t below o ∧ Φ t o
def own_E (s : State) (Q : Option Value → Heap → List Loc → Prop) (kc ks : Nat) : State → Outcome → Prop := fun t o => ∃ v L, o = .returned v ∧ Q v t.heap L ∧ FrameEnd s o t L kc ks
theorem own_st {tb : Tables} {Φ : State → Outcome → Prop} {S S' : State} (h : ∀ t, Steps tb e below S' t → Steps tb e below S t) (g : own_G tb e below Φ S') : own_G tb e below Φ S := by
  obtain ⟨t, o, a, b⟩ := g
  exact ⟨t, o, h t a, b⟩
theorem own_tr {tb : Tables} {Φ : State → Outcome → Prop} {S S' : State} (h : Steps tb e below S S') (g : own_G tb e below Φ S') : own_G tb e below Φ S := by
  obtain ⟨t, o, a, b⟩ := g
  exact ⟨t, o, h.trans a, b⟩
theorem own_in {s₁ : State} (kc ks : Nat) (Q : Option Value → Heap → List Loc → Prop) {mL : Nat} {g : JFrame} (ef : entryFrame m args mL = g) (k : own_G p.tables e below (own_E s Q kc ks) (s₁.setTop g)) :
    ∃ s₂ o, Steps p.tables e below (s₁.setTop (entryFrame m args mL)) s₂ ∧ s₂.status = .running ∧ Ended s₂ below o ∧ ∃ v L, o = .returned v ∧ Q v s₂.heap L ∧ FrameEnd s o s₂ L kc ks := by
  rw [ef]
  exact k
theorem own_retI0 (X : Stand p l e R s m args below meth c T locs cells slots) (hx : p.tables.exec = Jvm.exec) {pc : Nat} {Ls : Array Slot} {z : Int32} {rest : List Value} (hret : meth.sig.returnType = some .int) (hd : decode c.code pc = .ok (.ireturn, 1)) {fs : List Frame}
    (hl : ∀ (f : JFrame) (acts : List Action), f.method = m → f.locked = none → f.entered = [] → (doReturn e (T.setTop f) acts (some (.int z))).1 = T.setFrames fs) : Steps p.tables e below (T.setTop (mkF m pc Ls (.int z :: rest))) (T.setFrames fs) :=
  retOut X hx hret rfl (Or.inl ⟨rfl, Or.inl rfl, z, rfl⟩) hd hl
theorem own_retI (X : Stand p l e R s m args below meth c T locs cells slots) (hx : p.tables.exec = Jvm.exec) (hlk : meth.locks = false) {pc : Nat} {Ls : Array Slot} {z : Int32} {rest : List Value} (hret : meth.sig.returnType = some .int) (hd : decode c.code pc = .ok (.ireturn, 1))
    {Q : Option Value → Heap → List Loc → Prop} {kc ks : Nat} (hc : cells ≤ kc) (hs : slots ≤ ks) (q : Q (some (.int z)) T.heap locs) : own_G p.tables e below (own_E s Q kc ks) (T.setTop (mkF m pc Ls (.int z :: rest))) := by
  obtain ⟨fs, hr, hrun, hended, hW, hsame⟩ := X.leave (v := some (.int z)) (fun h => by rw [hret] at h; cases h)
  exact ⟨_, _, own_retI0 X hx hret hd hr, hrun, hended, _, _, rfl, q, ⟨_, rfl⟩, hW, hsame.mono hc hs⟩
theorem own_retN (X : Stand p l e R s m args below meth c T locs cells slots) (hx : p.tables.exec = Jvm.exec) (hlk : meth.locks = false) {pc : Nat} {Ls : Array Slot} {z : Int32} {t : FieldType} {rest : List Value} (hret : meth.sig.returnType = some t) (ht : t = .boolean ∨ t = .byte ∨ t = .char ∨ t = .short) (hd : decode c.code pc = .ok (.ireturn, 1))
    {Q : Option Value → Heap → List Loc → Prop} {kc ks : Nat} (hc : cells ≤ kc) (hs : slots ≤ ks) {v' : Int32} (hv : nar t z = v') (q : Q (some (.int v')) T.heap locs) : own_G p.tables e below (own_E s Q kc ks) (T.setTop (mkF m pc Ls (.int z :: rest))) := by
  subst hv
  obtain ⟨fs, hr, hrun, hended, hW, hsame⟩ := X.leave (v := some (.int (nar t z))) (fun h => by rw [hret] at h; cases h)
  exact ⟨_, _, retN X hx hret ht hd hr, hrun, hended, _, _, rfl, q, ⟨_, rfl⟩, hW, hsame.mono hc hs⟩
theorem own_retA (X : Stand p l e R s m args below meth c T locs cells slots) (hx : p.tables.exec = Jvm.exec) (hlk : meth.locks = false) {pc : Nat} {Ls : Array Slot} {w : Value} {t : FieldType} {rest : List Value} (hret : meth.sig.returnType = some t) (ht : t.isReference = true) (hw : w.isRef = true) (hd : decode c.code pc = .ok (.areturn, 1))
    {Q : Option Value → Heap → List Loc → Prop} {kc ks : Nat} (hc : cells ≤ kc) (hs : slots ≤ ks) (q : Q (some w) T.heap locs) : own_G p.tables e below (own_E s Q kc ks) (T.setTop (mkF m pc Ls (w :: rest))) := by
  obtain ⟨fs, hr, hrun, hended, hW, hsame⟩ := X.leave (v := some w) (fun h => by rw [hret] at h; cases h)
  have hn : narrow t w = w := by rcases ref_cases hw with rfl | ⟨a, rfl⟩ <;> cases t <;> rfl
  exact ⟨_, _, retOut X hx hret hn (Or.inr (Or.inr (Or.inr (Or.inr ⟨rfl, ht, hw⟩)))) hd hr, hrun, hended, _, _, rfl, q, ⟨_, rfl⟩, hW, hsame.mono hc hs⟩
theorem own_retJ (X : Stand p l e R s m args below meth c T locs cells slots) (hx : p.tables.exec = Jvm.exec) (hlk : meth.locks = false) {pc : Nat} {Ls : Array Slot} {z : Int64} {rest : List Value} (hret : meth.sig.returnType = some .long) (hd : decode c.code pc = .ok (.lreturn, 1))
    {Q : Option Value → Heap → List Loc → Prop} {kc ks : Nat} (hc : cells ≤ kc) (hs : slots ≤ ks) (q : Q (some (.long z)) T.heap locs) : own_G p.tables e below (own_E s Q kc ks) (T.setTop (mkF m pc Ls (.long z :: rest))) := by
  obtain ⟨fs, hr, hrun, hended, hW, hsame⟩ := X.leave (v := some (.long z)) (fun h => by rw [hret] at h; cases h)
  exact ⟨_, _, retOut X hx hret rfl (Or.inr (Or.inl ⟨rfl, rfl, z, rfl⟩)) hd hr, hrun, hended, _, _, rfl, q, ⟨_, rfl⟩, hW, hsame.mono hc hs⟩
theorem own_retV (X : Stand p l e R s m args below meth c T locs cells slots) (hx : p.tables.exec = Jvm.exec) (hlk : meth.locks = false) {pc : Nat} {Ls : Array Slot} (hret : meth.sig.returnType = none) (hd : decode c.code pc = .ok (.return_, 1))
    {Q : Option Value → Heap → List Loc → Prop} {kc ks : Nat} (hc : cells ≤ kc) (hs : slots ≤ ks) (q : Q none T.heap locs) : own_G p.tables e below (own_E s Q kc ks) (T.setTop (mkF m pc Ls [])) := by
  obtain ⟨fs, hr, hrun, hended, hW, hsame⟩ := X.leave (v := none) (fun _ => rfl)
  exact ⟨_, _, X.returnOut hx hret hd hr, hrun, hended, _, _, rfl, q, ⟨_, rfl⟩, hW, hsame.mono hc hs⟩
end OwnKit
theorem own_cat {v : Value} (h : v.isRef = true) : v.category = 1 := by cases v <;> first | rfl | (simp [Value.isRef] at h)
theorem own_i32 {a b : Int32} (h : a.toInt = b.toInt) : a = b := Int32.toInt_inj.mp h
theorem own_i64 {a b : Int64} (h : a.toInt = b.toInt) : a = b := Int64.toInt_inj.mp h
/-- (x & 0x7fffffff) % d lies from 0 to d - 1 -/
theorem own_mod (x y : Int32) (d : Int) (hy : y.toInt = d) (hd : 0 < d) : 0 ≤ ((x &&& 2147483647) % y).toInt ∧ ((x &&& 2147483647) % y).toInt < d ∧ ((x &&& 2147483647) % y).toInt = (x.toInt % 2147483648) % d := by
  have h1 := c_mask x 2147483647 31 (by decide) (by decide)
  have h2 := (c_irem (x &&& 2147483647) y d hy).1 (by rw [h1]; omega)
  rw [h2, h1]
  refine ⟨Int.emod_nonneg _ (by omega), Int.emod_lt_of_pos _ hd, rfl⟩
theorem own_mod13 (x : Int32) : (x &&& 2147483647) % 13 = (0 : Int32) ∨ (x &&& 2147483647) % 13 = (1 : Int32) ∨ (x &&& 2147483647) % 13 = (2 : Int32) ∨ (x &&& 2147483647) % 13 = (3 : Int32) ∨ (x &&& 2147483647) % 13 = (4 : Int32) ∨ (x &&& 2147483647) % 13 = (5 : Int32) ∨ (x &&& 2147483647) % 13 = (6 : Int32) ∨ (x &&& 2147483647) % 13 = (7 : Int32) ∨ (x &&& 2147483647) % 13 = (8 : Int32) ∨ (x &&& 2147483647) % 13 = (9 : Int32) ∨ (x &&& 2147483647) % 13 = (10 : Int32) ∨ (x &&& 2147483647) % 13 = (11 : Int32) ∨ (x &&& 2147483647) % 13 = (12 : Int32) := by
  have h := own_mod x 13 13 (by decide) (by decide)
  have : ((x &&& 2147483647) % 13).toInt = 0 ∨ ((x &&& 2147483647) % 13).toInt = 1 ∨ ((x &&& 2147483647) % 13).toInt = 2 ∨ ((x &&& 2147483647) % 13).toInt = 3 ∨ ((x &&& 2147483647) % 13).toInt = 4 ∨ ((x &&& 2147483647) % 13).toInt = 5 ∨ ((x &&& 2147483647) % 13).toInt = 6 ∨ ((x &&& 2147483647) % 13).toInt = 7 ∨ ((x &&& 2147483647) % 13).toInt = 8 ∨ ((x &&& 2147483647) % 13).toInt = 9 ∨ ((x &&& 2147483647) % 13).toInt = 10 ∨ ((x &&& 2147483647) % 13).toInt = 11 ∨ ((x &&& 2147483647) % 13).toInt = 12 := by omega
  rcases this with h | h | h | h | h | h | h | h | h | h | h | h | h
  · exact Or.inl (own_i32 (h.trans (by decide)))
  · exact Or.inr (Or.inl (own_i32 (h.trans (by decide))))
  · exact Or.inr (Or.inr (Or.inl (own_i32 (h.trans (by decide)))))
  · exact Or.inr (Or.inr (Or.inr (Or.inl (own_i32 (h.trans (by decide))))))
  · exact Or.inr (Or.inr (Or.inr (Or.inr (Or.inl (own_i32 (h.trans (by decide)))))))
  · exact Or.inr (Or.inr (Or.inr (Or.inr (Or.inr (Or.inl (own_i32 (h.trans (by decide))))))))
  · exact Or.inr (Or.inr (Or.inr (Or.inr (Or.inr (Or.inr (Or.inl (own_i32 (h.trans (by decide)))))))))
  · exact Or.inr (Or.inr (Or.inr (Or.inr (Or.inr (Or.inr (Or.inr (Or.inl (own_i32 (h.trans (by decide))))))))))
  · exact Or.inr (Or.inr (Or.inr (Or.inr (Or.inr (Or.inr (Or.inr (Or.inr (Or.inl (own_i32 (h.trans (by decide)))))))))))
  · exact Or.inr (Or.inr (Or.inr (Or.inr (Or.inr (Or.inr (Or.inr (Or.inr (Or.inr (Or.inl (own_i32 (h.trans (by decide))))))))))))
  · exact Or.inr (Or.inr (Or.inr (Or.inr (Or.inr (Or.inr (Or.inr (Or.inr (Or.inr (Or.inr (Or.inl (own_i32 (h.trans (by decide)))))))))))))
  · exact Or.inr (Or.inr (Or.inr (Or.inr (Or.inr (Or.inr (Or.inr (Or.inr (Or.inr (Or.inr (Or.inr (Or.inl (own_i32 (h.trans (by decide))))))))))))))
  · exact Or.inr (Or.inr (Or.inr (Or.inr (Or.inr (Or.inr (Or.inr (Or.inr (Or.inr (Or.inr (Or.inr (Or.inr (own_i32 (h.trans (by decide))))))))))))))
theorem d1_0 : decode prog_36_method_5_code 0 = .ok (.iload_n 1, 1) := by decide +kernel
theorem d1_1 : decode prog_36_method_5_code 1 = .ok (.aload_n 0, 1) := by decide +kernel
theorem d1_2 : decode prog_36_method_5_code 2 = .ok (.getfield 70, 3) := by decide +kernel
theorem d1_5 : decode prog_36_method_5_code 5 = .ok (.if_icmp .lt 15, 3) := by decide +kernel
theorem d1_8 : decode prog_36_method_5_code 8 = .ok (.iload_n 1, 1) := by decide +kernel
theorem d1_9 : decode prog_36_method_5_code 9 = .ok (.aload_n 0, 1) := by decide +kernel
theorem d1_10 : decode prog_36_method_5_code 10 = .ok (.getfield 73, 3) := by decide +kernel
theorem d1_13 : decode prog_36_method_5_code 13 = .ok (.if_icmp .gt 7, 3) := by decide +kernel
theorem d1_16 : decode prog_36_method_5_code 16 = .ok (.iconst 1, 1) := by decide +kernel
theorem d1_17 : decode prog_36_method_5_code 17 = .ok (.goto 4, 3) := by decide +kernel
theorem d1_20 : decode prog_36_method_5_code 20 = .ok (.iconst 0, 1) := by decide +kernel
theorem d1_21 : decode prog_36_method_5_code 21 = .ok (.ireturn, 1) := by decide +kernel
theorem pn_1 : plainName "com/example/loose_grip/loosegrip/wire/ApiKey" = true := by first | (simp [plainName, overriddenIn]; done) | decide +kernel
theorem ef_sup_lt (m : MethodId) (x0 : Addr) (x1 : Int32) : entryFrame m #[(.ref x0), (.int x1)] 2 = mkF m 0 #[.val (.ref x0), .val (.int x1)] [] := by first | (simp [entryFrame, mkF, argsToLocals, Value.category]; done) | rfl
def Q_sup_lt (Z : State) (a1 : Addr) (q1 : Int32) (m1 : Int32) (h0 : Heap) (n0 : Nat) (v : Option Value) (h : Heap) (L : List Loc) : Prop := v = some (.int (0 : Int32)) ∧ Fr n0 L ∧ h = h0
set_option maxRecDepth 65536 in
set_option maxHeartbeats 40000000 in
theorem rm_sup_lt (l : Launch) (Z : State) (a0 : Array Value) (hw : ∀ d ∈ tables_1, d.before a0 Z = true) (ws : List Jvm.Cond) (a1 : Addr) (q1 : Int32) (m1 : Int32) (h0 : Heap) (n0 : Nat) (Z0 : n0 ≤ h0.size) (O0 : Old Z n0 h0) (F1 : Fld Z Z.heap a1 "com/example/loose_grip/loosegrip/wire/ApiKey" "minVersion" "S" (.int m1)) (hy0 : q1 < m1) :
    MetFree l (⟨"com/example/loose_grip/loosegrip/wire/ApiKey", "supports", "(S)Z"⟩ : MethodName) (head1 (Jvm.Cond.code (⟨"com/example/loose_grip/loosegrip/wire/ApiKey", "supports", "(S)Z"⟩ : MethodName) prog_36_method_5_code 2 (some .boolean) :: ws) ({ frames := 0, cells := 0, slots := 0, locals := 0 } : Room)) (fun a U => a = #[(.ref a1), (.int q1)] ∧ Z.Warmed39 U.vm ∧ U.heap = h0) (fun _ _ _ _ _ => True) (fun _ U o U' => ∃ v L, o = .returned v ∧ Q_sup_lt Z a1 q1 m1 h0 n0 v U'.heap L ∧ FrameEnd U o U' L ({ frames := 0, cells := 0, slots := 0, locals := 0 } : Room).cells ({ frames := 0, cells := 0, slots := 0, locals := 0 } : Room).slots) := by
  refine MetFree.of_bodySF (plainFor_of_name pn_1) hisR ?_
  intro p e s m args below meth c s₁ Bd hml0 hP hK
  obtain ⟨rfl, hZ, hh⟩ := hP
  have hx := Bd.exec
  have hby := Bd.bytes
  have hml : c.maxLocals = 2 := hml0
  have hown : s.vm.findClass "com/example/loose_grip/loosegrip/wire/ApiKey" = some m.cls := findClass_of_methodNamed Bd.named
  have hnm := (name_of_methodNamed Bd.named Bd.method).1
  have hlk := Bd.notSynchronized
  have hret := Bd.returns
  have X0 : Stand p l e ({ frames := 0, cells := 0, slots := 0, locals := 0 } : Room) s m #[(.ref a1), (.int q1)] below meth c s₁ [] 0 0 := Stand.of_body Bd
  have e0 : s₁.heap = h0 := by rw [← hh, Bd.state]; rfl
  have N0 := Fr.nil n0
  refine own_in ({ frames := 0, cells := 0, slots := 0, locals := 0 } : Room).cells ({ frames := 0, cells := 0, slots := 0, locals := 0 } : Room).slots (Q_sup_lt Z a1 q1 m1 h0 n0) (ef_sup_lt m a1 q1) ?_
  show own_G p.tables e below _ (s₁.setTop (mkF m 0 #[.val (.ref a1), .val (.int q1)] []))
  refine own_st (fun _ kS => XS.iloadN X0.here hx rfl (hb hby d1_0) rfl kS) ?_
  show own_G p.tables e below _ (s₁.setTop (mkF m 1 #[.val (.ref a1), .val (.int q1)] [(.int q1)]))
  refine own_st (fun _ kS => XS.aloadN X0.here hx rfl (hb hby d1_1) rfl rfl kS) ?_
  show own_G p.tables e below _ (s₁.setTop (mkF m 2 #[.val (.ref a1), .val (.int q1)] [(.ref a1), (.int q1)]))
  obtain ⟨T1, X1, e1, st1⟩ := getF X0 hx hZ hown (host := "") (Or.inl (hw _ (List.mem_of_getElem? (i := 37) rfl))) Via.refl e0 (Fld.ext O0.2 F1) (g := (mkF m 2 #[.val (.ref a1), .val (.int q1)] [(.ref a1), (.int q1)])) rfl rfl (hb hby d1_2)
  refine own_st st1 ?_
  show own_G p.tables e below _ (T1.setTop (mkF m 5 #[.val (.ref a1), .val (.int q1)] [(.int m1), (.int q1)]))
  refine own_st (fun _ kS => XS.icmpYes X1.here hx rfl (pc0 := 5) (pc' := 20) rfl (hb hby d1_5) rfl (tlt (hy0 : q1 < m1)).1 (by decide) (by decide) kS) ?_
  show own_G p.tables e below _ (T1.setTop (mkF m 20 #[.val (.ref a1), .val (.int q1)] []))
  refine own_st (fun _ kS => XS.iconst X1.here hx rfl (hb hby d1_20) kS) ?_
  show own_G p.tables e below _ (T1.setTop (mkF m 21 #[.val (.ref a1), .val (.int q1)] [(.int (0 : Int32))]))
  exact own_retN X1 hx hlk (t := .boolean) hret (by simp) (hb hby d1_21) (by decide) (by decide) (v' := (0 : Int32)) rfl (by rw [e1]; exact ⟨rfl, N0, rfl⟩)
theorem ef_sup_gt (m : MethodId) (x0 : Addr) (x1 : Int32) : entryFrame m #[(.ref x0), (.int x1)] 2 = mkF m 0 #[.val (.ref x0), .val (.int x1)] [] := by first | (simp [entryFrame, mkF, argsToLocals, Value.category]; done) | rfl
def Q_sup_gt (Z : State) (a1 : Addr) (q1 : Int32) (m1 : Int32) (m2 : Int32) (h0 : Heap) (n0 : Nat) (v : Option Value) (h : Heap) (L : List Loc) : Prop := v = some (.int (0 : Int32)) ∧ Fr n0 L ∧ h = h0
set_option maxRecDepth 65536 in
set_option maxHeartbeats 40000000 in
theorem rm_sup_gt (l : Launch) (Z : State) (a0 : Array Value) (hw : ∀ d ∈ tables_1, d.before a0 Z = true) (ws : List Jvm.Cond) (a1 : Addr) (q1 : Int32) (m1 : Int32) (m2 : Int32) (h0 : Heap) (n0 : Nat) (Z0 : n0 ≤ h0.size) (O0 : Old Z n0 h0) (F1 : Fld Z Z.heap a1 "com/example/loose_grip/loosegrip/wire/ApiKey" "minVersion" "S" (.int m1)) (F2 : Fld Z Z.heap a1 "com/example/loose_grip/loosegrip/wire/ApiKey" "maxVersion" "S" (.int m2)) (hy0 : ¬ (q1 < m1)) (hy1 : m2 < q1) :
    MetFree l (⟨"com/example/loose_grip/loosegrip/wire/ApiKey", "supports", "(S)Z"⟩ : MethodName) (head1 (Jvm.Cond.code (⟨"com/example/loose_grip/loosegrip/wire/ApiKey", "supports", "(S)Z"⟩ : MethodName) prog_36_method_5_code 2 (some .boolean) :: ws) ({ frames := 0, cells := 0, slots := 0, locals := 0 } : Room)) (fun a U => a = #[(.ref a1), (.int q1)] ∧ Z.Warmed39 U.vm ∧ U.heap = h0) (fun _ _ _ _ _ => True) (fun _ U o U' => ∃ v L, o = .returned v ∧ Q_sup_gt Z a1 q1 m1 m2 h0 n0 v U'.heap L ∧ FrameEnd U o U' L ({ frames := 0, cells := 0, slots := 0, locals := 0 } : Room).cells ({ frames := 0, cells := 0, slots := 0, locals := 0 } : Room).slots) := by
  refine MetFree.of_bodySF (plainFor_of_name pn_1) hisR ?_
  intro p e s m args below meth c s₁ Bd hml0 hP hK
  obtain ⟨rfl, hZ, hh⟩ := hP
  have hx := Bd.exec
  have hby := Bd.bytes
  have hml : c.maxLocals = 2 := hml0
  have hown : s.vm.findClass "com/example/loose_grip/loosegrip/wire/ApiKey" = some m.cls := findClass_of_methodNamed Bd.named
  have hnm := (name_of_methodNamed Bd.named Bd.method).1
  have hlk := Bd.notSynchronized
  have hret := Bd.returns
  have X0 : Stand p l e ({ frames := 0, cells := 0, slots := 0, locals := 0 } : Room) s m #[(.ref a1), (.int q1)] below meth c s₁ [] 0 0 := Stand.of_body Bd
  have e0 : s₁.heap = h0 := by rw [← hh, Bd.state]; rfl
  have N0 := Fr.nil n0
  refine own_in ({ frames := 0, cells := 0, slots := 0, locals := 0 } : Room).cells ({ frames := 0, cells := 0, slots := 0, locals := 0 } : Room).slots (Q_sup_gt Z a1 q1 m1 m2 h0 n0) (ef_sup_gt m a1 q1) ?_
  show own_G p.tables e below _ (s₁.setTop (mkF m 0 #[.val (.ref a1), .val (.int q1)] []))
  refine own_st (fun _ kS => XS.iloadN X0.here hx rfl (hb hby d1_0) rfl kS) ?_
  show own_G p.tables e below _ (s₁.setTop (mkF m 1 #[.val (.ref a1), .val (.int q1)] [(.int q1)]))
  refine own_st (fun _ kS => XS.aloadN X0.here hx rfl (hb hby d1_1) rfl rfl kS) ?_
  show own_G p.tables e below _ (s₁.setTop (mkF m 2 #[.val (.ref a1), .val (.int q1)] [(.ref a1), (.int q1)]))
  obtain ⟨T1, X1, e1, st1⟩ := getF X0 hx hZ hown (host := "") (Or.inl (hw _ (List.mem_of_getElem? (i := 37) rfl))) Via.refl e0 (Fld.ext O0.2 F1) (g := (mkF m 2 #[.val (.ref a1), .val (.int q1)] [(.ref a1), (.int q1)])) rfl rfl (hb hby d1_2)
  refine own_st st1 ?_
  show own_G p.tables e below _ (T1.setTop (mkF m 5 #[.val (.ref a1), .val (.int q1)] [(.int m1), (.int q1)]))
  refine own_st (fun _ kS => XS.icmpNo X1.here hx rfl (hb hby d1_5) rfl (flt (hy0 : ¬ (q1 < m1))).1 kS) ?_
  show own_G p.tables e below _ (T1.setTop (mkF m 8 #[.val (.ref a1), .val (.int q1)] []))
  refine own_st (fun _ kS => XS.iloadN X1.here hx rfl (hb hby d1_8) rfl kS) ?_
  show own_G p.tables e below _ (T1.setTop (mkF m 9 #[.val (.ref a1), .val (.int q1)] [(.int q1)]))
  refine own_st (fun _ kS => XS.aloadN X1.here hx rfl (hb hby d1_9) rfl rfl kS) ?_
  show own_G p.tables e below _ (T1.setTop (mkF m 10 #[.val (.ref a1), .val (.int q1)] [(.ref a1), (.int q1)]))
  obtain ⟨T2, X2, e2, st2⟩ := getF X1 hx hZ hown (host := "") (Or.inl (hw _ (List.mem_of_getElem? (i := 39) rfl))) Via.refl e1 (Fld.ext O0.2 F2) (g := (mkF m 10 #[.val (.ref a1), .val (.int q1)] [(.ref a1), (.int q1)])) rfl rfl (hb hby d1_10)
  refine own_st st2 ?_
  show own_G p.tables e below _ (T2.setTop (mkF m 13 #[.val (.ref a1), .val (.int q1)] [(.int m2), (.int q1)]))
  refine own_st (fun _ kS => XS.icmpYes X2.here hx rfl (pc0 := 13) (pc' := 20) rfl (hb hby d1_13) rfl (tlt (hy1 : m2 < q1)).2.2.1 (by decide) (by decide) kS) ?_
  show own_G p.tables e below _ (T2.setTop (mkF m 20 #[.val (.ref a1), .val (.int q1)] []))
  refine own_st (fun _ kS => XS.iconst X2.here hx rfl (hb hby d1_20) kS) ?_
  show own_G p.tables e below _ (T2.setTop (mkF m 21 #[.val (.ref a1), .val (.int q1)] [(.int (0 : Int32))]))
  exact own_retN X2 hx hlk (t := .boolean) hret (by simp) (hb hby d1_21) (by decide) (by decide) (v' := (0 : Int32)) rfl (by rw [e2]; exact ⟨rfl, N0, rfl⟩)
theorem ef_sup_in (m : MethodId) (x0 : Addr) (x1 : Int32) : entryFrame m #[(.ref x0), (.int x1)] 2 = mkF m 0 #[.val (.ref x0), .val (.int x1)] [] := by first | (simp [entryFrame, mkF, argsToLocals, Value.category]; done) | rfl
def Q_sup_in (Z : State) (a1 : Addr) (q1 : Int32) (m1 : Int32) (m2 : Int32) (h0 : Heap) (n0 : Nat) (v : Option Value) (h : Heap) (L : List Loc) : Prop := v = some (.int (1 : Int32)) ∧ Fr n0 L ∧ h = h0
set_option maxRecDepth 65536 in
set_option maxHeartbeats 40000000 in
theorem rm_sup_in (l : Launch) (Z : State) (a0 : Array Value) (hw : ∀ d ∈ tables_1, d.before a0 Z = true) (ws : List Jvm.Cond) (a1 : Addr) (q1 : Int32) (m1 : Int32) (m2 : Int32) (h0 : Heap) (n0 : Nat) (Z0 : n0 ≤ h0.size) (O0 : Old Z n0 h0) (F1 : Fld Z Z.heap a1 "com/example/loose_grip/loosegrip/wire/ApiKey" "minVersion" "S" (.int m1)) (F2 : Fld Z Z.heap a1 "com/example/loose_grip/loosegrip/wire/ApiKey" "maxVersion" "S" (.int m2)) (hy0 : ¬ (q1 < m1)) (hy1 : ¬ (m2 < q1)) :
    MetFree l (⟨"com/example/loose_grip/loosegrip/wire/ApiKey", "supports", "(S)Z"⟩ : MethodName) (head1 (Jvm.Cond.code (⟨"com/example/loose_grip/loosegrip/wire/ApiKey", "supports", "(S)Z"⟩ : MethodName) prog_36_method_5_code 2 (some .boolean) :: ws) ({ frames := 0, cells := 0, slots := 0, locals := 0 } : Room)) (fun a U => a = #[(.ref a1), (.int q1)] ∧ Z.Warmed39 U.vm ∧ U.heap = h0) (fun _ _ _ _ _ => True) (fun _ U o U' => ∃ v L, o = .returned v ∧ Q_sup_in Z a1 q1 m1 m2 h0 n0 v U'.heap L ∧ FrameEnd U o U' L ({ frames := 0, cells := 0, slots := 0, locals := 0 } : Room).cells ({ frames := 0, cells := 0, slots := 0, locals := 0 } : Room).slots) := by
  refine MetFree.of_bodySF (plainFor_of_name pn_1) hisR ?_
  intro p e s m args below meth c s₁ Bd hml0 hP hK
  obtain ⟨rfl, hZ, hh⟩ := hP
  have hx := Bd.exec
  have hby := Bd.bytes
  have hml : c.maxLocals = 2 := hml0
  have hown : s.vm.findClass "com/example/loose_grip/loosegrip/wire/ApiKey" = some m.cls := findClass_of_methodNamed Bd.named
  have hnm := (name_of_methodNamed Bd.named Bd.method).1
  have hlk := Bd.notSynchronized
  have hret := Bd.returns
  have X0 : Stand p l e ({ frames := 0, cells := 0, slots := 0, locals := 0 } : Room) s m #[(.ref a1), (.int q1)] below meth c s₁ [] 0 0 := Stand.of_body Bd
  have e0 : s₁.heap = h0 := by rw [← hh, Bd.state]; rfl
  have N0 := Fr.nil n0
  refine own_in ({ frames := 0, cells := 0, slots := 0, locals := 0 } : Room).cells ({ frames := 0, cells := 0, slots := 0, locals := 0 } : Room).slots (Q_sup_in Z a1 q1 m1 m2 h0 n0) (ef_sup_in m a1 q1) ?_
  show own_G p.tables e below _ (s₁.setTop (mkF m 0 #[.val (.ref a1), .val (.int q1)] []))
  refine own_st (fun _ kS => XS.iloadN X0.here hx rfl (hb hby d1_0) rfl kS) ?_
  show own_G p.tables e below _ (s₁.setTop (mkF m 1 #[.val (.ref a1), .val (.int q1)] [(.int q1)]))
  refine own_st (fun _ kS => XS.aloadN X0.here hx rfl (hb hby d1_1) rfl rfl kS) ?_
  show own_G p.tables e below _ (s₁.setTop (mkF m 2 #[.val (.ref a1), .val (.int q1)] [(.ref a1), (.int q1)]))
  obtain ⟨T1, X1, e1, st1⟩ := getF X0 hx hZ hown (host := "") (Or.inl (hw _ (List.mem_of_getElem? (i := 37) rfl))) Via.refl e0 (Fld.ext O0.2 F1) (g := (mkF m 2 #[.val (.ref a1), .val (.int q1)] [(.ref a1), (.int q1)])) rfl rfl (hb hby d1_2)
  refine own_st st1 ?_
  show own_G p.tables e below _ (T1.setTop (mkF m 5 #[.val (.ref a1), .val (.int q1)] [(.int m1), (.int q1)]))
  refine own_st (fun _ kS => XS.icmpNo X1.here hx rfl (hb hby d1_5) rfl (flt (hy0 : ¬ (q1 < m1))).1 kS) ?_
  show own_G p.tables e below _ (T1.setTop (mkF m 8 #[.val (.ref a1), .val (.int q1)] []))
  refine own_st (fun _ kS => XS.iloadN X1.here hx rfl (hb hby d1_8) rfl kS) ?_
  show own_G p.tables e below _ (T1.setTop (mkF m 9 #[.val (.ref a1), .val (.int q1)] [(.int q1)]))
  refine own_st (fun _ kS => XS.aloadN X1.here hx rfl (hb hby d1_9) rfl rfl kS) ?_
  show own_G p.tables e below _ (T1.setTop (mkF m 10 #[.val (.ref a1), .val (.int q1)] [(.ref a1), (.int q1)]))
  obtain ⟨T2, X2, e2, st2⟩ := getF X1 hx hZ hown (host := "") (Or.inl (hw _ (List.mem_of_getElem? (i := 39) rfl))) Via.refl e1 (Fld.ext O0.2 F2) (g := (mkF m 10 #[.val (.ref a1), .val (.int q1)] [(.ref a1), (.int q1)])) rfl rfl (hb hby d1_10)
  refine own_st st2 ?_
  show own_G p.tables e below _ (T2.setTop (mkF m 13 #[.val (.ref a1), .val (.int q1)] [(.int m2), (.int q1)]))
  refine own_st (fun _ kS => XS.icmpNo X2.here hx rfl (hb hby d1_13) rfl (flt (hy1 : ¬ (m2 < q1))).2.2.1 kS) ?_
  show own_G p.tables e below _ (T2.setTop (mkF m 16 #[.val (.ref a1), .val (.int q1)] []))
  refine own_st (fun _ kS => XS.iconst X2.here hx rfl (hb hby d1_16) kS) ?_
  show own_G p.tables e below _ (T2.setTop (mkF m 17 #[.val (.ref a1), .val (.int q1)] [(.int (1 : Int32))]))
  refine own_st (fun _ kS => XS.goto X2.here hx rfl (pc0 := 17) (pc' := 21) rfl (hb hby d1_17) (by decide) (by decide) kS) ?_
  show own_G p.tables e below _ (T2.setTop (mkF m 21 #[.val (.ref a1), .val (.int q1)] [(.int (1 : Int32))]))
  exact own_retN X2 hx hlk (t := .boolean) hret (by simp) (hb hby d1_21) (by decide) (by decide) (v' := (1 : Int32)) rfl (by rw [e2]; exact ⟨rfl, N0, rfl⟩)
theorem pn_0 : plainName "com/example/loose_grip/loosegrip/wire/ApiKeySupportsPinLaw" = true := by first | (simp [plainName, overriddenIn]; done) | decide +kernel
def Q_law (n0 : Nat) (v : Option Value) (h : Heap) (L : List Loc) : Prop := v = some (.int (1 : Int32)) ∧ Fr n0 L
theorem own_pd0 : parseMethodDescriptor "(S)Z" = some ⟨[.short], some .boolean⟩ := by decide +kernel
set_option maxRecDepth 65536 in
set_option maxHeartbeats 40000000 in
theorem sg_C {p : Program} {l : Launch} {e : Env} {s : State} {m : MethodId} {args : Array Value} {below : List Frame} {meth : Method} {c : Code} {T0 : State} {locs : List Loc} {Z : State} {a0 : Array Value} {h0 : Heap} {n0 : Nat} (hx : p.tables.exec = Jvm.exec) (hby : c.code = code) (hml : c.maxLocals = 9) (hown : s.vm.findClass "com/example/loose_grip/loosegrip/wire/ApiKeySupportsPinLaw" = some m.cls) (hlk : meth.locks = false) (hret : meth.sig.returnType = some .boolean) (hZ : Z.Warmed39 s.vm) (hw : ∀ d ∈ tables_1, d.before a0 Z = true) (Z0 : n0 ≤ h0.size)
    (X0 : Stand p l e room_1 s m args below meth c T0 locs 3 39) (e0 : T0.heap = h0) (N0 : Fr n0 locs) (O0 : Old Z n0 h0) (p1 : Int32) (p2 : Int32) (w_FETCH : Addr) (w_LIST_OFFSETS : Addr) (w_METADATA : Addr) (w_OFFSET_COMMIT : Addr) (w_OFFSET_FETCH : Addr) (w_FIND_COORDINATOR : Addr) (w_JOIN_GROUP : Addr) (w_HEARTBEAT : Addr) (w_LEAVE_GROUP : Addr) (w_SYNC_GROUP : Addr) (w_DESCRIBE_GROUPS : Addr) (w_LIST_GROUPS : Addr) (w_API_VERSIONS : Addr) (bK : Addr) (kK : ClassId) (bL : Addr) (kL : ClassId) (bH : Addr) (kH : ClassId) (S_FETCH : Sta Z Z.heap "com/example/loose_grip/loosegrip/wire/ApiKey" "FETCH" "Lcom/example/loose_grip/loosegrip/wire/ApiKey;" (.ref w_FETCH)) (S_LIST_OFFSETS : Sta Z Z.heap "com/example/loose_grip/loosegrip/wire/ApiKey" "LIST_OFFSETS" "Lcom/example/loose_grip/loosegrip/wire/ApiKey;" (.ref w_LIST_OFFSETS)) (S_METADATA : Sta Z Z.heap "com/example/loose_grip/loosegrip/wire/ApiKey" "METADATA" "Lcom/example/loose_grip/loosegrip/wire/ApiKey;" (.ref w_METADATA)) (S_OFFSET_COMMIT : Sta Z Z.heap "com/example/loose_grip/loosegrip/wire/ApiKey" "OFFSET_COMMIT" "Lcom/example/loose_grip/loosegrip/wire/ApiKey;" (.ref w_OFFSET_COMMIT)) (S_OFFSET_FETCH : Sta Z Z.heap "com/example/loose_grip/loosegrip/wire/ApiKey" "OFFSET_FETCH" "Lcom/example/loose_grip/loosegrip/wire/ApiKey;" (.ref w_OFFSET_FETCH)) (S_FIND_COORDINATOR : Sta Z Z.heap "com/example/loose_grip/loosegrip/wire/ApiKey" "FIND_COORDINATOR" "Lcom/example/loose_grip/loosegrip/wire/ApiKey;" (.ref w_FIND_COORDINATOR)) (S_JOIN_GROUP : Sta Z Z.heap "com/example/loose_grip/loosegrip/wire/ApiKey" "JOIN_GROUP" "Lcom/example/loose_grip/loosegrip/wire/ApiKey;" (.ref w_JOIN_GROUP)) (S_HEARTBEAT : Sta Z Z.heap "com/example/loose_grip/loosegrip/wire/ApiKey" "HEARTBEAT" "Lcom/example/loose_grip/loosegrip/wire/ApiKey;" (.ref w_HEARTBEAT)) (S_LEAVE_GROUP : Sta Z Z.heap "com/example/loose_grip/loosegrip/wire/ApiKey" "LEAVE_GROUP" "Lcom/example/loose_grip/loosegrip/wire/ApiKey;" (.ref w_LEAVE_GROUP)) (S_SYNC_GROUP : Sta Z Z.heap "com/example/loose_grip/loosegrip/wire/ApiKey" "SYNC_GROUP" "Lcom/example/loose_grip/loosegrip/wire/ApiKey;" (.ref w_SYNC_GROUP)) (S_DESCRIBE_GROUPS : Sta Z Z.heap "com/example/loose_grip/loosegrip/wire/ApiKey" "DESCRIBE_GROUPS" "Lcom/example/loose_grip/loosegrip/wire/ApiKey;" (.ref w_DESCRIBE_GROUPS)) (S_LIST_GROUPS : Sta Z Z.heap "com/example/loose_grip/loosegrip/wire/ApiKey" "LIST_GROUPS" "Lcom/example/loose_grip/loosegrip/wire/ApiKey;" (.ref w_LIST_GROUPS)) (S_API_VERSIONS : Sta Z Z.heap "com/example/loose_grip/loosegrip/wire/ApiKey" "API_VERSIONS" "Lcom/example/loose_grip/loosegrip/wire/ApiKey;" (.ref w_API_VERSIONS)) (E_FETCH : Exa Z Z.heap w_FETCH "com/example/loose_grip/loosegrip/wire/ApiKey") (E_LIST_OFFSETS : Exa Z Z.heap w_LIST_OFFSETS "com/example/loose_grip/loosegrip/wire/ApiKey") (E_METADATA : Exa Z Z.heap w_METADATA "com/example/loose_grip/loosegrip/wire/ApiKey") (E_OFFSET_COMMIT : Exa Z Z.heap w_OFFSET_COMMIT "com/example/loose_grip/loosegrip/wire/ApiKey") (E_OFFSET_FETCH : Exa Z Z.heap w_OFFSET_FETCH "com/example/loose_grip/loosegrip/wire/ApiKey") (E_FIND_COORDINATOR : Exa Z Z.heap w_FIND_COORDINATOR "com/example/loose_grip/loosegrip/wire/ApiKey") (E_JOIN_GROUP : Exa Z Z.heap w_JOIN_GROUP "com/example/loose_grip/loosegrip/wire/ApiKey") (E_HEARTBEAT : Exa Z Z.heap w_HEARTBEAT "com/example/loose_grip/loosegrip/wire/ApiKey") (E_LEAVE_GROUP : Exa Z Z.heap w_LEAVE_GROUP "com/example/loose_grip/loosegrip/wire/ApiKey") (E_SYNC_GROUP : Exa Z Z.heap w_SYNC_GROUP "com/example/loose_grip/loosegrip/wire/ApiKey") (E_DESCRIBE_GROUPS : Exa Z Z.heap w_DESCRIBE_GROUPS "com/example/loose_grip/loosegrip/wire/ApiKey") (E_LIST_GROUPS : Exa Z Z.heap w_LIST_GROUPS "com/example/loose_grip/loosegrip/wire/ApiKey") (E_API_VERSIONS : Exa Z Z.heap w_API_VERSIONS "com/example/loose_grip/loosegrip/wire/ApiKey") (F_FETCH_minVersion : Fld Z Z.heap w_FETCH "com/example/loose_grip/loosegrip/wire/ApiKey" "minVersion" "S" (.int (0 : Int32))) (F_FETCH_maxVersion : Fld Z Z.heap w_FETCH "com/example/loose_grip/loosegrip/wire/ApiKey" "maxVersion" "S" (.int (11 : Int32))) (F_LIST_OFFSETS_minVersion : Fld Z Z.heap w_LIST_OFFSETS "com/example/loose_grip/loosegrip/wire/ApiKey" "minVersion" "S" (.int (0 : Int32))) (F_LIST_OFFSETS_maxVersion : Fld Z Z.heap w_LIST_OFFSETS "com/example/loose_grip/loosegrip/wire/ApiKey" "maxVersion" "S" (.int (5 : Int32))) (F_METADATA_minVersion : Fld Z Z.heap w_METADATA "com/example/loose_grip/loosegrip/wire/ApiKey" "minVersion" "S" (.int (0 : Int32))) (F_METADATA_maxVersion : Fld Z Z.heap w_METADATA "com/example/loose_grip/loosegrip/wire/ApiKey" "maxVersion" "S" (.int (4 : Int32))) (F_OFFSET_COMMIT_minVersion : Fld Z Z.heap w_OFFSET_COMMIT "com/example/loose_grip/loosegrip/wire/ApiKey" "minVersion" "S" (.int (2 : Int32))) (F_OFFSET_COMMIT_maxVersion : Fld Z Z.heap w_OFFSET_COMMIT "com/example/loose_grip/loosegrip/wire/ApiKey" "maxVersion" "S" (.int (7 : Int32))) (F_OFFSET_FETCH_minVersion : Fld Z Z.heap w_OFFSET_FETCH "com/example/loose_grip/loosegrip/wire/ApiKey" "minVersion" "S" (.int (1 : Int32))) (F_OFFSET_FETCH_maxVersion : Fld Z Z.heap w_OFFSET_FETCH "com/example/loose_grip/loosegrip/wire/ApiKey" "maxVersion" "S" (.int (5 : Int32))) (F_FIND_COORDINATOR_minVersion : Fld Z Z.heap w_FIND_COORDINATOR "com/example/loose_grip/loosegrip/wire/ApiKey" "minVersion" "S" (.int (0 : Int32))) (F_FIND_COORDINATOR_maxVersion : Fld Z Z.heap w_FIND_COORDINATOR "com/example/loose_grip/loosegrip/wire/ApiKey" "maxVersion" "S" (.int (2 : Int32))) (F_JOIN_GROUP_minVersion : Fld Z Z.heap w_JOIN_GROUP "com/example/loose_grip/loosegrip/wire/ApiKey" "minVersion" "S" (.int (0 : Int32))) (F_JOIN_GROUP_maxVersion : Fld Z Z.heap w_JOIN_GROUP "com/example/loose_grip/loosegrip/wire/ApiKey" "maxVersion" "S" (.int (5 : Int32))) (F_HEARTBEAT_minVersion : Fld Z Z.heap w_HEARTBEAT "com/example/loose_grip/loosegrip/wire/ApiKey" "minVersion" "S" (.int (0 : Int32))) (F_HEARTBEAT_maxVersion : Fld Z Z.heap w_HEARTBEAT "com/example/loose_grip/loosegrip/wire/ApiKey" "maxVersion" "S" (.int (3 : Int32))) (F_LEAVE_GROUP_minVersion : Fld Z Z.heap w_LEAVE_GROUP "com/example/loose_grip/loosegrip/wire/ApiKey" "minVersion" "S" (.int (0 : Int32))) (F_LEAVE_GROUP_maxVersion : Fld Z Z.heap w_LEAVE_GROUP "com/example/loose_grip/loosegrip/wire/ApiKey" "maxVersion" "S" (.int (3 : Int32))) (F_SYNC_GROUP_minVersion : Fld Z Z.heap w_SYNC_GROUP "com/example/loose_grip/loosegrip/wire/ApiKey" "minVersion" "S" (.int (0 : Int32))) (F_SYNC_GROUP_maxVersion : Fld Z Z.heap w_SYNC_GROUP "com/example/loose_grip/loosegrip/wire/ApiKey" "maxVersion" "S" (.int (3 : Int32))) (F_DESCRIBE_GROUPS_minVersion : Fld Z Z.heap w_DESCRIBE_GROUPS "com/example/loose_grip/loosegrip/wire/ApiKey" "minVersion" "S" (.int (0 : Int32))) (F_DESCRIBE_GROUPS_maxVersion : Fld Z Z.heap w_DESCRIBE_GROUPS "com/example/loose_grip/loosegrip/wire/ApiKey" "maxVersion" "S" (.int (4 : Int32))) (F_LIST_GROUPS_minVersion : Fld Z Z.heap w_LIST_GROUPS "com/example/loose_grip/loosegrip/wire/ApiKey" "minVersion" "S" (.int (0 : Int32))) (F_LIST_GROUPS_maxVersion : Fld Z Z.heap w_LIST_GROUPS "com/example/loose_grip/loosegrip/wire/ApiKey" "maxVersion" "S" (.int (2 : Int32))) (F_API_VERSIONS_minVersion : Fld Z Z.heap w_API_VERSIONS "com/example/loose_grip/loosegrip/wire/ApiKey" "minVersion" "S" (.int (0 : Int32))) (F_API_VERSIONS_maxVersion : Fld Z Z.heap w_API_VERSIONS "com/example/loose_grip/loosegrip/wire/ApiKey" "maxVersion" "S" (.int (2 : Int32))) (R_K : Arv Z h0 bK kK (.object "com/example/loose_grip/loosegrip/wire/ApiKey") (13 : Int32) [(.ref w_FETCH), (.ref w_LIST_OFFSETS), (.ref w_METADATA), (.ref w_OFFSET_COMMIT), (.ref w_OFFSET_FETCH), (.ref w_FIND_COORDINATOR), (.ref w_JOIN_GROUP), (.ref w_HEARTBEAT), (.ref w_LEAVE_GROUP), (.ref w_SYNC_GROUP), (.ref w_DESCRIBE_GROUPS), (.ref w_LIST_GROUPS), (.ref w_API_VERSIONS)] .null) (R_L : Arv Z h0 bL kL .int (13 : Int32) [(.int (0 : Int32)), (.int (0 : Int32)), (.int (0 : Int32)), (.int (2 : Int32)), (.int (1 : Int32)), (.int (0 : Int32)), (.int (0 : Int32)), (.int (0 : Int32)), (.int (0 : Int32)), (.int (0 : Int32)), (.int (0 : Int32)), (.int (0 : Int32)), (.int (0 : Int32))] (.int (0 : Int32))) (R_H : Arv Z h0 bH kH .int (13 : Int32) [(.int (11 : Int32)), (.int (5 : Int32)), (.int (4 : Int32)), (.int (7 : Int32)), (.int (5 : Int32)), (.int (2 : Int32)), (.int (5 : Int32)), (.int (3 : Int32)), (.int (3 : Int32)), (.int (3 : Int32)), (.int (4 : Int32)), (.int (2 : Int32)), (.int (2 : Int32))] (.int (0 : Int32))) :
    own_G p.tables e below (own_E s (Q_law n0) room_1.cells room_1.slots) (T0.setTop (mkF m 222 #[.val (.int p1), .val (.int p2), .val (.ref bK), .val (.ref bL), .val (.ref bH), .unset, .unset, .unset, .unset] [])) := by
  show own_G p.tables e below _ (T0.setTop (mkF m 222 #[.val (.int p1), .val (.int p2), .val (.ref bK), .val (.ref bL), .val (.ref bH), .unset, .unset, .unset, .unset] []))
  refine own_st (fun _ kS => XS.iloadN X0.here hx rfl (hb hby at_222) rfl kS) ?_
  show own_G p.tables e below _ (T0.setTop (mkF m 223 #[.val (.int p1), .val (.int p2), .val (.ref bK), .val (.ref bL), .val (.ref bH), .unset, .unset, .unset, .unset] [(.int p1)]))
  refine own_st (fun _ kS => X0.ldcInt hx hown (mvT hZ (hw _ (List.mem_of_getElem? (i := 31) rfl))) (g := (mkF m 223 #[.val (.int p1), .val (.int p2), .val (.ref bK), .val (.ref bL), .val (.ref bH), .unset, .unset, .unset, .unset] [(.int p1)])) rfl (hb hby at_223) _ kS) ?_
  show own_G p.tables e below _ (T0.setTop (mkF m 225 #[.val (.int p1), .val (.int p2), .val (.ref bK), .val (.ref bL), .val (.ref bH), .unset, .unset, .unset, .unset] [(.int (2147483647 : Int32)), (.int p1)]))
  refine own_st (fun _ kS => XS.iand X0.here hx rfl (hb hby at_225) rfl kS) ?_
  show own_G p.tables e below _ (T0.setTop (mkF m 226 #[.val (.int p1), .val (.int p2), .val (.ref bK), .val (.ref bL), .val (.ref bH), .unset, .unset, .unset, .unset] [(.int (p1 &&& (2147483647 : Int32)))]))
  refine own_st (fun _ kS => XS.bipush X0.here hx rfl (hb hby at_226) kS) ?_
  show own_G p.tables e below _ (T0.setTop (mkF m 228 #[.val (.int p1), .val (.int p2), .val (.ref bK), .val (.ref bL), .val (.ref bH), .unset, .unset, .unset, .unset] [(.int (13 : Int32)), (.int (p1 &&& (2147483647 : Int32)))]))
  refine own_st (fun _ kS => iremM (g := (mkF m 228 #[.val (.int p1), .val (.int p2), .val (.ref bK), .val (.ref bL), .val (.ref bH), .unset, .unset, .unset, .unset] [(.int (13 : Int32)), (.int (p1 &&& (2147483647 : Int32)))])) X0 hx rfl (hb hby at_228) rfl (by decide) kS) ?_
  show own_G p.tables e below _ (T0.setTop (mkF m 229 #[.val (.int p1), .val (.int p2), .val (.ref bK), .val (.ref bL), .val (.ref bH), .unset, .unset, .unset, .unset] [(.int ((p1 &&& (2147483647 : Int32)) % (13 : Int32)))]))
  rcases own_mod13 p1 with hk1 | hk1 | hk1 | hk1 | hk1 | hk1 | hk1 | hk1 | hk1 | hk1 | hk1 | hk1 | hk1
  · rw [hk1]
    show own_G p.tables e below _ (T0.setTop (mkF m 229 #[.val (.int p1), .val (.int p2), .val (.ref bK), .val (.ref bL), .val (.ref bH), .unset, .unset, .unset, .unset] [(.int (0 : Int32))]))
    refine own_st (fun _ kS => XS.istore X0.here hx rfl (hb hby at_229) rfl (l' := #[.val (.int p1), .val (.int p2), .val (.ref bK), .val (.ref bL), .val (.ref bH), .val (.int (0 : Int32)), .unset, .unset, .unset]) rfl kS) ?_
    show own_G p.tables e below _ (T0.setTop (mkF m 231 #[.val (.int p1), .val (.int p2), .val (.ref bK), .val (.ref bL), .val (.ref bH), .val (.int (0 : Int32)), .unset, .unset, .unset] []))
    refine own_st (fun _ kS => XS.iloadN X0.here hx rfl (hb hby at_231) rfl kS) ?_
    show own_G p.tables e below _ (T0.setTop (mkF m 232 #[.val (.int p1), .val (.int p2), .val (.ref bK), .val (.ref bL), .val (.ref bH), .val (.int (0 : Int32)), .unset, .unset, .unset] [(.int p2)]))
    refine own_st (fun _ kS => XT.i2s X0.here hx rfl (hb hby at_232) rfl kS) ?_
    show own_G p.tables e below _ (T0.setTop (mkF m 233 #[.val (.int p1), .val (.int p2), .val (.ref bK), .val (.ref bL), .val (.ref bH), .val (.int (0 : Int32)), .unset, .unset, .unset] [(.int (p2.toInt16.toInt32))]))
    refine own_st (fun _ kS => XS.istore X0.here hx rfl (hb hby at_233) rfl (l' := #[.val (.int p1), .val (.int p2), .val (.ref bK), .val (.ref bL), .val (.ref bH), .val (.int (0 : Int32)), .val (.int (p2.toInt16.toInt32)), .unset, .unset]) rfl kS) ?_
    show own_G p.tables e below _ (T0.setTop (mkF m 235 #[.val (.int p1), .val (.int p2), .val (.ref bK), .val (.ref bL), .val (.ref bH), .val (.int (0 : Int32)), .val (.int (p2.toInt16.toInt32)), .unset, .unset] []))
    refine own_st (fun _ kS => XS.iload X0.here hx rfl (hb hby at_235) rfl kS) ?_
    show own_G p.tables e below _ (T0.setTop (mkF m 237 #[.val (.int p1), .val (.int p2), .val (.ref bK), .val (.ref bL), .val (.ref bH), .val (.int (0 : Int32)), .val (.int (p2.toInt16.toInt32)), .unset, .unset] [(.int (p2.toInt16.toInt32))]))
    refine own_st (fun _ kS => XS.istore X0.here hx rfl (hb hby at_237) rfl (l' := #[.val (.int p1), .val (.int p2), .val (.ref bK), .val (.ref bL), .val (.ref bH), .val (.int (0 : Int32)), .val (.int (p2.toInt16.toInt32)), .val (.int (p2.toInt16.toInt32)), .unset]) rfl kS) ?_
    show own_G p.tables e below _ (T0.setTop (mkF m 239 #[.val (.int p1), .val (.int p2), .val (.ref bK), .val (.ref bL), .val (.ref bH), .val (.int (0 : Int32)), .val (.int (p2.toInt16.toInt32)), .val (.int (p2.toInt16.toInt32)), .unset] []))
    refine own_st (fun _ kS => XS.iload X0.here hx rfl (hb hby at_239) rfl kS) ?_
    show own_G p.tables e below _ (T0.setTop (mkF m 241 #[.val (.int p1), .val (.int p2), .val (.ref bK), .val (.ref bL), .val (.ref bH), .val (.int (0 : Int32)), .val (.int (p2.toInt16.toInt32)), .val (.int (p2.toInt16.toInt32)), .unset] [(.int (p2.toInt16.toInt32))]))
    refine own_st (fun _ kS => XS.aloadN X0.here hx rfl (hb hby at_241) rfl rfl kS) ?_
    show own_G p.tables e below _ (T0.setTop (mkF m 242 #[.val (.int p1), .val (.int p2), .val (.ref bK), .val (.ref bL), .val (.ref bH), .val (.int (0 : Int32)), .val (.int (p2.toInt16.toInt32)), .val (.int (p2.toInt16.toInt32)), .unset] [(.ref bL), (.int (p2.toInt16.toInt32))]))
    refine own_st (fun _ kS => XS.iload X0.here hx rfl (hb hby at_242) rfl kS) ?_
    show own_G p.tables e below _ (T0.setTop (mkF m 244 #[.val (.int p1), .val (.int p2), .val (.ref bK), .val (.ref bL), .val (.ref bH), .val (.int (0 : Int32)), .val (.int (p2.toInt16.toInt32)), .val (.int (p2.toInt16.toInt32)), .unset] [(.int (0 : Int32)), (.ref bL), (.int (p2.toInt16.toInt32))]))
    obtain ⟨cl2, Ar2, qa2, qs2, qn2, qh2, qg2⟩ := id R_L
    refine own_st (fun _ kS => X0.iaload hx (j := (0 : Int32)) (v := (.int (0 : Int32))) (by rw [e0]; exact Ar2.1) (State.isArrayOf_alike hZ.alike Ar2.2.1) Ar2.2.2 (inb_of qs2 ⟨by decide, by decide⟩) (qh2.at (inb_of qs2 ⟨by decide, by decide⟩) rfl) (g := (mkF m 244 #[.val (.int p1), .val (.int p2), .val (.ref bK), .val (.ref bL), .val (.ref bH), .val (.int (0 : Int32)), .val (.int (p2.toInt16.toInt32)), .val (.int (p2.toInt16.toInt32)), .unset] [(.int (0 : Int32)), (.ref bL), (.int (p2.toInt16.toInt32))])) rfl rfl (hb hby at_244) _ kS) ?_
    show own_G p.tables e below _ (T0.setTop (mkF m 245 #[.val (.int p1), .val (.int p2), .val (.ref bK), .val (.ref bL), .val (.ref bH), .val (.int (0 : Int32)), .val (.int (p2.toInt16.toInt32)), .val (.int (p2.toInt16.toInt32)), .unset] [(.int (0 : Int32)), (.int (p2.toInt16.toInt32))]))
    by_cases hc245_3 : (p2.toInt16.toInt32) < (0 : Int32)
    · skip
      refine own_st (fun _ kS => XS.icmpNo X0.here hx rfl (hb hby at_245) rfl (tlt hc245_3).2.1 kS) ?_
      show own_G p.tables e below _ (T0.setTop (mkF m 248 #[.val (.int p1), .val (.int p2), .val (.ref bK), .val (.ref bL), .val (.ref bH), .val (.int (0 : Int32)), .val (.int (p2.toInt16.toInt32)), .val (.int (p2.toInt16.toInt32)), .unset] []))
      refine own_st (fun _ kS => XS.iconst X0.here hx rfl (hb hby at_248) kS) ?_
      show own_G p.tables e below _ (T0.setTop (mkF m 249 #[.val (.int p1), .val (.int p2), .val (.ref bK), .val (.ref bL), .val (.ref bH), .val (.int (0 : Int32)), .val (.int (p2.toInt16.toInt32)), .val (.int (p2.toInt16.toInt32)), .unset] [(.int (0 : Int32))]))
      refine own_st (fun _ kS => XS.istore X0.here hx rfl (hb hby at_249) rfl (l' := #[.val (.int p1), .val (.int p2), .val (.ref bK), .val (.ref bL), .val (.ref bH), .val (.int (0 : Int32)), .val (.int (p2.toInt16.toInt32)), .val (.int (p2.toInt16.toInt32)), .val (.int (0 : Int32))]) rfl kS) ?_
      show own_G p.tables e below _ (T0.setTop (mkF m 251 #[.val (.int p1), .val (.int p2), .val (.ref bK), .val (.ref bL), .val (.ref bH), .val (.int (0 : Int32)), .val (.int (p2.toInt16.toInt32)), .val (.int (p2.toInt16.toInt32)), .val (.int (0 : Int32))] []))
      refine own_st (fun _ kS => XS.goto X0.here hx rfl (pc0 := 251) (pc' := 273) rfl (hb hby at_251) (by decide) (by decide) kS) ?_
      show own_G p.tables e below _ (T0.setTop (mkF m 273 #[.val (.int p1), .val (.int p2), .val (.ref bK), .val (.ref bL), .val (.ref bH), .val (.int (0 : Int32)), .val (.int (p2.toInt16.toInt32)), .val (.int (p2.toInt16.toInt32)), .val (.int (0 : Int32))] []))
      refine own_st (fun _ kS => XS.aloadN X0.here hx rfl (hb hby at_273) rfl rfl kS) ?_
      show own_G p.tables e below _ (T0.setTop (mkF m 274 #[.val (.int p1), .val (.int p2), .val (.ref bK), .val (.ref bL), .val (.ref bH), .val (.int (0 : Int32)), .val (.int (p2.toInt16.toInt32)), .val (.int (p2.toInt16.toInt32)), .val (.int (0 : Int32))] [(.ref bK)]))
      refine own_st (fun _ kS => XS.iload X0.here hx rfl (hb hby at_274) rfl kS) ?_
      show own_G p.tables e below _ (T0.setTop (mkF m 276 #[.val (.int p1), .val (.int p2), .val (.ref bK), .val (.ref bL), .val (.ref bH), .val (.int (0 : Int32)), .val (.int (p2.toInt16.toInt32)), .val (.int (p2.toInt16.toInt32)), .val (.int (0 : Int32))] [(.int (0 : Int32)), (.ref bK)]))
      obtain ⟨cl4, Ar4, qa4, qs4, qn4, qh4, qg4⟩ := id R_K
      refine own_st (fun _ kS => X0.aaload hx (j := (0 : Int32)) (v := (.ref w_FETCH)) (by rw [e0]; exact Ar4.1) (State.isArrayOf_alike hZ.alike Ar4.2.1) rfl Ar4.2.2 (inb_of qs4 ⟨by decide, by decide⟩) (qh4.at (inb_of qs4 ⟨by decide, by decide⟩) rfl) (g := (mkF m 276 #[.val (.int p1), .val (.int p2), .val (.ref bK), .val (.ref bL), .val (.ref bH), .val (.int (0 : Int32)), .val (.int (p2.toInt16.toInt32)), .val (.int (p2.toInt16.toInt32)), .val (.int (0 : Int32))] [(.int (0 : Int32)), (.ref bK)])) rfl rfl (hb hby at_276) _ kS) ?_
      show own_G p.tables e below _ (T0.setTop (mkF m 277 #[.val (.int p1), .val (.int p2), .val (.ref bK), .val (.ref bL), .val (.ref bH), .val (.int (0 : Int32)), .val (.int (p2.toInt16.toInt32)), .val (.int (p2.toInt16.toInt32)), .val (.int (0 : Int32))] [(.ref w_FETCH)]))
      refine own_st (fun _ kS => XS.iload X0.here hx rfl (hb hby at_277) rfl kS) ?_
      show own_G p.tables e below _ (T0.setTop (mkF m 279 #[.val (.int p1), .val (.int p2), .val (.ref bK), .val (.ref bL), .val (.ref bH), .val (.int (0 : Int32)), .val (.int (p2.toInt16.toInt32)), .val (.int (p2.toInt16.toInt32)), .val (.int (0 : Int32))] [(.int (p2.toInt16.toInt32)), (.ref w_FETCH)]))
      obtain ⟨cq5, kq5, q5a, q5b, q5c⟩ := isOf hZ e0 (Exa.ext O0.2 E_FETCH)
      obtain ⟨_, _, ⟨T5, L5, k5, n5⟩, -, X5, ⟨Lc5, hQ5, l5, y5, z5⟩, st5⟩ := X0.virtualBack hx (y := (⟨"com/example/loose_grip/loosegrip/wire/ApiKey", "supports", "(S)Z"⟩ : MethodName)) (z := (⟨"com/example/loose_grip/loosegrip/wire/ApiKey", "supports", "(S)Z"⟩ : MethodName)) hown (mvT hZ (hw _ (List.mem_of_getElem? (i := 32) rfl))) (mvT hZ (hw _ (List.mem_of_getElem? (i := 33) rfl))) (notFace_of_selects (args := #[]) (mvT hZ (hw _ (List.mem_of_getElem? (i := 35) rfl)))) (mvT hZ (hw _ (List.mem_of_getElem? (i := 35) rfl))) (mvT hZ (hw _ (List.mem_of_getElem? (i := 34) rfl))) (by decide) (backOf (W := 0) (rm_sup_lt l Z a0 hw [] w_FETCH (p2.toInt16.toInt32) (0 : Int32) h0 n0 Z0 O0 F_FETCH_minVersion hc245_3) hZ (hw _ (List.mem_of_getElem? (i := 36) rfl)) (hw _ (List.mem_of_getElem? (i := 3) rfl)) (by decide) (by decide)) q5a q5c (g := (mkF m 279 #[.val (.int p1), .val (.int p2), .val (.ref bK), .val (.ref bL), .val (.ref bH), .val (.int (0 : Int32)), .val (.int (p2.toInt16.toInt32)), .val (.int (p2.toInt16.toInt32)), .val (.int (0 : Int32))] [(.int (p2.toInt16.toInt32)), (.ref w_FETCH)])) rfl (by rw [hml]; rfl) (Steps.refl _) (argsL := [(.int (p2.toInt16.toInt32))]) (rest := []) (lenOf own_pd0 rfl) rfl (by show 2 * 0 + _ ≤ _; exact Nat.le_of_eq rfl) (hb hby at_279) (fun _ _ => ⟨rfl, e0, (by decide : 3 + 0 ≤ _), (by decide : 39 + 0 ≤ _)⟩)
      dsimp only [Pt.U, Pt.locs, Pt.cells, Pt.slots] at X5 l5 y5 z5 st5 hQ5
      subst l5 y5 z5
      obtain ⟨rfl, Nq5, eq5⟩ := hQ5
      have N5 := Fr.app N0 Nq5
      refine own_tr st5 ?_
      show own_G p.tables e below _ (T5.setTop (mkF m 282 #[.val (.int p1), .val (.int p2), .val (.ref bK), .val (.ref bL), .val (.ref bH), .val (.int (0 : Int32)), .val (.int (p2.toInt16.toInt32)), .val (.int (p2.toInt16.toInt32)), .val (.int (0 : Int32))] [(.int (0 : Int32))]))
      refine own_st (fun _ kS => XS.iload X5.here hx rfl (hb hby at_282) rfl kS) ?_
      show own_G p.tables e below _ (T5.setTop (mkF m 284 #[.val (.int p1), .val (.int p2), .val (.ref bK), .val (.ref bL), .val (.ref bH), .val (.int (0 : Int32)), .val (.int (p2.toInt16.toInt32)), .val (.int (p2.toInt16.toInt32)), .val (.int (0 : Int32))] [(.int (0 : Int32)), (.int (0 : Int32))]))
      refine own_st (fun _ kS => XS.icmpNo X5.here hx rfl (hb hby at_284) rfl (teq (by decide : (0 : Int32) = (0 : Int32))).2 kS) ?_
      show own_G p.tables e below _ (T5.setTop (mkF m 287 #[.val (.int p1), .val (.int p2), .val (.ref bK), .val (.ref bL), .val (.ref bH), .val (.int (0 : Int32)), .val (.int (p2.toInt16.toInt32)), .val (.int (p2.toInt16.toInt32)), .val (.int (0 : Int32))] []))
      refine own_st (fun _ kS => XS.iconst X5.here hx rfl (hb hby at_287) kS) ?_
      show own_G p.tables e below _ (T5.setTop (mkF m 288 #[.val (.int p1), .val (.int p2), .val (.ref bK), .val (.ref bL), .val (.ref bH), .val (.int (0 : Int32)), .val (.int (p2.toInt16.toInt32)), .val (.int (p2.toInt16.toInt32)), .val (.int (0 : Int32))] [(.int (1 : Int32))]))
      refine own_st (fun _ kS => XS.goto X5.here hx rfl (pc0 := 288) (pc' := 292) rfl (hb hby at_288) (by decide) (by decide) kS) ?_
      show own_G p.tables e below _ (T5.setTop (mkF m 292 #[.val (.int p1), .val (.int p2), .val (.ref bK), .val (.ref bL), .val (.ref bH), .val (.int (0 : Int32)), .val (.int (p2.toInt16.toInt32)), .val (.int (p2.toInt16.toInt32)), .val (.int (0 : Int32))] [(.int (1 : Int32))]))
      exact own_retN X5 hx hlk (t := .boolean) hret (by simp) (hb hby at_292) (by decide) (by decide) (v' := (1 : Int32)) rfl (by rw [eq5]; exact ⟨rfl, N5⟩)
    · skip
      refine own_st (fun _ kS => XS.icmpYes X0.here hx rfl (pc0 := 245) (pc' := 254) rfl (hb hby at_245) rfl (flt hc245_3).2.1 (by decide) (by decide) kS) ?_
      show own_G p.tables e below _ (T0.setTop (mkF m 254 #[.val (.int p1), .val (.int p2), .val (.ref bK), .val (.ref bL), .val (.ref bH), .val (.int (0 : Int32)), .val (.int (p2.toInt16.toInt32)), .val (.int (p2.toInt16.toInt32)), .unset] []))
      refine own_st (fun _ kS => XS.iload X0.here hx rfl (hb hby at_254) rfl kS) ?_
      show own_G p.tables e below _ (T0.setTop (mkF m 256 #[.val (.int p1), .val (.int p2), .val (.ref bK), .val (.ref bL), .val (.ref bH), .val (.int (0 : Int32)), .val (.int (p2.toInt16.toInt32)), .val (.int (p2.toInt16.toInt32)), .unset] [(.int (p2.toInt16.toInt32))]))
      refine own_st (fun _ kS => XS.aload X0.here hx rfl (hb hby at_256) rfl rfl kS) ?_
      show own_G p.tables e below _ (T0.setTop (mkF m 258 #[.val (.int p1), .val (.int p2), .val (.ref bK), .val (.ref bL), .val (.ref bH), .val (.int (0 : Int32)), .val (.int (p2.toInt16.toInt32)), .val (.int (p2.toInt16.toInt32)), .unset] [(.ref bH), (.int (p2.toInt16.toInt32))]))
      refine own_st (fun _ kS => XS.iload X0.here hx rfl (hb hby at_258) rfl kS) ?_
      show own_G p.tables e below _ (T0.setTop (mkF m 260 #[.val (.int p1), .val (.int p2), .val (.ref bK), .val (.ref bL), .val (.ref bH), .val (.int (0 : Int32)), .val (.int (p2.toInt16.toInt32)), .val (.int (p2.toInt16.toInt32)), .unset] [(.int (0 : Int32)), (.ref bH), (.int (p2.toInt16.toInt32))]))
      obtain ⟨cl6, Ar6, qa6, qs6, qn6, qh6, qg6⟩ := id R_H
      refine own_st (fun _ kS => X0.iaload hx (j := (0 : Int32)) (v := (.int (11 : Int32))) (by rw [e0]; exact Ar6.1) (State.isArrayOf_alike hZ.alike Ar6.2.1) Ar6.2.2 (inb_of qs6 ⟨by decide, by decide⟩) (qh6.at (inb_of qs6 ⟨by decide, by decide⟩) rfl) (g := (mkF m 260 #[.val (.int p1), .val (.int p2), .val (.ref bK), .val (.ref bL), .val (.ref bH), .val (.int (0 : Int32)), .val (.int (p2.toInt16.toInt32)), .val (.int (p2.toInt16.toInt32)), .unset] [(.int (0 : Int32)), (.ref bH), (.int (p2.toInt16.toInt32))])) rfl rfl (hb hby at_260) _ kS) ?_
      show own_G p.tables e below _ (T0.setTop (mkF m 261 #[.val (.int p1), .val (.int p2), .val (.ref bK), .val (.ref bL), .val (.ref bH), .val (.int (0 : Int32)), .val (.int (p2.toInt16.toInt32)), .val (.int (p2.toInt16.toInt32)), .unset] [(.int (11 : Int32)), (.int (p2.toInt16.toInt32))]))
      by_cases hc261_7 : (11 : Int32) < (p2.toInt16.toInt32)
      · skip
        refine own_st (fun _ kS => XS.icmpNo X0.here hx rfl (hb hby at_261) rfl (tlt hc261_7).2.2.2 kS) ?_
        show own_G p.tables e below _ (T0.setTop (mkF m 264 #[.val (.int p1), .val (.int p2), .val (.ref bK), .val (.ref bL), .val (.ref bH), .val (.int (0 : Int32)), .val (.int (p2.toInt16.toInt32)), .val (.int (p2.toInt16.toInt32)), .unset] []))
        refine own_st (fun _ kS => XS.iconst X0.here hx rfl (hb hby at_264) kS) ?_
        show own_G p.tables e below _ (T0.setTop (mkF m 265 #[.val (.int p1), .val (.int p2), .val (.ref bK), .val (.ref bL), .val (.ref bH), .val (.int (0 : Int32)), .val (.int (p2.toInt16.toInt32)), .val (.int (p2.toInt16.toInt32)), .unset] [(.int (0 : Int32))]))
        refine own_st (fun _ kS => XS.istore X0.here hx rfl (hb hby at_265) rfl (l' := #[.val (.int p1), .val (.int p2), .val (.ref bK), .val (.ref bL), .val (.ref bH), .val (.int (0 : Int32)), .val (.int (p2.toInt16.toInt32)), .val (.int (p2.toInt16.toInt32)), .val (.int (0 : Int32))]) rfl kS) ?_
        show own_G p.tables e below _ (T0.setTop (mkF m 267 #[.val (.int p1), .val (.int p2), .val (.ref bK), .val (.ref bL), .val (.ref bH), .val (.int (0 : Int32)), .val (.int (p2.toInt16.toInt32)), .val (.int (p2.toInt16.toInt32)), .val (.int (0 : Int32))] []))
        refine own_st (fun _ kS => XS.goto X0.here hx rfl (pc0 := 267) (pc' := 273) rfl (hb hby at_267) (by decide) (by decide) kS) ?_
        show own_G p.tables e below _ (T0.setTop (mkF m 273 #[.val (.int p1), .val (.int p2), .val (.ref bK), .val (.ref bL), .val (.ref bH), .val (.int (0 : Int32)), .val (.int (p2.toInt16.toInt32)), .val (.int (p2.toInt16.toInt32)), .val (.int (0 : Int32))] []))
        refine own_st (fun _ kS => XS.aloadN X0.here hx rfl (hb hby at_273) rfl rfl kS) ?_
        show own_G p.tables e below _ (T0.setTop (mkF m 274 #[.val (.int p1), .val (.int p2), .val (.ref bK), .val (.ref bL), .val (.ref bH), .val (.int (0 : Int32)), .val (.int (p2.toInt16.toInt32)), .val (.int (p2.toInt16.toInt32)), .val (.int (0 : Int32))] [(.ref bK)]))
        refine own_st (fun _ kS => XS.iload X0.here hx rfl (hb hby at_274) rfl kS) ?_
        show own_G p.tables e below _ (T0.setTop (mkF m 276 #[.val (.int p1), .val (.int p2), .val (.ref bK), .val (.ref bL), .val (.ref bH), .val (.int (0 : Int32)), .val (.int (p2.toInt16.toInt32)), .val (.int (p2.toInt16.toInt32)), .val (.int (0 : Int32))] [(.int (0 : Int32)), (.ref bK)]))
        obtain ⟨cl8, Ar8, qa8, qs8, qn8, qh8, qg8⟩ := id R_K
        refine own_st (fun _ kS => X0.aaload hx (j := (0 : Int32)) (v := (.ref w_FETCH)) (by rw [e0]; exact Ar8.1) (State.isArrayOf_alike hZ.alike Ar8.2.1) rfl Ar8.2.2 (inb_of qs8 ⟨by decide, by decide⟩) (qh8.at (inb_of qs8 ⟨by decide, by decide⟩) rfl) (g := (mkF m 276 #[.val (.int p1), .val (.int p2), .val (.ref bK), .val (.ref bL), .val (.ref bH), .val (.int (0 : Int32)), .val (.int (p2.toInt16.toInt32)), .val (.int (p2.toInt16.toInt32)), .val (.int (0 : Int32))] [(.int (0 : Int32)), (.ref bK)])) rfl rfl (hb hby at_276) _ kS) ?_
        show own_G p.tables e below _ (T0.setTop (mkF m 277 #[.val (.int p1), .val (.int p2), .val (.ref bK), .val (.ref bL), .val (.ref bH), .val (.int (0 : Int32)), .val (.int (p2.toInt16.toInt32)), .val (.int (p2.toInt16.toInt32)), .val (.int (0 : Int32))] [(.ref w_FETCH)]))
        refine own_st (fun _ kS => XS.iload X0.here hx rfl (hb hby at_277) rfl kS) ?_
        show own_G p.tables e below _ (T0.setTop (mkF m 279 #[.val (.int p1), .val (.int p2), .val (.ref bK), .val (.ref bL), .val (.ref bH), .val (.int (0 : Int32)), .val (.int (p2.toInt16.toInt32)), .val (.int (p2.toInt16.toInt32)), .val (.int (0 : Int32))] [(.int (p2.toInt16.toInt32)), (.ref w_FETCH)]))
        obtain ⟨cq9, kq9, q9a, q9b, q9c⟩ := isOf hZ e0 (Exa.ext O0.2 E_FETCH)
        obtain ⟨_, _, ⟨T9, L9, k9, n9⟩, -, X9, ⟨Lc9, hQ9, l9, y9, z9⟩, st9⟩ := X0.virtualBack hx (y := (⟨"com/example/loose_grip/loosegrip/wire/ApiKey", "supports", "(S)Z"⟩ : MethodName)) (z := (⟨"com/example/loose_grip/loosegrip/wire/ApiKey", "supports", "(S)Z"⟩ : MethodName)) hown (mvT hZ (hw _ (List.mem_of_getElem? (i := 32) rfl))) (mvT hZ (hw _ (List.mem_of_getElem? (i := 33) rfl))) (notFace_of_selects (args := #[]) (mvT hZ (hw _ (List.mem_of_getElem? (i := 35) rfl)))) (mvT hZ (hw _ (List.mem_of_getElem? (i := 35) rfl))) (mvT hZ (hw _ (List.mem_of_getElem? (i := 34) rfl))) (by decide) (backOf (W := 0) (rm_sup_gt l Z a0 hw [] w_FETCH (p2.toInt16.toInt32) (0 : Int32) (11 : Int32) h0 n0 Z0 O0 F_FETCH_minVersion F_FETCH_maxVersion hc245_3 hc261_7) hZ (hw _ (List.mem_of_getElem? (i := 36) rfl)) (hw _ (List.mem_of_getElem? (i := 3) rfl)) (by decide) (by decide)) q9a q9c (g := (mkF m 279 #[.val (.int p1), .val (.int p2), .val (.ref bK), .val (.ref bL), .val (.ref bH), .val (.int (0 : Int32)), .val (.int (p2.toInt16.toInt32)), .val (.int (p2.toInt16.toInt32)), .val (.int (0 : Int32))] [(.int (p2.toInt16.toInt32)), (.ref w_FETCH)])) rfl (by rw [hml]; rfl) (Steps.refl _) (argsL := [(.int (p2.toInt16.toInt32))]) (rest := []) (lenOf own_pd0 rfl) rfl (by show 2 * 0 + _ ≤ _; exact Nat.le_of_eq rfl) (hb hby at_279) (fun _ _ => ⟨rfl, e0, (by decide : 3 + 0 ≤ _), (by decide : 39 + 0 ≤ _)⟩)
        dsimp only [Pt.U, Pt.locs, Pt.cells, Pt.slots] at X9 l9 y9 z9 st9 hQ9
        subst l9 y9 z9
        obtain ⟨rfl, Nq9, eq9⟩ := hQ9
        have N9 := Fr.app N0 Nq9
        refine own_tr st9 ?_
        show own_G p.tables e below _ (T9.setTop (mkF m 282 #[.val (.int p1), .val (.int p2), .val (.ref bK), .val (.ref bL), .val (.ref bH), .val (.int (0 : Int32)), .val (.int (p2.toInt16.toInt32)), .val (.int (p2.toInt16.toInt32)), .val (.int (0 : Int32))] [(.int (0 : Int32))]))
        refine own_st (fun _ kS => XS.iload X9.here hx rfl (hb hby at_282) rfl kS) ?_
        show own_G p.tables e below _ (T9.setTop (mkF m 284 #[.val (.int p1), .val (.int p2), .val (.ref bK), .val (.ref bL), .val (.ref bH), .val (.int (0 : Int32)), .val (.int (p2.toInt16.toInt32)), .val (.int (p2.toInt16.toInt32)), .val (.int (0 : Int32))] [(.int (0 : Int32)), (.int (0 : Int32))]))
        refine own_st (fun _ kS => XS.icmpNo X9.here hx rfl (hb hby at_284) rfl (teq (by decide : (0 : Int32) = (0 : Int32))).2 kS) ?_
        show own_G p.tables e below _ (T9.setTop (mkF m 287 #[.val (.int p1), .val (.int p2), .val (.ref bK), .val (.ref bL), .val (.ref bH), .val (.int (0 : Int32)), .val (.int (p2.toInt16.toInt32)), .val (.int (p2.toInt16.toInt32)), .val (.int (0 : Int32))] []))
        refine own_st (fun _ kS => XS.iconst X9.here hx rfl (hb hby at_287) kS) ?_
        show own_G p.tables e below _ (T9.setTop (mkF m 288 #[.val (.int p1), .val (.int p2), .val (.ref bK), .val (.ref bL), .val (.ref bH), .val (.int (0 : Int32)), .val (.int (p2.toInt16.toInt32)), .val (.int (p2.toInt16.toInt32)), .val (.int (0 : Int32))] [(.int (1 : Int32))]))
        refine own_st (fun _ kS => XS.goto X9.here hx rfl (pc0 := 288) (pc' := 292) rfl (hb hby at_288) (by decide) (by decide) kS) ?_
        show own_G p.tables e below _ (T9.setTop (mkF m 292 #[.val (.int p1), .val (.int p2), .val (.ref bK), .val (.ref bL), .val (.ref bH), .val (.int (0 : Int32)), .val (.int (p2.toInt16.toInt32)), .val (.int (p2.toInt16.toInt32)), .val (.int (0 : Int32))] [(.int (1 : Int32))]))
        exact own_retN X9 hx hlk (t := .boolean) hret (by simp) (hb hby at_292) (by decide) (by decide) (v' := (1 : Int32)) rfl (by rw [eq9]; exact ⟨rfl, N9⟩)
      · skip
        refine own_st (fun _ kS => XS.icmpYes X0.here hx rfl (pc0 := 261) (pc' := 270) rfl (hb hby at_261) rfl (flt hc261_7).2.2.2 (by decide) (by decide) kS) ?_
        show own_G p.tables e below _ (T0.setTop (mkF m 270 #[.val (.int p1), .val (.int p2), .val (.ref bK), .val (.ref bL), .val (.ref bH), .val (.int (0 : Int32)), .val (.int (p2.toInt16.toInt32)), .val (.int (p2.toInt16.toInt32)), .unset] []))
        refine own_st (fun _ kS => XS.iconst X0.here hx rfl (hb hby at_270) kS) ?_
        show own_G p.tables e below _ (T0.setTop (mkF m 271 #[.val (.int p1), .val (.int p2), .val (.ref bK), .val (.ref bL), .val (.ref bH), .val (.int (0 : Int32)), .val (.int (p2.toInt16.toInt32)), .val (.int (p2.toInt16.toInt32)), .unset] [(.int (1 : Int32))]))
        refine own_st (fun _ kS => XS.istore X0.here hx rfl (hb hby at_271) rfl (l' := #[.val (.int p1), .val (.int p2), .val (.ref bK), .val (.ref bL), .val (.ref bH), .val (.int (0 : Int32)), .val (.int (p2.toInt16.toInt32)), .val (.int (p2.toInt16.toInt32)), .val (.int (1 : Int32))]) rfl kS) ?_
        show own_G p.tables e below _ (T0.setTop (mkF m 273 #[.val (.int p1), .val (.int p2), .val (.ref bK), .val (.ref bL), .val (.ref bH), .val (.int (0 : Int32)), .val (.int (p2.toInt16.toInt32)), .val (.int (p2.toInt16.toInt32)), .val (.int (1 : Int32))] []))
        refine own_st (fun _ kS => XS.aloadN X0.here hx rfl (hb hby at_273) rfl rfl kS) ?_
        show own_G p.tables e below _ (T0.setTop (mkF m 274 #[.val (.int p1), .val (.int p2), .val (.ref bK), .val (.ref bL), .val (.ref bH), .val (.int (0 : Int32)), .val (.int (p2.toInt16.toInt32)), .val (.int (p2.toInt16.toInt32)), .val (.int (1 : Int32))] [(.ref bK)]))
        refine own_st (fun _ kS => XS.iload X0.here hx rfl (hb hby at_274) rfl kS) ?_
        show own_G p.tables e below _ (T0.setTop (mkF m 276 #[.val (.int p1), .val (.int p2), .val (.ref bK), .val (.ref bL), .val (.ref bH), .val (.int (0 : Int32)), .val (.int (p2.toInt16.toInt32)), .val (.int (p2.toInt16.toInt32)), .val (.int (1 : Int32))] [(.int (0 : Int32)), (.ref bK)]))
        obtain ⟨cl10, Ar10, qa10, qs10, qn10, qh10, qg10⟩ := id R_K
        refine own_st (fun _ kS => X0.aaload hx (j := (0 : Int32)) (v := (.ref w_FETCH)) (by rw [e0]; exact Ar10.1) (State.isArrayOf_alike hZ.alike Ar10.2.1) rfl Ar10.2.2 (inb_of qs10 ⟨by decide, by decide⟩) (qh10.at (inb_of qs10 ⟨by decide, by decide⟩) rfl) (g := (mkF m 276 #[.val (.int p1), .val (.int p2), .val (.ref bK), .val (.ref bL), .val (.ref bH), .val (.int (0 : Int32)), .val (.int (p2.toInt16.toInt32)), .val (.int (p2.toInt16.toInt32)), .val (.int (1 : Int32))] [(.int (0 : Int32)), (.ref bK)])) rfl rfl (hb hby at_276) _ kS) ?_
        show own_G p.tables e below _ (T0.setTop (mkF m 277 #[.val (.int p1), .val (.int p2), .val (.ref bK), .val (.ref bL), .val (.ref bH), .val (.int (0 : Int32)), .val (.int (p2.toInt16.toInt32)), .val (.int (p2.toInt16.toInt32)), .val (.int (1 : Int32))] [(.ref w_FETCH)]))
        refine own_st (fun _ kS => XS.iload X0.here hx rfl (hb hby at_277) rfl kS) ?_
        show own_G p.tables e below _ (T0.setTop (mkF m 279 #[.val (.int p1), .val (.int p2), .val (.ref bK), .val (.ref bL), .val (.ref bH), .val (.int (0 : Int32)), .val (.int (p2.toInt16.toInt32)), .val (.int (p2.toInt16.toInt32)), .val (.int (1 : Int32))] [(.int (p2.toInt16.toInt32)), (.ref w_FETCH)]))
        obtain ⟨cq11, kq11, q11a, q11b, q11c⟩ := isOf hZ e0 (Exa.ext O0.2 E_FETCH)
        obtain ⟨_, _, ⟨T11, L11, k11, n11⟩, -, X11, ⟨Lc11, hQ11, l11, y11, z11⟩, st11⟩ := X0.virtualBack hx (y := (⟨"com/example/loose_grip/loosegrip/wire/ApiKey", "supports", "(S)Z"⟩ : MethodName)) (z := (⟨"com/example/loose_grip/loosegrip/wire/ApiKey", "supports", "(S)Z"⟩ : MethodName)) hown (mvT hZ (hw _ (List.mem_of_getElem? (i := 32) rfl))) (mvT hZ (hw _ (List.mem_of_getElem? (i := 33) rfl))) (notFace_of_selects (args := #[]) (mvT hZ (hw _ (List.mem_of_getElem? (i := 35) rfl)))) (mvT hZ (hw _ (List.mem_of_getElem? (i := 35) rfl))) (mvT hZ (hw _ (List.mem_of_getElem? (i := 34) rfl))) (by decide) (backOf (W := 0) (rm_sup_in l Z a0 hw [] w_FETCH (p2.toInt16.toInt32) (0 : Int32) (11 : Int32) h0 n0 Z0 O0 F_FETCH_minVersion F_FETCH_maxVersion hc245_3 hc261_7) hZ (hw _ (List.mem_of_getElem? (i := 36) rfl)) (hw _ (List.mem_of_getElem? (i := 3) rfl)) (by decide) (by decide)) q11a q11c (g := (mkF m 279 #[.val (.int p1), .val (.int p2), .val (.ref bK), .val (.ref bL), .val (.ref bH), .val (.int (0 : Int32)), .val (.int (p2.toInt16.toInt32)), .val (.int (p2.toInt16.toInt32)), .val (.int (1 : Int32))] [(.int (p2.toInt16.toInt32)), (.ref w_FETCH)])) rfl (by rw [hml]; rfl) (Steps.refl _) (argsL := [(.int (p2.toInt16.toInt32))]) (rest := []) (lenOf own_pd0 rfl) rfl (by show 2 * 0 + _ ≤ _; exact Nat.le_of_eq rfl) (hb hby at_279) (fun _ _ => ⟨rfl, e0, (by decide : 3 + 0 ≤ _), (by decide : 39 + 0 ≤ _)⟩)
        dsimp only [Pt.U, Pt.locs, Pt.cells, Pt.slots] at X11 l11 y11 z11 st11 hQ11
        subst l11 y11 z11
        obtain ⟨rfl, Nq11, eq11⟩ := hQ11
        have N11 := Fr.app N0 Nq11
        refine own_tr st11 ?_
        show own_G p.tables e below _ (T11.setTop (mkF m 282 #[.val (.int p1), .val (.int p2), .val (.ref bK), .val (.ref bL), .val (.ref bH), .val (.int (0 : Int32)), .val (.int (p2.toInt16.toInt32)), .val (.int (p2.toInt16.toInt32)), .val (.int (1 : Int32))] [(.int (1 : Int32))]))
        refine own_st (fun _ kS => XS.iload X11.here hx rfl (hb hby at_282) rfl kS) ?_
        show own_G p.tables e below _ (T11.setTop (mkF m 284 #[.val (.int p1), .val (.int p2), .val (.ref bK), .val (.ref bL), .val (.ref bH), .val (.int (0 : Int32)), .val (.int (p2.toInt16.toInt32)), .val (.int (p2.toInt16.toInt32)), .val (.int (1 : Int32))] [(.int (1 : Int32)), (.int (1 : Int32))]))
        refine own_st (fun _ kS => XS.icmpNo X11.here hx rfl (hb hby at_284) rfl (teq (by decide : (1 : Int32) = (1 : Int32))).2 kS) ?_
        show own_G p.tables e below _ (T11.setTop (mkF m 287 #[.val (.int p1), .val (.int p2), .val (.ref bK), .val (.ref bL), .val (.ref bH), .val (.int (0 : Int32)), .val (.int (p2.toInt16.toInt32)), .val (.int (p2.toInt16.toInt32)), .val (.int (1 : Int32))] []))
        refine own_st (fun _ kS => XS.iconst X11.here hx rfl (hb hby at_287) kS) ?_
        show own_G p.tables e below _ (T11.setTop (mkF m 288 #[.val (.int p1), .val (.int p2), .val (.ref bK), .val (.ref bL), .val (.ref bH), .val (.int (0 : Int32)), .val (.int (p2.toInt16.toInt32)), .val (.int (p2.toInt16.toInt32)), .val (.int (1 : Int32))] [(.int (1 : Int32))]))
        refine own_st (fun _ kS => XS.goto X11.here hx rfl (pc0 := 288) (pc' := 292) rfl (hb hby at_288) (by decide) (by decide) kS) ?_
        show own_G p.tables e below _ (T11.setTop (mkF m 292 #[.val (.int p1), .val (.int p2), .val (.ref bK), .val (.ref bL), .val (.ref bH), .val (.int (0 : Int32)), .val (.int (p2.toInt16.toInt32)), .val (.int (p2.toInt16.toInt32)), .val (.int (1 : Int32))] [(.int (1 : Int32))]))
        exact own_retN X11 hx hlk (t := .boolean) hret (by simp) (hb hby at_292) (by decide) (by decide) (v' := (1 : Int32)) rfl (by rw [eq11]; exact ⟨rfl, N11⟩)
  · rw [hk1]
    show own_G p.tables e below _ (T0.setTop (mkF m 229 #[.val (.int p1), .val (.int p2), .val (.ref bK), .val (.ref bL), .val (.ref bH), .unset, .unset, .unset, .unset] [(.int (1 : Int32))]))
    refine own_st (fun _ kS => XS.istore X0.here hx rfl (hb hby at_229) rfl (l' := #[.val (.int p1), .val (.int p2), .val (.ref bK), .val (.ref bL), .val (.ref bH), .val (.int (1 : Int32)), .unset, .unset, .unset]) rfl kS) ?_
    show own_G p.tables e below _ (T0.setTop (mkF m 231 #[.val (.int p1), .val (.int p2), .val (.ref bK), .val (.ref bL), .val (.ref bH), .val (.int (1 : Int32)), .unset, .unset, .unset] []))
    refine own_st (fun _ kS => XS.iloadN X0.here hx rfl (hb hby at_231) rfl kS) ?_
    show own_G p.tables e below _ (T0.setTop (mkF m 232 #[.val (.int p1), .val (.int p2), .val (.ref bK), .val (.ref bL), .val (.ref bH), .val (.int (1 : Int32)), .unset, .unset, .unset] [(.int p2)]))
    refine own_st (fun _ kS => XT.i2s X0.here hx rfl (hb hby at_232) rfl kS) ?_
    show own_G p.tables e below _ (T0.setTop (mkF m 233 #[.val (.int p1), .val (.int p2), .val (.ref bK), .val (.ref bL), .val (.ref bH), .val (.int (1 : Int32)), .unset, .unset, .unset] [(.int (p2.toInt16.toInt32))]))
    refine own_st (fun _ kS => XS.istore X0.here hx rfl (hb hby at_233) rfl (l' := #[.val (.int p1), .val (.int p2), .val (.ref bK), .val (.ref bL), .val (.ref bH), .val (.int (1 : Int32)), .val (.int (p2.toInt16.toInt32)), .unset, .unset]) rfl kS) ?_
    show own_G p.tables e below _ (T0.setTop (mkF m 235 #[.val (.int p1), .val (.int p2), .val (.ref bK), .val (.ref bL), .val (.ref bH), .val (.int (1 : Int32)), .val (.int (p2.toInt16.toInt32)), .unset, .unset] []))
    refine own_st (fun _ kS => XS.iload X0.here hx rfl (hb hby at_235) rfl kS) ?_
    show own_G p.tables e below _ (T0.setTop (mkF m 237 #[.val (.int p1), .val (.int p2), .val (.ref bK), .val (.ref bL), .val (.ref bH), .val (.int (1 : Int32)), .val (.int (p2.toInt16.toInt32)), .unset, .unset] [(.int (p2.toInt16.toInt32))]))
    refine own_st (fun _ kS => XS.istore X0.here hx rfl (hb hby at_237) rfl (l' := #[.val (.int p1), .val (.int p2), .val (.ref bK), .val (.ref bL), .val (.ref bH), .val (.int (1 : Int32)), .val (.int (p2.toInt16.toInt32)), .val (.int (p2.toInt16.toInt32)), .unset]) rfl kS) ?_
    show own_G p.tables e below _ (T0.setTop (mkF m 239 #[.val (.int p1), .val (.int p2), .val (.ref bK), .val (.ref bL), .val (.ref bH), .val (.int (1 : Int32)), .val (.int (p2.toInt16.toInt32)), .val (.int (p2.toInt16.toInt32)), .unset] []))
    refine own_st (fun _ kS => XS.iload X0.here hx rfl (hb hby at_239) rfl kS) ?_
    show own_G p.tables e below _ (T0.setTop (mkF m 241 #[.val (.int p1), .val (.int p2), .val (.ref bK), .val (.ref bL), .val (.ref bH), .val (.int (1 : Int32)), .val (.int (p2.toInt16.toInt32)), .val (.int (p2.toInt16.toInt32)), .unset] [(.int (p2.toInt16.toInt32))]))
    refine own_st (fun _ kS => XS.aloadN X0.here hx rfl (hb hby at_241) rfl rfl kS) ?_
    show own_G p.tables e below _ (T0.setTop (mkF m 242 #[.val (.int p1), .val (.int p2), .val (.ref bK), .val (.ref bL), .val (.ref bH), .val (.int (1 : Int32)), .val (.int (p2.toInt16.toInt32)), .val (.int (p2.toInt16.toInt32)), .unset] [(.ref bL), (.int (p2.toInt16.toInt32))]))
    refine own_st (fun _ kS => XS.iload X0.here hx rfl (hb hby at_242) rfl kS) ?_
    show own_G p.tables e below _ (T0.setTop (mkF m 244 #[.val (.int p1), .val (.int p2), .val (.ref bK), .val (.ref bL), .val (.ref bH), .val (.int (1 : Int32)), .val (.int (p2.toInt16.toInt32)), .val (.int (p2.toInt16.toInt32)), .unset] [(.int (1 : Int32)), (.ref bL), (.int (p2.toInt16.toInt32))]))
    obtain ⟨cl12, Ar12, qa12, qs12, qn12, qh12, qg12⟩ := id R_L
    refine own_st (fun _ kS => X0.iaload hx (j := (1 : Int32)) (v := (.int (0 : Int32))) (by rw [e0]; exact Ar12.1) (State.isArrayOf_alike hZ.alike Ar12.2.1) Ar12.2.2 (inb_of qs12 ⟨by decide, by decide⟩) (qh12.at (inb_of qs12 ⟨by decide, by decide⟩) rfl) (g := (mkF m 244 #[.val (.int p1), .val (.int p2), .val (.ref bK), .val (.ref bL), .val (.ref bH), .val (.int (1 : Int32)), .val (.int (p2.toInt16.toInt32)), .val (.int (p2.toInt16.toInt32)), .unset] [(.int (1 : Int32)), (.ref bL), (.int (p2.toInt16.toInt32))])) rfl rfl (hb hby at_244) _ kS) ?_
    show own_G p.tables e below _ (T0.setTop (mkF m 245 #[.val (.int p1), .val (.int p2), .val (.ref bK), .val (.ref bL), .val (.ref bH), .val (.int (1 : Int32)), .val (.int (p2.toInt16.toInt32)), .val (.int (p2.toInt16.toInt32)), .unset] [(.int (0 : Int32)), (.int (p2.toInt16.toInt32))]))
    by_cases hc245_13 : (p2.toInt16.toInt32) < (0 : Int32)
    · skip
      refine own_st (fun _ kS => XS.icmpNo X0.here hx rfl (hb hby at_245) rfl (tlt hc245_13).2.1 kS) ?_
      show own_G p.tables e below _ (T0.setTop (mkF m 248 #[.val (.int p1), .val (.int p2), .val (.ref bK), .val (.ref bL), .val (.ref bH), .val (.int (1 : Int32)), .val (.int (p2.toInt16.toInt32)), .val (.int (p2.toInt16.toInt32)), .unset] []))
      refine own_st (fun _ kS => XS.iconst X0.here hx rfl (hb hby at_248) kS) ?_
      show own_G p.tables e below _ (T0.setTop (mkF m 249 #[.val (.int p1), .val (.int p2), .val (.ref bK), .val (.ref bL), .val (.ref bH), .val (.int (1 : Int32)), .val (.int (p2.toInt16.toInt32)), .val (.int (p2.toInt16.toInt32)), .unset] [(.int (0 : Int32))]))
      refine own_st (fun _ kS => XS.istore X0.here hx rfl (hb hby at_249) rfl (l' := #[.val (.int p1), .val (.int p2), .val (.ref bK), .val (.ref bL), .val (.ref bH), .val (.int (1 : Int32)), .val (.int (p2.toInt16.toInt32)), .val (.int (p2.toInt16.toInt32)), .val (.int (0 : Int32))]) rfl kS) ?_
      show own_G p.tables e below _ (T0.setTop (mkF m 251 #[.val (.int p1), .val (.int p2), .val (.ref bK), .val (.ref bL), .val (.ref bH), .val (.int (1 : Int32)), .val (.int (p2.toInt16.toInt32)), .val (.int (p2.toInt16.toInt32)), .val (.int (0 : Int32))] []))
      refine own_st (fun _ kS => XS.goto X0.here hx rfl (pc0 := 251) (pc' := 273) rfl (hb hby at_251) (by decide) (by decide) kS) ?_
      show own_G p.tables e below _ (T0.setTop (mkF m 273 #[.val (.int p1), .val (.int p2), .val (.ref bK), .val (.ref bL), .val (.ref bH), .val (.int (1 : Int32)), .val (.int (p2.toInt16.toInt32)), .val (.int (p2.toInt16.toInt32)), .val (.int (0 : Int32))] []))
      refine own_st (fun _ kS => XS.aloadN X0.here hx rfl (hb hby at_273) rfl rfl kS) ?_
      show own_G p.tables e below _ (T0.setTop (mkF m 274 #[.val (.int p1), .val (.int p2), .val (.ref bK), .val (.ref bL), .val (.ref bH), .val (.int (1 : Int32)), .val (.int (p2.toInt16.toInt32)), .val (.int (p2.toInt16.toInt32)), .val (.int (0 : Int32))] [(.ref bK)]))
      refine own_st (fun _ kS => XS.iload X0.here hx rfl (hb hby at_274) rfl kS) ?_
      show own_G p.tables e below _ (T0.setTop (mkF m 276 #[.val (.int p1), .val (.int p2), .val (.ref bK), .val (.ref bL), .val (.ref bH), .val (.int (1 : Int32)), .val (.int (p2.toInt16.toInt32)), .val (.int (p2.toInt16.toInt32)), .val (.int (0 : Int32))] [(.int (1 : Int32)), (.ref bK)]))
      obtain ⟨cl14, Ar14, qa14, qs14, qn14, qh14, qg14⟩ := id R_K
      refine own_st (fun _ kS => X0.aaload hx (j := (1 : Int32)) (v := (.ref w_LIST_OFFSETS)) (by rw [e0]; exact Ar14.1) (State.isArrayOf_alike hZ.alike Ar14.2.1) rfl Ar14.2.2 (inb_of qs14 ⟨by decide, by decide⟩) (qh14.at (inb_of qs14 ⟨by decide, by decide⟩) rfl) (g := (mkF m 276 #[.val (.int p1), .val (.int p2), .val (.ref bK), .val (.ref bL), .val (.ref bH), .val (.int (1 : Int32)), .val (.int (p2.toInt16.toInt32)), .val (.int (p2.toInt16.toInt32)), .val (.int (0 : Int32))] [(.int (1 : Int32)), (.ref bK)])) rfl rfl (hb hby at_276) _ kS) ?_
      show own_G p.tables e below _ (T0.setTop (mkF m 277 #[.val (.int p1), .val (.int p2), .val (.ref bK), .val (.ref bL), .val (.ref bH), .val (.int (1 : Int32)), .val (.int (p2.toInt16.toInt32)), .val (.int (p2.toInt16.toInt32)), .val (.int (0 : Int32))] [(.ref w_LIST_OFFSETS)]))
      refine own_st (fun _ kS => XS.iload X0.here hx rfl (hb hby at_277) rfl kS) ?_
      show own_G p.tables e below _ (T0.setTop (mkF m 279 #[.val (.int p1), .val (.int p2), .val (.ref bK), .val (.ref bL), .val (.ref bH), .val (.int (1 : Int32)), .val (.int (p2.toInt16.toInt32)), .val (.int (p2.toInt16.toInt32)), .val (.int (0 : Int32))] [(.int (p2.toInt16.toInt32)), (.ref w_LIST_OFFSETS)]))
      obtain ⟨cq15, kq15, q15a, q15b, q15c⟩ := isOf hZ e0 (Exa.ext O0.2 E_LIST_OFFSETS)
      obtain ⟨_, _, ⟨T15, L15, k15, n15⟩, -, X15, ⟨Lc15, hQ15, l15, y15, z15⟩, st15⟩ := X0.virtualBack hx (y := (⟨"com/example/loose_grip/loosegrip/wire/ApiKey", "supports", "(S)Z"⟩ : MethodName)) (z := (⟨"com/example/loose_grip/loosegrip/wire/ApiKey", "supports", "(S)Z"⟩ : MethodName)) hown (mvT hZ (hw _ (List.mem_of_getElem? (i := 32) rfl))) (mvT hZ (hw _ (List.mem_of_getElem? (i := 33) rfl))) (notFace_of_selects (args := #[]) (mvT hZ (hw _ (List.mem_of_getElem? (i := 35) rfl)))) (mvT hZ (hw _ (List.mem_of_getElem? (i := 35) rfl))) (mvT hZ (hw _ (List.mem_of_getElem? (i := 34) rfl))) (by decide) (backOf (W := 0) (rm_sup_lt l Z a0 hw [] w_LIST_OFFSETS (p2.toInt16.toInt32) (0 : Int32) h0 n0 Z0 O0 F_LIST_OFFSETS_minVersion hc245_13) hZ (hw _ (List.mem_of_getElem? (i := 36) rfl)) (hw _ (List.mem_of_getElem? (i := 3) rfl)) (by decide) (by decide)) q15a q15c (g := (mkF m 279 #[.val (.int p1), .val (.int p2), .val (.ref bK), .val (.ref bL), .val (.ref bH), .val (.int (1 : Int32)), .val (.int (p2.toInt16.toInt32)), .val (.int (p2.toInt16.toInt32)), .val (.int (0 : Int32))] [(.int (p2.toInt16.toInt32)), (.ref w_LIST_OFFSETS)])) rfl (by rw [hml]; rfl) (Steps.refl _) (argsL := [(.int (p2.toInt16.toInt32))]) (rest := []) (lenOf own_pd0 rfl) rfl (by show 2 * 0 + _ ≤ _; exact Nat.le_of_eq rfl) (hb hby at_279) (fun _ _ => ⟨rfl, e0, (by decide : 3 + 0 ≤ _), (by decide : 39 + 0 ≤ _)⟩)
      dsimp only [Pt.U, Pt.locs, Pt.cells, Pt.slots] at X15 l15 y15 z15 st15 hQ15
      subst l15 y15 z15
      obtain ⟨rfl, Nq15, eq15⟩ := hQ15
      have N15 := Fr.app N0 Nq15
      refine own_tr st15 ?_
      show own_G p.tables e below _ (T15.setTop (mkF m 282 #[.val (.int p1), .val (.int p2), .val (.ref bK), .val (.ref bL), .val (.ref bH), .val (.int (1 : Int32)), .val (.int (p2.toInt16.toInt32)), .val (.int (p2.toInt16.toInt32)), .val (.int (0 : Int32))] [(.int (0 : Int32))]))
      refine own_st (fun _ kS => XS.iload X15.here hx rfl (hb hby at_282) rfl kS) ?_
      show own_G p.tables e below _ (T15.setTop (mkF m 284 #[.val (.int p1), .val (.int p2), .val (.ref bK), .val (.ref bL), .val (.ref bH), .val (.int (1 : Int32)), .val (.int (p2.toInt16.toInt32)), .val (.int (p2.toInt16.toInt32)), .val (.int (0 : Int32))] [(.int (0 : Int32)), (.int (0 : Int32))]))
      refine own_st (fun _ kS => XS.icmpNo X15.here hx rfl (hb hby at_284) rfl (teq (by decide : (0 : Int32) = (0 : Int32))).2 kS) ?_
      show own_G p.tables e below _ (T15.setTop (mkF m 287 #[.val (.int p1), .val (.int p2), .val (.ref bK), .val (.ref bL), .val (.ref bH), .val (.int (1 : Int32)), .val (.int (p2.toInt16.toInt32)), .val (.int (p2.toInt16.toInt32)), .val (.int (0 : Int32))] []))
      refine own_st (fun _ kS => XS.iconst X15.here hx rfl (hb hby at_287) kS) ?_
      show own_G p.tables e below _ (T15.setTop (mkF m 288 #[.val (.int p1), .val (.int p2), .val (.ref bK), .val (.ref bL), .val (.ref bH), .val (.int (1 : Int32)), .val (.int (p2.toInt16.toInt32)), .val (.int (p2.toInt16.toInt32)), .val (.int (0 : Int32))] [(.int (1 : Int32))]))
      refine own_st (fun _ kS => XS.goto X15.here hx rfl (pc0 := 288) (pc' := 292) rfl (hb hby at_288) (by decide) (by decide) kS) ?_
      show own_G p.tables e below _ (T15.setTop (mkF m 292 #[.val (.int p1), .val (.int p2), .val (.ref bK), .val (.ref bL), .val (.ref bH), .val (.int (1 : Int32)), .val (.int (p2.toInt16.toInt32)), .val (.int (p2.toInt16.toInt32)), .val (.int (0 : Int32))] [(.int (1 : Int32))]))
      exact own_retN X15 hx hlk (t := .boolean) hret (by simp) (hb hby at_292) (by decide) (by decide) (v' := (1 : Int32)) rfl (by rw [eq15]; exact ⟨rfl, N15⟩)
    · skip
      refine own_st (fun _ kS => XS.icmpYes X0.here hx rfl (pc0 := 245) (pc' := 254) rfl (hb hby at_245) rfl (flt hc245_13).2.1 (by decide) (by decide) kS) ?_
      show own_G p.tables e below _ (T0.setTop (mkF m 254 #[.val (.int p1), .val (.int p2), .val (.ref bK), .val (.ref bL), .val (.ref bH), .val (.int (1 : Int32)), .val (.int (p2.toInt16.toInt32)), .val (.int (p2.toInt16.toInt32)), .unset] []))
      refine own_st (fun _ kS => XS.iload X0.here hx rfl (hb hby at_254) rfl kS) ?_
      show own_G p.tables e below _ (T0.setTop (mkF m 256 #[.val (.int p1), .val (.int p2), .val (.ref bK), .val (.ref bL), .val (.ref bH), .val (.int (1 : Int32)), .val (.int (p2.toInt16.toInt32)), .val (.int (p2.toInt16.toInt32)), .unset] [(.int (p2.toInt16.toInt32))]))
      refine own_st (fun _ kS => XS.aload X0.here hx rfl (hb hby at_256) rfl rfl kS) ?_
      show own_G p.tables e below _ (T0.setTop (mkF m 258 #[.val (.int p1), .val (.int p2), .val (.ref bK), .val (.ref bL), .val (.ref bH), .val (.int (1 : Int32)), .val (.int (p2.toInt16.toInt32)), .val (.int (p2.toInt16.toInt32)), .unset] [(.ref bH), (.int (p2.toInt16.toInt32))]))
      refine own_st (fun _ kS => XS.iload X0.here hx rfl (hb hby at_258) rfl kS) ?_
      show own_G p.tables e below _ (T0.setTop (mkF m 260 #[.val (.int p1), .val (.int p2), .val (.ref bK), .val (.ref bL), .val (.ref bH), .val (.int (1 : Int32)), .val (.int (p2.toInt16.toInt32)), .val (.int (p2.toInt16.toInt32)), .unset] [(.int (1 : Int32)), (.ref bH), (.int (p2.toInt16.toInt32))]))
      obtain ⟨cl16, Ar16, qa16, qs16, qn16, qh16, qg16⟩ := id R_H
      refine own_st (fun _ kS => X0.iaload hx (j := (1 : Int32)) (v := (.int (5 : Int32))) (by rw [e0]; exact Ar16.1) (State.isArrayOf_alike hZ.alike Ar16.2.1) Ar16.2.2 (inb_of qs16 ⟨by decide, by decide⟩) (qh16.at (inb_of qs16 ⟨by decide, by decide⟩) rfl) (g := (mkF m 260 #[.val (.int p1), .val (.int p2), .val (.ref bK), .val (.ref bL), .val (.ref bH), .val (.int (1 : Int32)), .val (.int (p2.toInt16.toInt32)), .val (.int (p2.toInt16.toInt32)), .unset] [(.int (1 : Int32)), (.ref bH), (.int (p2.toInt16.toInt32))])) rfl rfl (hb hby at_260) _ kS) ?_
      show own_G p.tables e below _ (T0.setTop (mkF m 261 #[.val (.int p1), .val (.int p2), .val (.ref bK), .val (.ref bL), .val (.ref bH), .val (.int (1 : Int32)), .val (.int (p2.toInt16.toInt32)), .val (.int (p2.toInt16.toInt32)), .unset] [(.int (5 : Int32)), (.int (p2.toInt16.toInt32))]))
      by_cases hc261_17 : (5 : Int32) < (p2.toInt16.toInt32)
      · skip
        refine own_st (fun _ kS => XS.icmpNo X0.here hx rfl (hb hby at_261) rfl (tlt hc261_17).2.2.2 kS) ?_
        show own_G p.tables e below _ (T0.setTop (mkF m 264 #[.val (.int p1), .val (.int p2), .val (.ref bK), .val (.ref bL), .val (.ref bH), .val (.int (1 : Int32)), .val (.int (p2.toInt16.toInt32)), .val (.int (p2.toInt16.toInt32)), .unset] []))
        refine own_st (fun _ kS => XS.iconst X0.here hx rfl (hb hby at_264) kS) ?_
        show own_G p.tables e below _ (T0.setTop (mkF m 265 #[.val (.int p1), .val (.int p2), .val (.ref bK), .val (.ref bL), .val (.ref bH), .val (.int (1 : Int32)), .val (.int (p2.toInt16.toInt32)), .val (.int (p2.toInt16.toInt32)), .unset] [(.int (0 : Int32))]))
        refine own_st (fun _ kS => XS.istore X0.here hx rfl (hb hby at_265) rfl (l' := #[.val (.int p1), .val (.int p2), .val (.ref bK), .val (.ref bL), .val (.ref bH), .val (.int (1 : Int32)), .val (.int (p2.toInt16.toInt32)), .val (.int (p2.toInt16.toInt32)), .val (.int (0 : Int32))]) rfl kS) ?_
        show own_G p.tables e below _ (T0.setTop (mkF m 267 #[.val (.int p1), .val (.int p2), .val (.ref bK), .val (.ref bL), .val (.ref bH), .val (.int (1 : Int32)), .val (.int (p2.toInt16.toInt32)), .val (.int (p2.toInt16.toInt32)), .val (.int (0 : Int32))] []))
        refine own_st (fun _ kS => XS.goto X0.here hx rfl (pc0 := 267) (pc' := 273) rfl (hb hby at_267) (by decide) (by decide) kS) ?_
        show own_G p.tables e below _ (T0.setTop (mkF m 273 #[.val (.int p1), .val (.int p2), .val (.ref bK), .val (.ref bL), .val (.ref bH), .val (.int (1 : Int32)), .val (.int (p2.toInt16.toInt32)), .val (.int (p2.toInt16.toInt32)), .val (.int (0 : Int32))] []))
        refine own_st (fun _ kS => XS.aloadN X0.here hx rfl (hb hby at_273) rfl rfl kS) ?_
        show own_G p.tables e below _ (T0.setTop (mkF m 274 #[.val (.int p1), .val (.int p2), .val (.ref bK), .val (.ref bL), .val (.ref bH), .val (.int (1 : Int32)), .val (.int (p2.toInt16.toInt32)), .val (.int (p2.toInt16.toInt32)), .val (.int (0 : Int32))] [(.ref bK)]))
        refine own_st (fun _ kS => XS.iload X0.here hx rfl (hb hby at_274) rfl kS) ?_
        show own_G p.tables e below _ (T0.setTop (mkF m 276 #[.val (.int p1), .val (.int p2), .val (.ref bK), .val (.ref bL), .val (.ref bH), .val (.int (1 : Int32)), .val (.int (p2.toInt16.toInt32)), .val (.int (p2.toInt16.toInt32)), .val (.int (0 : Int32))] [(.int (1 : Int32)), (.ref bK)]))
        obtain ⟨cl18, Ar18, qa18, qs18, qn18, qh18, qg18⟩ := id R_K
        refine own_st (fun _ kS => X0.aaload hx (j := (1 : Int32)) (v := (.ref w_LIST_OFFSETS)) (by rw [e0]; exact Ar18.1) (State.isArrayOf_alike hZ.alike Ar18.2.1) rfl Ar18.2.2 (inb_of qs18 ⟨by decide, by decide⟩) (qh18.at (inb_of qs18 ⟨by decide, by decide⟩) rfl) (g := (mkF m 276 #[.val (.int p1), .val (.int p2), .val (.ref bK), .val (.ref bL), .val (.ref bH), .val (.int (1 : Int32)), .val (.int (p2.toInt16.toInt32)), .val (.int (p2.toInt16.toInt32)), .val (.int (0 : Int32))] [(.int (1 : Int32)), (.ref bK)])) rfl rfl (hb hby at_276) _ kS) ?_
        show own_G p.tables e below _ (T0.setTop (mkF m 277 #[.val (.int p1), .val (.int p2), .val (.ref bK), .val (.ref bL), .val (.ref bH), .val (.int (1 : Int32)), .val (.int (p2.toInt16.toInt32)), .val (.int (p2.toInt16.toInt32)), .val (.int (0 : Int32))] [(.ref w_LIST_OFFSETS)]))
        refine own_st (fun _ kS => XS.iload X0.here hx rfl (hb hby at_277) rfl kS) ?_
        show own_G p.tables e below _ (T0.setTop (mkF m 279 #[.val (.int p1), .val (.int p2), .val (.ref bK), .val (.ref bL), .val (.ref bH), .val (.int (1 : Int32)), .val (.int (p2.toInt16.toInt32)), .val (.int (p2.toInt16.toInt32)), .val (.int (0 : Int32))] [(.int (p2.toInt16.toInt32)), (.ref w_LIST_OFFSETS)]))
        obtain ⟨cq19, kq19, q19a, q19b, q19c⟩ := isOf hZ e0 (Exa.ext O0.2 E_LIST_OFFSETS)
        obtain ⟨_, _, ⟨T19, L19, k19, n19⟩, -, X19, ⟨Lc19, hQ19, l19, y19, z19⟩, st19⟩ := X0.virtualBack hx (y := (⟨"com/example/loose_grip/loosegrip/wire/ApiKey", "supports", "(S)Z"⟩ : MethodName)) (z := (⟨"com/example/loose_grip/loosegrip/wire/ApiKey", "supports", "(S)Z"⟩ : MethodName)) hown (mvT hZ (hw _ (List.mem_of_getElem? (i := 32) rfl))) (mvT hZ (hw _ (List.mem_of_getElem? (i := 33) rfl))) (notFace_of_selects (args := #[]) (mvT hZ (hw _ (List.mem_of_getElem? (i := 35) rfl)))) (mvT hZ (hw _ (List.mem_of_getElem? (i := 35) rfl))) (mvT hZ (hw _ (List.mem_of_getElem? (i := 34) rfl))) (by decide) (backOf (W := 0) (rm_sup_gt l Z a0 hw [] w_LIST_OFFSETS (p2.toInt16.toInt32) (0 : Int32) (5 : Int32) h0 n0 Z0 O0 F_LIST_OFFSETS_minVersion F_LIST_OFFSETS_maxVersion hc245_13 hc261_17) hZ (hw _ (List.mem_of_getElem? (i := 36) rfl)) (hw _ (List.mem_of_getElem? (i := 3) rfl)) (by decide) (by decide)) q19a q19c (g := (mkF m 279 #[.val (.int p1), .val (.int p2), .val (.ref bK), .val (.ref bL), .val (.ref bH), .val (.int (1 : Int32)), .val (.int (p2.toInt16.toInt32)), .val (.int (p2.toInt16.toInt32)), .val (.int (0 : Int32))] [(.int (p2.toInt16.toInt32)), (.ref w_LIST_OFFSETS)])) rfl (by rw [hml]; rfl) (Steps.refl _) (argsL := [(.int (p2.toInt16.toInt32))]) (rest := []) (lenOf own_pd0 rfl) rfl (by show 2 * 0 + _ ≤ _; exact Nat.le_of_eq rfl) (hb hby at_279) (fun _ _ => ⟨rfl, e0, (by decide : 3 + 0 ≤ _), (by decide : 39 + 0 ≤ _)⟩)
        dsimp only [Pt.U, Pt.locs, Pt.cells, Pt.slots] at X19 l19 y19 z19 st19 hQ19
        subst l19 y19 z19
        obtain ⟨rfl, Nq19, eq19⟩ := hQ19
        have N19 := Fr.app N0 Nq19
        refine own_tr st19 ?_
        show own_G p.tables e below _ (T19.setTop (mkF m 282 #[.val (.int p1), .val (.int p2), .val (.ref bK), .val (.ref bL), .val (.ref bH), .val (.int (1 : Int32)), .val (.int (p2.toInt16.toInt32)), .val (.int (p2.toInt16.toInt32)), .val (.int (0 : Int32))] [(.int (0 : Int32))]))
        refine own_st (fun _ kS => XS.iload X19.here hx rfl (hb hby at_282) rfl kS) ?_
        show own_G p.tables e below _ (T19.setTop (mkF m 284 #[.val (.int p1), .val (.int p2), .val (.ref bK), .val (.ref bL), .val (.ref bH), .val (.int (1 : Int32)), .val (.int (p2.toInt16.toInt32)), .val (.int (p2.toInt16.toInt32)), .val (.int (0 : Int32))] [(.int (0 : Int32)), (.int (0 : Int32))]))
        refine own_st (fun _ kS => XS.icmpNo X19.here hx rfl (hb hby at_284) rfl (teq (by decide : (0 : Int32) = (0 : Int32))).2 kS) ?_
        show own_G p.tables e below _ (T19.setTop (mkF m 287 #[.val (.int p1), .val (.int p2), .val (.ref bK), .val (.ref bL), .val (.ref bH), .val (.int (1 : Int32)), .val (.int (p2.toInt16.toInt32)), .val (.int (p2.toInt16.toInt32)), .val (.int (0 : Int32))] []))
        refine own_st (fun _ kS => XS.iconst X19.here hx rfl (hb hby at_287) kS) ?_
        show own_G p.tables e below _ (T19.setTop (mkF m 288 #[.val (.int p1), .val (.int p2), .val (.ref bK), .val (.ref bL), .val (.ref bH), .val (.int (1 : Int32)), .val (.int (p2.toInt16.toInt32)), .val (.int (p2.toInt16.toInt32)), .val (.int (0 : Int32))] [(.int (1 : Int32))]))
        refine own_st (fun _ kS => XS.goto X19.here hx rfl (pc0 := 288) (pc' := 292) rfl (hb hby at_288) (by decide) (by decide) kS) ?_
        show own_G p.tables e below _ (T19.setTop (mkF m 292 #[.val (.int p1), .val (.int p2), .val (.ref bK), .val (.ref bL), .val (.ref bH), .val (.int (1 : Int32)), .val (.int (p2.toInt16.toInt32)), .val (.int (p2.toInt16.toInt32)), .val (.int (0 : Int32))] [(.int (1 : Int32))]))
        exact own_retN X19 hx hlk (t := .boolean) hret (by simp) (hb hby at_292) (by decide) (by decide) (v' := (1 : Int32)) rfl (by rw [eq19]; exact ⟨rfl, N19⟩)
      · skip
        refine own_st (fun _ kS => XS.icmpYes X0.here hx rfl (pc0 := 261) (pc' := 270) rfl (hb hby at_261) rfl (flt hc261_17).2.2.2 (by decide) (by decide) kS) ?_
        show own_G p.tables e below _ (T0.setTop (mkF m 270 #[.val (.int p1), .val (.int p2), .val (.ref bK), .val (.ref bL), .val (.ref bH), .val (.int (1 : Int32)), .val (.int (p2.toInt16.toInt32)), .val (.int (p2.toInt16.toInt32)), .unset] []))
        refine own_st (fun _ kS => XS.iconst X0.here hx rfl (hb hby at_270) kS) ?_
        show own_G p.tables e below _ (T0.setTop (mkF m 271 #[.val (.int p1), .val (.int p2), .val (.ref bK), .val (.ref bL), .val (.ref bH), .val (.int (1 : Int32)), .val (.int (p2.toInt16.toInt32)), .val (.int (p2.toInt16.toInt32)), .unset] [(.int (1 : Int32))]))
        refine own_st (fun _ kS => XS.istore X0.here hx rfl (hb hby at_271) rfl (l' := #[.val (.int p1), .val (.int p2), .val (.ref bK), .val (.ref bL), .val (.ref bH), .val (.int (1 : Int32)), .val (.int (p2.toInt16.toInt32)), .val (.int (p2.toInt16.toInt32)), .val (.int (1 : Int32))]) rfl kS) ?_
        show own_G p.tables e below _ (T0.setTop (mkF m 273 #[.val (.int p1), .val (.int p2), .val (.ref bK), .val (.ref bL), .val (.ref bH), .val (.int (1 : Int32)), .val (.int (p2.toInt16.toInt32)), .val (.int (p2.toInt16.toInt32)), .val (.int (1 : Int32))] []))
        refine own_st (fun _ kS => XS.aloadN X0.here hx rfl (hb hby at_273) rfl rfl kS) ?_
        show own_G p.tables e below _ (T0.setTop (mkF m 274 #[.val (.int p1), .val (.int p2), .val (.ref bK), .val (.ref bL), .val (.ref bH), .val (.int (1 : Int32)), .val (.int (p2.toInt16.toInt32)), .val (.int (p2.toInt16.toInt32)), .val (.int (1 : Int32))] [(.ref bK)]))
        refine own_st (fun _ kS => XS.iload X0.here hx rfl (hb hby at_274) rfl kS) ?_
        show own_G p.tables e below _ (T0.setTop (mkF m 276 #[.val (.int p1), .val (.int p2), .val (.ref bK), .val (.ref bL), .val (.ref bH), .val (.int (1 : Int32)), .val (.int (p2.toInt16.toInt32)), .val (.int (p2.toInt16.toInt32)), .val (.int (1 : Int32))] [(.int (1 : Int32)), (.ref bK)]))
        obtain ⟨cl20, Ar20, qa20, qs20, qn20, qh20, qg20⟩ := id R_K
        refine own_st (fun _ kS => X0.aaload hx (j := (1 : Int32)) (v := (.ref w_LIST_OFFSETS)) (by rw [e0]; exact Ar20.1) (State.isArrayOf_alike hZ.alike Ar20.2.1) rfl Ar20.2.2 (inb_of qs20 ⟨by decide, by decide⟩) (qh20.at (inb_of qs20 ⟨by decide, by decide⟩) rfl) (g := (mkF m 276 #[.val (.int p1), .val (.int p2), .val (.ref bK), .val (.ref bL), .val (.ref bH), .val (.int (1 : Int32)), .val (.int (p2.toInt16.toInt32)), .val (.int (p2.toInt16.toInt32)), .val (.int (1 : Int32))] [(.int (1 : Int32)), (.ref bK)])) rfl rfl (hb hby at_276) _ kS) ?_
        show own_G p.tables e below _ (T0.setTop (mkF m 277 #[.val (.int p1), .val (.int p2), .val (.ref bK), .val (.ref bL), .val (.ref bH), .val (.int (1 : Int32)), .val (.int (p2.toInt16.toInt32)), .val (.int (p2.toInt16.toInt32)), .val (.int (1 : Int32))] [(.ref w_LIST_OFFSETS)]))
        refine own_st (fun _ kS => XS.iload X0.here hx rfl (hb hby at_277) rfl kS) ?_
        show own_G p.tables e below _ (T0.setTop (mkF m 279 #[.val (.int p1), .val (.int p2), .val (.ref bK), .val (.ref bL), .val (.ref bH), .val (.int (1 : Int32)), .val (.int (p2.toInt16.toInt32)), .val (.int (p2.toInt16.toInt32)), .val (.int (1 : Int32))] [(.int (p2.toInt16.toInt32)), (.ref w_LIST_OFFSETS)]))
        obtain ⟨cq21, kq21, q21a, q21b, q21c⟩ := isOf hZ e0 (Exa.ext O0.2 E_LIST_OFFSETS)
        obtain ⟨_, _, ⟨T21, L21, k21, n21⟩, -, X21, ⟨Lc21, hQ21, l21, y21, z21⟩, st21⟩ := X0.virtualBack hx (y := (⟨"com/example/loose_grip/loosegrip/wire/ApiKey", "supports", "(S)Z"⟩ : MethodName)) (z := (⟨"com/example/loose_grip/loosegrip/wire/ApiKey", "supports", "(S)Z"⟩ : MethodName)) hown (mvT hZ (hw _ (List.mem_of_getElem? (i := 32) rfl))) (mvT hZ (hw _ (List.mem_of_getElem? (i := 33) rfl))) (notFace_of_selects (args := #[]) (mvT hZ (hw _ (List.mem_of_getElem? (i := 35) rfl)))) (mvT hZ (hw _ (List.mem_of_getElem? (i := 35) rfl))) (mvT hZ (hw _ (List.mem_of_getElem? (i := 34) rfl))) (by decide) (backOf (W := 0) (rm_sup_in l Z a0 hw [] w_LIST_OFFSETS (p2.toInt16.toInt32) (0 : Int32) (5 : Int32) h0 n0 Z0 O0 F_LIST_OFFSETS_minVersion F_LIST_OFFSETS_maxVersion hc245_13 hc261_17) hZ (hw _ (List.mem_of_getElem? (i := 36) rfl)) (hw _ (List.mem_of_getElem? (i := 3) rfl)) (by decide) (by decide)) q21a q21c (g := (mkF m 279 #[.val (.int p1), .val (.int p2), .val (.ref bK), .val (.ref bL), .val (.ref bH), .val (.int (1 : Int32)), .val (.int (p2.toInt16.toInt32)), .val (.int (p2.toInt16.toInt32)), .val (.int (1 : Int32))] [(.int (p2.toInt16.toInt32)), (.ref w_LIST_OFFSETS)])) rfl (by rw [hml]; rfl) (Steps.refl _) (argsL := [(.int (p2.toInt16.toInt32))]) (rest := []) (lenOf own_pd0 rfl) rfl (by show 2 * 0 + _ ≤ _; exact Nat.le_of_eq rfl) (hb hby at_279) (fun _ _ => ⟨rfl, e0, (by decide : 3 + 0 ≤ _), (by decide : 39 + 0 ≤ _)⟩)
        dsimp only [Pt.U, Pt.locs, Pt.cells, Pt.slots] at X21 l21 y21 z21 st21 hQ21
        subst l21 y21 z21
        obtain ⟨rfl, Nq21, eq21⟩ := hQ21
        have N21 := Fr.app N0 Nq21
        refine own_tr st21 ?_
        show own_G p.tables e below _ (T21.setTop (mkF m 282 #[.val (.int p1), .val (.int p2), .val (.ref bK), .val (.ref bL), .val (.ref bH), .val (.int (1 : Int32)), .val (.int (p2.toInt16.toInt32)), .val (.int (p2.toInt16.toInt32)), .val (.int (1 : Int32))] [(.int (1 : Int32))]))
        refine own_st (fun _ kS => XS.iload X21.here hx rfl (hb hby at_282) rfl kS) ?_
        show own_G p.tables e below _ (T21.setTop (mkF m 284 #[.val (.int p1), .val (.int p2), .val (.ref bK), .val (.ref bL), .val (.ref bH), .val (.int (1 : Int32)), .val (.int (p2.toInt16.toInt32)), .val (.int (p2.toInt16.toInt32)), .val (.int (1 : Int32))] [(.int (1 : Int32)), (.int (1 : Int32))]))
        refine own_st (fun _ kS => XS.icmpNo X21.here hx rfl (hb hby at_284) rfl (teq (by decide : (1 : Int32) = (1 : Int32))).2 kS) ?_
        show own_G p.tables e below _ (T21.setTop (mkF m 287 #[.val (.int p1), .val (.int p2), .val (.ref bK), .val (.ref bL), .val (.ref bH), .val (.int (1 : Int32)), .val (.int (p2.toInt16.toInt32)), .val (.int (p2.toInt16.toInt32)), .val (.int (1 : Int32))] []))
        refine own_st (fun _ kS => XS.iconst X21.here hx rfl (hb hby at_287) kS) ?_
        show own_G p.tables e below _ (T21.setTop (mkF m 288 #[.val (.int p1), .val (.int p2), .val (.ref bK), .val (.ref bL), .val (.ref bH), .val (.int (1 : Int32)), .val (.int (p2.toInt16.toInt32)), .val (.int (p2.toInt16.toInt32)), .val (.int (1 : Int32))] [(.int (1 : Int32))]))
        refine own_st (fun _ kS => XS.goto X21.here hx rfl (pc0 := 288) (pc' := 292) rfl (hb hby at_288) (by decide) (by decide) kS) ?_
        show own_G p.tables e below _ (T21.setTop (mkF m 292 #[.val (.int p1), .val (.int p2), .val (.ref bK), .val (.ref bL), .val (.ref bH), .val (.int (1 : Int32)), .val (.int (p2.toInt16.toInt32)), .val (.int (p2.toInt16.toInt32)), .val (.int (1 : Int32))] [(.int (1 : Int32))]))
        exact own_retN X21 hx hlk (t := .boolean) hret (by simp) (hb hby at_292) (by decide) (by decide) (v' := (1 : Int32)) rfl (by rw [eq21]; exact ⟨rfl, N21⟩)
  · rw [hk1]
    show own_G p.tables e below _ (T0.setTop (mkF m 229 #[.val (.int p1), .val (.int p2), .val (.ref bK), .val (.ref bL), .val (.ref bH), .unset, .unset, .unset, .unset] [(.int (2 : Int32))]))
    refine own_st (fun _ kS => XS.istore X0.here hx rfl (hb hby at_229) rfl (l' := #[.val (.int p1), .val (.int p2), .val (.ref bK), .val (.ref bL), .val (.ref bH), .val (.int (2 : Int32)), .unset, .unset, .unset]) rfl kS) ?_
    show own_G p.tables e below _ (T0.setTop (mkF m 231 #[.val (.int p1), .val (.int p2), .val (.ref bK), .val (.ref bL), .val (.ref bH), .val (.int (2 : Int32)), .unset, .unset, .unset] []))
    refine own_st (fun _ kS => XS.iloadN X0.here hx rfl (hb hby at_231) rfl kS) ?_
    show own_G p.tables e below _ (T0.setTop (mkF m 232 #[.val (.int p1), .val (.int p2), .val (.ref bK), .val (.ref bL), .val (.ref bH), .val (.int (2 : Int32)), .unset, .unset, .unset] [(.int p2)]))
    refine own_st (fun _ kS => XT.i2s X0.here hx rfl (hb hby at_232) rfl kS) ?_
    show own_G p.tables e below _ (T0.setTop (mkF m 233 #[.val (.int p1), .val (.int p2), .val (.ref bK), .val (.ref bL), .val (.ref bH), .val (.int (2 : Int32)), .unset, .unset, .unset] [(.int (p2.toInt16.toInt32))]))
    refine own_st (fun _ kS => XS.istore X0.here hx rfl (hb hby at_233) rfl (l' := #[.val (.int p1), .val (.int p2), .val (.ref bK), .val (.ref bL), .val (.ref bH), .val (.int (2 : Int32)), .val (.int (p2.toInt16.toInt32)), .unset, .unset]) rfl kS) ?_
    show own_G p.tables e below _ (T0.setTop (mkF m 235 #[.val (.int p1), .val (.int p2), .val (.ref bK), .val (.ref bL), .val (.ref bH), .val (.int (2 : Int32)), .val (.int (p2.toInt16.toInt32)), .unset, .unset] []))
    refine own_st (fun _ kS => XS.iload X0.here hx rfl (hb hby at_235) rfl kS) ?_
    show own_G p.tables e below _ (T0.setTop (mkF m 237 #[.val (.int p1), .val (.int p2), .val (.ref bK), .val (.ref bL), .val (.ref bH), .val (.int (2 : Int32)), .val (.int (p2.toInt16.toInt32)), .unset, .unset] [(.int (p2.toInt16.toInt32))]))
    refine own_st (fun _ kS => XS.istore X0.here hx rfl (hb hby at_237) rfl (l' := #[.val (.int p1), .val (.int p2), .val (.ref bK), .val (.ref bL), .val (.ref bH), .val (.int (2 : Int32)), .val (.int (p2.toInt16.toInt32)), .val (.int (p2.toInt16.toInt32)), .unset]) rfl kS) ?_
    show own_G p.tables e below _ (T0.setTop (mkF m 239 #[.val (.int p1), .val (.int p2), .val (.ref bK), .val (.ref bL), .val (.ref bH), .val (.int (2 : Int32)), .val (.int (p2.toInt16.toInt32)), .val (.int (p2.toInt16.toInt32)), .unset] []))
    refine own_st (fun _ kS => XS.iload X0.here hx rfl (hb hby at_239) rfl kS) ?_
    show own_G p.tables e below _ (T0.setTop (mkF m 241 #[.val (.int p1), .val (.int p2), .val (.ref bK), .val (.ref bL), .val (.ref bH), .val (.int (2 : Int32)), .val (.int (p2.toInt16.toInt32)), .val (.int (p2.toInt16.toInt32)), .unset] [(.int (p2.toInt16.toInt32))]))
    refine own_st (fun _ kS => XS.aloadN X0.here hx rfl (hb hby at_241) rfl rfl kS) ?_
    show own_G p.tables e below _ (T0.setTop (mkF m 242 #[.val (.int p1), .val (.int p2), .val (.ref bK), .val (.ref bL), .val (.ref bH), .val (.int (2 : Int32)), .val (.int (p2.toInt16.toInt32)), .val (.int (p2.toInt16.toInt32)), .unset] [(.ref bL), (.int (p2.toInt16.toInt32))]))
    refine own_st (fun _ kS => XS.iload X0.here hx rfl (hb hby at_242) rfl kS) ?_
    show own_G p.tables e below _ (T0.setTop (mkF m 244 #[.val (.int p1), .val (.int p2), .val (.ref bK), .val (.ref bL), .val (.ref bH), .val (.int (2 : Int32)), .val (.int (p2.toInt16.toInt32)), .val (.int (p2.toInt16.toInt32)), .unset] [(.int (2 : Int32)), (.ref bL), (.int (p2.toInt16.toInt32))]))
    obtain ⟨cl22, Ar22, qa22, qs22, qn22, qh22, qg22⟩ := id R_L
    refine own_st (fun _ kS => X0.iaload hx (j := (2 : Int32)) (v := (.int (0 : Int32))) (by rw [e0]; exact Ar22.1) (State.isArrayOf_alike hZ.alike Ar22.2.1) Ar22.2.2 (inb_of qs22 ⟨by decide, by decide⟩) (qh22.at (inb_of qs22 ⟨by decide, by decide⟩) rfl) (g := (mkF m 244 #[.val (.int p1), .val (.int p2), .val (.ref bK), .val (.ref bL), .val (.ref bH), .val (.int (2 : Int32)), .val (.int (p2.toInt16.toInt32)), .val (.int (p2.toInt16.toInt32)), .unset] [(.int (2 : Int32)), (.ref bL), (.int (p2.toInt16.toInt32))])) rfl rfl (hb hby at_244) _ kS) ?_
    show own_G p.tables e below _ (T0.setTop (mkF m 245 #[.val (.int p1), .val (.int p2), .val (.ref bK), .val (.ref bL), .val (.ref bH), .val (.int (2 : Int32)), .val (.int (p2.toInt16.toInt32)), .val (.int (p2.toInt16.toInt32)), .unset] [(.int (0 : Int32)), (.int (p2.toInt16.toInt32))]))
    by_cases hc245_23 : (p2.toInt16.toInt32) < (0 : Int32)
    · skip
      refine own_st (fun _ kS => XS.icmpNo X0.here hx rfl (hb hby at_245) rfl (tlt hc245_23).2.1 kS) ?_
      show own_G p.tables e below _ (T0.setTop (mkF m 248 #[.val (.int p1), .val (.int p2), .val (.ref bK), .val (.ref bL), .val (.ref bH), .val (.int (2 : Int32)), .val (.int (p2.toInt16.toInt32)), .val (.int (p2.toInt16.toInt32)), .unset] []))
      refine own_st (fun _ kS => XS.iconst X0.here hx rfl (hb hby at_248) kS) ?_
      show own_G p.tables e below _ (T0.setTop (mkF m 249 #[.val (.int p1), .val (.int p2), .val (.ref bK), .val (.ref bL), .val (.ref bH), .val (.int (2 : Int32)), .val (.int (p2.toInt16.toInt32)), .val (.int (p2.toInt16.toInt32)), .unset] [(.int (0 : Int32))]))
      refine own_st (fun _ kS => XS.istore X0.here hx rfl (hb hby at_249) rfl (l' := #[.val (.int p1), .val (.int p2), .val (.ref bK), .val (.ref bL), .val (.ref bH), .val (.int (2 : Int32)), .val (.int (p2.toInt16.toInt32)), .val (.int (p2.toInt16.toInt32)), .val (.int (0 : Int32))]) rfl kS) ?_
      show own_G p.tables e below _ (T0.setTop (mkF m 251 #[.val (.int p1), .val (.int p2), .val (.ref bK), .val (.ref bL), .val (.ref bH), .val (.int (2 : Int32)), .val (.int (p2.toInt16.toInt32)), .val (.int (p2.toInt16.toInt32)), .val (.int (0 : Int32))] []))
      refine own_st (fun _ kS => XS.goto X0.here hx rfl (pc0 := 251) (pc' := 273) rfl (hb hby at_251) (by decide) (by decide) kS) ?_
      show own_G p.tables e below _ (T0.setTop (mkF m 273 #[.val (.int p1), .val (.int p2), .val (.ref bK), .val (.ref bL), .val (.ref bH), .val (.int (2 : Int32)), .val (.int (p2.toInt16.toInt32)), .val (.int (p2.toInt16.toInt32)), .val (.int (0 : Int32))] []))
      refine own_st (fun _ kS => XS.aloadN X0.here hx rfl (hb hby at_273) rfl rfl kS) ?_
      show own_G p.tables e below _ (T0.setTop (mkF m 274 #[.val (.int p1), .val (.int p2), .val (.ref bK), .val (.ref bL), .val (.ref bH), .val (.int (2 : Int32)), .val (.int (p2.toInt16.toInt32)), .val (.int (p2.toInt16.toInt32)), .val (.int (0 : Int32))] [(.ref bK)]))
      refine own_st (fun _ kS => XS.iload X0.here hx rfl (hb hby at_274) rfl kS) ?_
      show own_G p.tables e below _ (T0.setTop (mkF m 276 #[.val (.int p1), .val (.int p2), .val (.ref bK), .val (.ref bL), .val (.ref bH), .val (.int (2 : Int32)), .val (.int (p2.toInt16.toInt32)), .val (.int (p2.toInt16.toInt32)), .val (.int (0 : Int32))] [(.int (2 : Int32)), (.ref bK)]))
      obtain ⟨cl24, Ar24, qa24, qs24, qn24, qh24, qg24⟩ := id R_K
      refine own_st (fun _ kS => X0.aaload hx (j := (2 : Int32)) (v := (.ref w_METADATA)) (by rw [e0]; exact Ar24.1) (State.isArrayOf_alike hZ.alike Ar24.2.1) rfl Ar24.2.2 (inb_of qs24 ⟨by decide, by decide⟩) (qh24.at (inb_of qs24 ⟨by decide, by decide⟩) rfl) (g := (mkF m 276 #[.val (.int p1), .val (.int p2), .val (.ref bK), .val (.ref bL), .val (.ref bH), .val (.int (2 : Int32)), .val (.int (p2.toInt16.toInt32)), .val (.int (p2.toInt16.toInt32)), .val (.int (0 : Int32))] [(.int (2 : Int32)), (.ref bK)])) rfl rfl (hb hby at_276) _ kS) ?_
      show own_G p.tables e below _ (T0.setTop (mkF m 277 #[.val (.int p1), .val (.int p2), .val (.ref bK), .val (.ref bL), .val (.ref bH), .val (.int (2 : Int32)), .val (.int (p2.toInt16.toInt32)), .val (.int (p2.toInt16.toInt32)), .val (.int (0 : Int32))] [(.ref w_METADATA)]))
      refine own_st (fun _ kS => XS.iload X0.here hx rfl (hb hby at_277) rfl kS) ?_
      show own_G p.tables e below _ (T0.setTop (mkF m 279 #[.val (.int p1), .val (.int p2), .val (.ref bK), .val (.ref bL), .val (.ref bH), .val (.int (2 : Int32)), .val (.int (p2.toInt16.toInt32)), .val (.int (p2.toInt16.toInt32)), .val (.int (0 : Int32))] [(.int (p2.toInt16.toInt32)), (.ref w_METADATA)]))
      obtain ⟨cq25, kq25, q25a, q25b, q25c⟩ := isOf hZ e0 (Exa.ext O0.2 E_METADATA)
      obtain ⟨_, _, ⟨T25, L25, k25, n25⟩, -, X25, ⟨Lc25, hQ25, l25, y25, z25⟩, st25⟩ := X0.virtualBack hx (y := (⟨"com/example/loose_grip/loosegrip/wire/ApiKey", "supports", "(S)Z"⟩ : MethodName)) (z := (⟨"com/example/loose_grip/loosegrip/wire/ApiKey", "supports", "(S)Z"⟩ : MethodName)) hown (mvT hZ (hw _ (List.mem_of_getElem? (i := 32) rfl))) (mvT hZ (hw _ (List.mem_of_getElem? (i := 33) rfl))) (notFace_of_selects (args := #[]) (mvT hZ (hw _ (List.mem_of_getElem? (i := 35) rfl)))) (mvT hZ (hw _ (List.mem_of_getElem? (i := 35) rfl))) (mvT hZ (hw _ (List.mem_of_getElem? (i := 34) rfl))) (by decide) (backOf (W := 0) (rm_sup_lt l Z a0 hw [] w_METADATA (p2.toInt16.toInt32) (0 : Int32) h0 n0 Z0 O0 F_METADATA_minVersion hc245_23) hZ (hw _ (List.mem_of_getElem? (i := 36) rfl)) (hw _ (List.mem_of_getElem? (i := 3) rfl)) (by decide) (by decide)) q25a q25c (g := (mkF m 279 #[.val (.int p1), .val (.int p2), .val (.ref bK), .val (.ref bL), .val (.ref bH), .val (.int (2 : Int32)), .val (.int (p2.toInt16.toInt32)), .val (.int (p2.toInt16.toInt32)), .val (.int (0 : Int32))] [(.int (p2.toInt16.toInt32)), (.ref w_METADATA)])) rfl (by rw [hml]; rfl) (Steps.refl _) (argsL := [(.int (p2.toInt16.toInt32))]) (rest := []) (lenOf own_pd0 rfl) rfl (by show 2 * 0 + _ ≤ _; exact Nat.le_of_eq rfl) (hb hby at_279) (fun _ _ => ⟨rfl, e0, (by decide : 3 + 0 ≤ _), (by decide : 39 + 0 ≤ _)⟩)
      dsimp only [Pt.U, Pt.locs, Pt.cells, Pt.slots] at X25 l25 y25 z25 st25 hQ25
      subst l25 y25 z25
      obtain ⟨rfl, Nq25, eq25⟩ := hQ25
      have N25 := Fr.app N0 Nq25
      refine own_tr st25 ?_
      show own_G p.tables e below _ (T25.setTop (mkF m 282 #[.val (.int p1), .val (.int p2), .val (.ref bK), .val (.ref bL), .val (.ref bH), .val (.int (2 : Int32)), .val (.int (p2.toInt16.toInt32)), .val (.int (p2.toInt16.toInt32)), .val (.int (0 : Int32))] [(.int (0 : Int32))]))
      refine own_st (fun _ kS => XS.iload X25.here hx rfl (hb hby at_282) rfl kS) ?_
      show own_G p.tables e below _ (T25.setTop (mkF m 284 #[.val (.int p1), .val (.int p2), .val (.ref bK), .val (.ref bL), .val (.ref bH), .val (.int (2 : Int32)), .val (.int (p2.toInt16.toInt32)), .val (.int (p2.toInt16.toInt32)), .val (.int (0 : Int32))] [(.int (0 : Int32)), (.int (0 : Int32))]))
      refine own_st (fun _ kS => XS.icmpNo X25.here hx rfl (hb hby at_284) rfl (teq (by decide : (0 : Int32) = (0 : Int32))).2 kS) ?_
      show own_G p.tables e below _ (T25.setTop (mkF m 287 #[.val (.int p1), .val (.int p2), .val (.ref bK), .val (.ref bL), .val (.ref bH), .val (.int (2 : Int32)), .val (.int (p2.toInt16.toInt32)), .val (.int (p2.toInt16.toInt32)), .val (.int (0 : Int32))] []))
      refine own_st (fun _ kS => XS.iconst X25.here hx rfl (hb hby at_287) kS) ?_
      show own_G p.tables e below _ (T25.setTop (mkF m 288 #[.val (.int p1), .val (.int p2), .val (.ref bK), .val (.ref bL), .val (.ref bH), .val (.int (2 : Int32)), .val (.int (p2.toInt16.toInt32)), .val (.int (p2.toInt16.toInt32)), .val (.int (0 : Int32))] [(.int (1 : Int32))]))
      refine own_st (fun _ kS => XS.goto X25.here hx rfl (pc0 := 288) (pc' := 292) rfl (hb hby at_288) (by decide) (by decide) kS) ?_
      show own_G p.tables e below _ (T25.setTop (mkF m 292 #[.val (.int p1), .val (.int p2), .val (.ref bK), .val (.ref bL), .val (.ref bH), .val (.int (2 : Int32)), .val (.int (p2.toInt16.toInt32)), .val (.int (p2.toInt16.toInt32)), .val (.int (0 : Int32))] [(.int (1 : Int32))]))
      exact own_retN X25 hx hlk (t := .boolean) hret (by simp) (hb hby at_292) (by decide) (by decide) (v' := (1 : Int32)) rfl (by rw [eq25]; exact ⟨rfl, N25⟩)
    · skip
      refine own_st (fun _ kS => XS.icmpYes X0.here hx rfl (pc0 := 245) (pc' := 254) rfl (hb hby at_245) rfl (flt hc245_23).2.1 (by decide) (by decide) kS) ?_
      show own_G p.tables e below _ (T0.setTop (mkF m 254 #[.val (.int p1), .val (.int p2), .val (.ref bK), .val (.ref bL), .val (.ref bH), .val (.int (2 : Int32)), .val (.int (p2.toInt16.toInt32)), .val (.int (p2.toInt16.toInt32)), .unset] []))
      refine own_st (fun _ kS => XS.iload X0.here hx rfl (hb hby at_254) rfl kS) ?_
      show own_G p.tables e below _ (T0.setTop (mkF m 256 #[.val (.int p1), .val (.int p2), .val (.ref bK), .val (.ref bL), .val (.ref bH), .val (.int (2 : Int32)), .val (.int (p2.toInt16.toInt32)), .val (.int (p2.toInt16.toInt32)), .unset] [(.int (p2.toInt16.toInt32))]))
      refine own_st (fun _ kS => XS.aload X0.here hx rfl (hb hby at_256) rfl rfl kS) ?_
      show own_G p.tables e below _ (T0.setTop (mkF m 258 #[.val (.int p1), .val (.int p2), .val (.ref bK), .val (.ref bL), .val (.ref bH), .val (.int (2 : Int32)), .val (.int (p2.toInt16.toInt32)), .val (.int (p2.toInt16.toInt32)), .unset] [(.ref bH), (.int (p2.toInt16.toInt32))]))
      refine own_st (fun _ kS => XS.iload X0.here hx rfl (hb hby at_258) rfl kS) ?_
      show own_G p.tables e below _ (T0.setTop (mkF m 260 #[.val (.int p1), .val (.int p2), .val (.ref bK), .val (.ref bL), .val (.ref bH), .val (.int (2 : Int32)), .val (.int (p2.toInt16.toInt32)), .val (.int (p2.toInt16.toInt32)), .unset] [(.int (2 : Int32)), (.ref bH), (.int (p2.toInt16.toInt32))]))
      obtain ⟨cl26, Ar26, qa26, qs26, qn26, qh26, qg26⟩ := id R_H
      refine own_st (fun _ kS => X0.iaload hx (j := (2 : Int32)) (v := (.int (4 : Int32))) (by rw [e0]; exact Ar26.1) (State.isArrayOf_alike hZ.alike Ar26.2.1) Ar26.2.2 (inb_of qs26 ⟨by decide, by decide⟩) (qh26.at (inb_of qs26 ⟨by decide, by decide⟩) rfl) (g := (mkF m 260 #[.val (.int p1), .val (.int p2), .val (.ref bK), .val (.ref bL), .val (.ref bH), .val (.int (2 : Int32)), .val (.int (p2.toInt16.toInt32)), .val (.int (p2.toInt16.toInt32)), .unset] [(.int (2 : Int32)), (.ref bH), (.int (p2.toInt16.toInt32))])) rfl rfl (hb hby at_260) _ kS) ?_
      show own_G p.tables e below _ (T0.setTop (mkF m 261 #[.val (.int p1), .val (.int p2), .val (.ref bK), .val (.ref bL), .val (.ref bH), .val (.int (2 : Int32)), .val (.int (p2.toInt16.toInt32)), .val (.int (p2.toInt16.toInt32)), .unset] [(.int (4 : Int32)), (.int (p2.toInt16.toInt32))]))
      by_cases hc261_27 : (4 : Int32) < (p2.toInt16.toInt32)
      · skip
        refine own_st (fun _ kS => XS.icmpNo X0.here hx rfl (hb hby at_261) rfl (tlt hc261_27).2.2.2 kS) ?_
        show own_G p.tables e below _ (T0.setTop (mkF m 264 #[.val (.int p1), .val (.int p2), .val (.ref bK), .val (.ref bL), .val (.ref bH), .val (.int (2 : Int32)), .val (.int (p2.toInt16.toInt32)), .val (.int (p2.toInt16.toInt32)), .unset] []))
        refine own_st (fun _ kS => XS.iconst X0.here hx rfl (hb hby at_264) kS) ?_
        show own_G p.tables e below _ (T0.setTop (mkF m 265 #[.val (.int p1), .val (.int p2), .val (.ref bK), .val (.ref bL), .val (.ref bH), .val (.int (2 : Int32)), .val (.int (p2.toInt16.toInt32)), .val (.int (p2.toInt16.toInt32)), .unset] [(.int (0 : Int32))]))
        refine own_st (fun _ kS => XS.istore X0.here hx rfl (hb hby at_265) rfl (l' := #[.val (.int p1), .val (.int p2), .val (.ref bK), .val (.ref bL), .val (.ref bH), .val (.int (2 : Int32)), .val (.int (p2.toInt16.toInt32)), .val (.int (p2.toInt16.toInt32)), .val (.int (0 : Int32))]) rfl kS) ?_
        show own_G p.tables e below _ (T0.setTop (mkF m 267 #[.val (.int p1), .val (.int p2), .val (.ref bK), .val (.ref bL), .val (.ref bH), .val (.int (2 : Int32)), .val (.int (p2.toInt16.toInt32)), .val (.int (p2.toInt16.toInt32)), .val (.int (0 : Int32))] []))
        refine own_st (fun _ kS => XS.goto X0.here hx rfl (pc0 := 267) (pc' := 273) rfl (hb hby at_267) (by decide) (by decide) kS) ?_
        show own_G p.tables e below _ (T0.setTop (mkF m 273 #[.val (.int p1), .val (.int p2), .val (.ref bK), .val (.ref bL), .val (.ref bH), .val (.int (2 : Int32)), .val (.int (p2.toInt16.toInt32)), .val (.int (p2.toInt16.toInt32)), .val (.int (0 : Int32))] []))
        refine own_st (fun _ kS => XS.aloadN X0.here hx rfl (hb hby at_273) rfl rfl kS) ?_
        show own_G p.tables e below _ (T0.setTop (mkF m 274 #[.val (.int p1), .val (.int p2), .val (.ref bK), .val (.ref bL), .val (.ref bH), .val (.int (2 : Int32)), .val (.int (p2.toInt16.toInt32)), .val (.int (p2.toInt16.toInt32)), .val (.int (0 : Int32))] [(.ref bK)]))
        refine own_st (fun _ kS => XS.iload X0.here hx rfl (hb hby at_274) rfl kS) ?_
        show own_G p.tables e below _ (T0.setTop (mkF m 276 #[.val (.int p1), .val (.int p2), .val (.ref bK), .val (.ref bL), .val (.ref bH), .val (.int (2 : Int32)), .val (.int (p2.toInt16.toInt32)), .val (.int (p2.toInt16.toInt32)), .val (.int (0 : Int32))] [(.int (2 : Int32)), (.ref bK)]))
        obtain ⟨cl28, Ar28, qa28, qs28, qn28, qh28, qg28⟩ := id R_K
        refine own_st (fun _ kS => X0.aaload hx (j := (2 : Int32)) (v := (.ref w_METADATA)) (by rw [e0]; exact Ar28.1) (State.isArrayOf_alike hZ.alike Ar28.2.1) rfl Ar28.2.2 (inb_of qs28 ⟨by decide, by decide⟩) (qh28.at (inb_of qs28 ⟨by decide, by decide⟩) rfl) (g := (mkF m 276 #[.val (.int p1), .val (.int p2), .val (.ref bK), .val (.ref bL), .val (.ref bH), .val (.int (2 : Int32)), .val (.int (p2.toInt16.toInt32)), .val (.int (p2.toInt16.toInt32)), .val (.int (0 : Int32))] [(.int (2 : Int32)), (.ref bK)])) rfl rfl (hb hby at_276) _ kS) ?_
        show own_G p.tables e below _ (T0.setTop (mkF m 277 #[.val (.int p1), .val (.int p2), .val (.ref bK), .val (.ref bL), .val (.ref bH), .val (.int (2 : Int32)), .val (.int (p2.toInt16.toInt32)), .val (.int (p2.toInt16.toInt32)), .val (.int (0 : Int32))] [(.ref w_METADATA)]))
        refine own_st (fun _ kS => XS.iload X0.here hx rfl (hb hby at_277) rfl kS) ?_
        show own_G p.tables e below _ (T0.setTop (mkF m 279 #[.val (.int p1), .val (.int p2), .val (.ref bK), .val (.ref bL), .val (.ref bH), .val (.int (2 : Int32)), .val (.int (p2.toInt16.toInt32)), .val (.int (p2.toInt16.toInt32)), .val (.int (0 : Int32))] [(.int (p2.toInt16.toInt32)), (.ref w_METADATA)]))
        obtain ⟨cq29, kq29, q29a, q29b, q29c⟩ := isOf hZ e0 (Exa.ext O0.2 E_METADATA)
        obtain ⟨_, _, ⟨T29, L29, k29, n29⟩, -, X29, ⟨Lc29, hQ29, l29, y29, z29⟩, st29⟩ := X0.virtualBack hx (y := (⟨"com/example/loose_grip/loosegrip/wire/ApiKey", "supports", "(S)Z"⟩ : MethodName)) (z := (⟨"com/example/loose_grip/loosegrip/wire/ApiKey", "supports", "(S)Z"⟩ : MethodName)) hown (mvT hZ (hw _ (List.mem_of_getElem? (i := 32) rfl))) (mvT hZ (hw _ (List.mem_of_getElem? (i := 33) rfl))) (notFace_of_selects (args := #[]) (mvT hZ (hw _ (List.mem_of_getElem? (i := 35) rfl)))) (mvT hZ (hw _ (List.mem_of_getElem? (i := 35) rfl))) (mvT hZ (hw _ (List.mem_of_getElem? (i := 34) rfl))) (by decide) (backOf (W := 0) (rm_sup_gt l Z a0 hw [] w_METADATA (p2.toInt16.toInt32) (0 : Int32) (4 : Int32) h0 n0 Z0 O0 F_METADATA_minVersion F_METADATA_maxVersion hc245_23 hc261_27) hZ (hw _ (List.mem_of_getElem? (i := 36) rfl)) (hw _ (List.mem_of_getElem? (i := 3) rfl)) (by decide) (by decide)) q29a q29c (g := (mkF m 279 #[.val (.int p1), .val (.int p2), .val (.ref bK), .val (.ref bL), .val (.ref bH), .val (.int (2 : Int32)), .val (.int (p2.toInt16.toInt32)), .val (.int (p2.toInt16.toInt32)), .val (.int (0 : Int32))] [(.int (p2.toInt16.toInt32)), (.ref w_METADATA)])) rfl (by rw [hml]; rfl) (Steps.refl _) (argsL := [(.int (p2.toInt16.toInt32))]) (rest := []) (lenOf own_pd0 rfl) rfl (by show 2 * 0 + _ ≤ _; exact Nat.le_of_eq rfl) (hb hby at_279) (fun _ _ => ⟨rfl, e0, (by decide : 3 + 0 ≤ _), (by decide : 39 + 0 ≤ _)⟩)
        dsimp only [Pt.U, Pt.locs, Pt.cells, Pt.slots] at X29 l29 y29 z29 st29 hQ29
        subst l29 y29 z29
        obtain ⟨rfl, Nq29, eq29⟩ := hQ29
        have N29 := Fr.app N0 Nq29
        refine own_tr st29 ?_
        show own_G p.tables e below _ (T29.setTop (mkF m 282 #[.val (.int p1), .val (.int p2), .val (.ref bK), .val (.ref bL), .val (.ref bH), .val (.int (2 : Int32)), .val (.int (p2.toInt16.toInt32)), .val (.int (p2.toInt16.toInt32)), .val (.int (0 : Int32))] [(.int (0 : Int32))]))
        refine own_st (fun _ kS => XS.iload X29.here hx rfl (hb hby at_282) rfl kS) ?_
        show own_G p.tables e below _ (T29.setTop (mkF m 284 #[.val (.int p1), .val (.int p2), .val (.ref bK), .val (.ref bL), .val (.ref bH), .val (.int (2 : Int32)), .val (.int (p2.toInt16.toInt32)), .val (.int (p2.toInt16.toInt32)), .val (.int (0 : Int32))] [(.int (0 : Int32)), (.int (0 : Int32))]))
        refine own_st (fun _ kS => XS.icmpNo X29.here hx rfl (hb hby at_284) rfl (teq (by decide : (0 : Int32) = (0 : Int32))).2 kS) ?_
        show own_G p.tables e below _ (T29.setTop (mkF m 287 #[.val (.int p1), .val (.int p2), .val (.ref bK), .val (.ref bL), .val (.ref bH), .val (.int (2 : Int32)), .val (.int (p2.toInt16.toInt32)), .val (.int (p2.toInt16.toInt32)), .val (.int (0 : Int32))] []))
        refine own_st (fun _ kS => XS.iconst X29.here hx rfl (hb hby at_287) kS) ?_
        show own_G p.tables e below _ (T29.setTop (mkF m 288 #[.val (.int p1), .val (.int p2), .val (.ref bK), .val (.ref bL), .val (.ref bH), .val (.int (2 : Int32)), .val (.int (p2.toInt16.toInt32)), .val (.int (p2.toInt16.toInt32)), .val (.int (0 : Int32))] [(.int (1 : Int32))]))
        refine own_st (fun _ kS => XS.goto X29.here hx rfl (pc0 := 288) (pc' := 292) rfl (hb hby at_288) (by decide) (by decide) kS) ?_
        show own_G p.tables e below _ (T29.setTop (mkF m 292 #[.val (.int p1), .val (.int p2), .val (.ref bK), .val (.ref bL), .val (.ref bH), .val (.int (2 : Int32)), .val (.int (p2.toInt16.toInt32)), .val (.int (p2.toInt16.toInt32)), .val (.int (0 : Int32))] [(.int (1 : Int32))]))
        exact own_retN X29 hx hlk (t := .boolean) hret (by simp) (hb hby at_292) (by decide) (by decide) (v' := (1 : Int32)) rfl (by rw [eq29]; exact ⟨rfl, N29⟩)
      · skip
        refine own_st (fun _ kS => XS.icmpYes X0.here hx rfl (pc0 := 261) (pc' := 270) rfl (hb hby at_261) rfl (flt hc261_27).2.2.2 (by decide) (by decide) kS) ?_
        show own_G p.tables e below _ (T0.setTop (mkF m 270 #[.val (.int p1), .val (.int p2), .val (.ref bK), .val (.ref bL), .val (.ref bH), .val (.int (2 : Int32)), .val (.int (p2.toInt16.toInt32)), .val (.int (p2.toInt16.toInt32)), .unset] []))
        refine own_st (fun _ kS => XS.iconst X0.here hx rfl (hb hby at_270) kS) ?_
        show own_G p.tables e below _ (T0.setTop (mkF m 271 #[.val (.int p1), .val (.int p2), .val (.ref bK), .val (.ref bL), .val (.ref bH), .val (.int (2 : Int32)), .val (.int (p2.toInt16.toInt32)), .val (.int (p2.toInt16.toInt32)), .unset] [(.int (1 : Int32))]))
        refine own_st (fun _ kS => XS.istore X0.here hx rfl (hb hby at_271) rfl (l' := #[.val (.int p1), .val (.int p2), .val (.ref bK), .val (.ref bL), .val (.ref bH), .val (.int (2 : Int32)), .val (.int (p2.toInt16.toInt32)), .val (.int (p2.toInt16.toInt32)), .val (.int (1 : Int32))]) rfl kS) ?_
        show own_G p.tables e below _ (T0.setTop (mkF m 273 #[.val (.int p1), .val (.int p2), .val (.ref bK), .val (.ref bL), .val (.ref bH), .val (.int (2 : Int32)), .val (.int (p2.toInt16.toInt32)), .val (.int (p2.toInt16.toInt32)), .val (.int (1 : Int32))] []))
        refine own_st (fun _ kS => XS.aloadN X0.here hx rfl (hb hby at_273) rfl rfl kS) ?_
        show own_G p.tables e below _ (T0.setTop (mkF m 274 #[.val (.int p1), .val (.int p2), .val (.ref bK), .val (.ref bL), .val (.ref bH), .val (.int (2 : Int32)), .val (.int (p2.toInt16.toInt32)), .val (.int (p2.toInt16.toInt32)), .val (.int (1 : Int32))] [(.ref bK)]))
        refine own_st (fun _ kS => XS.iload X0.here hx rfl (hb hby at_274) rfl kS) ?_
        show own_G p.tables e below _ (T0.setTop (mkF m 276 #[.val (.int p1), .val (.int p2), .val (.ref bK), .val (.ref bL), .val (.ref bH), .val (.int (2 : Int32)), .val (.int (p2.toInt16.toInt32)), .val (.int (p2.toInt16.toInt32)), .val (.int (1 : Int32))] [(.int (2 : Int32)), (.ref bK)]))
        obtain ⟨cl30, Ar30, qa30, qs30, qn30, qh30, qg30⟩ := id R_K
        refine own_st (fun _ kS => X0.aaload hx (j := (2 : Int32)) (v := (.ref w_METADATA)) (by rw [e0]; exact Ar30.1) (State.isArrayOf_alike hZ.alike Ar30.2.1) rfl Ar30.2.2 (inb_of qs30 ⟨by decide, by decide⟩) (qh30.at (inb_of qs30 ⟨by decide, by decide⟩) rfl) (g := (mkF m 276 #[.val (.int p1), .val (.int p2), .val (.ref bK), .val (.ref bL), .val (.ref bH), .val (.int (2 : Int32)), .val (.int (p2.toInt16.toInt32)), .val (.int (p2.toInt16.toInt32)), .val (.int (1 : Int32))] [(.int (2 : Int32)), (.ref bK)])) rfl rfl (hb hby at_276) _ kS) ?_
        show own_G p.tables e below _ (T0.setTop (mkF m 277 #[.val (.int p1), .val (.int p2), .val (.ref bK), .val (.ref bL), .val (.ref bH), .val (.int (2 : Int32)), .val (.int (p2.toInt16.toInt32)), .val (.int (p2.toInt16.toInt32)), .val (.int (1 : Int32))] [(.ref w_METADATA)]))
        refine own_st (fun _ kS => XS.iload X0.here hx rfl (hb hby at_277) rfl kS) ?_
        show own_G p.tables e below _ (T0.setTop (mkF m 279 #[.val (.int p1), .val (.int p2), .val (.ref bK), .val (.ref bL), .val (.ref bH), .val (.int (2 : Int32)), .val (.int (p2.toInt16.toInt32)), .val (.int (p2.toInt16.toInt32)), .val (.int (1 : Int32))] [(.int (p2.toInt16.toInt32)), (.ref w_METADATA)]))
        obtain ⟨cq31, kq31, q31a, q31b, q31c⟩ := isOf hZ e0 (Exa.ext O0.2 E_METADATA)
        obtain ⟨_, _, ⟨T31, L31, k31, n31⟩, -, X31, ⟨Lc31, hQ31, l31, y31, z31⟩, st31⟩ := X0.virtualBack hx (y := (⟨"com/example/loose_grip/loosegrip/wire/ApiKey", "supports", "(S)Z"⟩ : MethodName)) (z := (⟨"com/example/loose_grip/loosegrip/wire/ApiKey", "supports", "(S)Z"⟩ : MethodName)) hown (mvT hZ (hw _ (List.mem_of_getElem? (i := 32) rfl))) (mvT hZ (hw _ (List.mem_of_getElem? (i := 33) rfl))) (notFace_of_selects (args := #[]) (mvT hZ (hw _ (List.mem_of_getElem? (i := 35) rfl)))) (mvT hZ (hw _ (List.mem_of_getElem? (i := 35) rfl))) (mvT hZ (hw _ (List.mem_of_getElem? (i := 34) rfl))) (by decide) (backOf (W := 0) (rm_sup_in l Z a0 hw [] w_METADATA (p2.toInt16.toInt32) (0 : Int32) (4 : Int32) h0 n0 Z0 O0 F_METADATA_minVersion F_METADATA_maxVersion hc245_23 hc261_27) hZ (hw _ (List.mem_of_getElem? (i := 36) rfl)) (hw _ (List.mem_of_getElem? (i := 3) rfl)) (by decide) (by decide)) q31a q31c (g := (mkF m 279 #[.val (.int p1), .val (.int p2), .val (.ref bK), .val (.ref bL), .val (.ref bH), .val (.int (2 : Int32)), .val (.int (p2.toInt16.toInt32)), .val (.int (p2.toInt16.toInt32)), .val (.int (1 : Int32))] [(.int (p2.toInt16.toInt32)), (.ref w_METADATA)])) rfl (by rw [hml]; rfl) (Steps.refl _) (argsL := [(.int (p2.toInt16.toInt32))]) (rest := []) (lenOf own_pd0 rfl) rfl (by show 2 * 0 + _ ≤ _; exact Nat.le_of_eq rfl) (hb hby at_279) (fun _ _ => ⟨rfl, e0, (by decide : 3 + 0 ≤ _), (by decide : 39 + 0 ≤ _)⟩)
        dsimp only [Pt.U, Pt.locs, Pt.cells, Pt.slots] at X31 l31 y31 z31 st31 hQ31
        subst l31 y31 z31
        obtain ⟨rfl, Nq31, eq31⟩ := hQ31
        have N31 := Fr.app N0 Nq31
        refine own_tr st31 ?_
        show own_G p.tables e below _ (T31.setTop (mkF m 282 #[.val (.int p1), .val (.int p2), .val (.ref bK), .val (.ref bL), .val (.ref bH), .val (.int (2 : Int32)), .val (.int (p2.toInt16.toInt32)), .val (.int (p2.toInt16.toInt32)), .val (.int (1 : Int32))] [(.int (1 : Int32))]))
        refine own_st (fun _ kS => XS.iload X31.here hx rfl (hb hby at_282) rfl kS) ?_
        show own_G p.tables e below _ (T31.setTop (mkF m 284 #[.val (.int p1), .val (.int p2), .val (.ref bK), .val (.ref bL), .val (.ref bH), .val (.int (2 : Int32)), .val (.int (p2.toInt16.toInt32)), .val (.int (p2.toInt16.toInt32)), .val (.int (1 : Int32))] [(.int (1 : Int32)), (.int (1 : Int32))]))
        refine own_st (fun _ kS => XS.icmpNo X31.here hx rfl (hb hby at_284) rfl (teq (by decide : (1 : Int32) = (1 : Int32))).2 kS) ?_
        show own_G p.tables e below _ (T31.setTop (mkF m 287 #[.val (.int p1), .val (.int p2), .val (.ref bK), .val (.ref bL), .val (.ref bH), .val (.int (2 : Int32)), .val (.int (p2.toInt16.toInt32)), .val (.int (p2.toInt16.toInt32)), .val (.int (1 : Int32))] []))
        refine own_st (fun _ kS => XS.iconst X31.here hx rfl (hb hby at_287) kS) ?_
        show own_G p.tables e below _ (T31.setTop (mkF m 288 #[.val (.int p1), .val (.int p2), .val (.ref bK), .val (.ref bL), .val (.ref bH), .val (.int (2 : Int32)), .val (.int (p2.toInt16.toInt32)), .val (.int (p2.toInt16.toInt32)), .val (.int (1 : Int32))] [(.int (1 : Int32))]))
        refine own_st (fun _ kS => XS.goto X31.here hx rfl (pc0 := 288) (pc' := 292) rfl (hb hby at_288) (by decide) (by decide) kS) ?_
        show own_G p.tables e below _ (T31.setTop (mkF m 292 #[.val (.int p1), .val (.int p2), .val (.ref bK), .val (.ref bL), .val (.ref bH), .val (.int (2 : Int32)), .val (.int (p2.toInt16.toInt32)), .val (.int (p2.toInt16.toInt32)), .val (.int (1 : Int32))] [(.int (1 : Int32))]))
        exact own_retN X31 hx hlk (t := .boolean) hret (by simp) (hb hby at_292) (by decide) (by decide) (v' := (1 : Int32)) rfl (by rw [eq31]; exact ⟨rfl, N31⟩)
  · rw [hk1]
    show own_G p.tables e below _ (T0.setTop (mkF m 229 #[.val (.int p1), .val (.int p2), .val (.ref bK), .val (.ref bL), .val (.ref bH), .unset, .unset, .unset, .unset] [(.int (3 : Int32))]))
    refine own_st (fun _ kS => XS.istore X0.here hx rfl (hb hby at_229) rfl (l' := #[.val (.int p1), .val (.int p2), .val (.ref bK), .val (.ref bL), .val (.ref bH), .val (.int (3 : Int32)), .unset, .unset, .unset]) rfl kS) ?_
    show own_G p.tables e below _ (T0.setTop (mkF m 231 #[.val (.int p1), .val (.int p2), .val (.ref bK), .val (.ref bL), .val (.ref bH), .val (.int (3 : Int32)), .unset, .unset, .unset] []))
    refine own_st (fun _ kS => XS.iloadN X0.here hx rfl (hb hby at_231) rfl kS) ?_
    show own_G p.tables e below _ (T0.setTop (mkF m 232 #[.val (.int p1), .val (.int p2), .val (.ref bK), .val (.ref bL), .val (.ref bH), .val (.int (3 : Int32)), .unset, .unset, .unset] [(.int p2)]))
    refine own_st (fun _ kS => XT.i2s X0.here hx rfl (hb hby at_232) rfl kS) ?_
    show own_G p.tables e below _ (T0.setTop (mkF m 233 #[.val (.int p1), .val (.int p2), .val (.ref bK), .val (.ref bL), .val (.ref bH), .val (.int (3 : Int32)), .unset, .unset, .unset] [(.int (p2.toInt16.toInt32))]))
    refine own_st (fun _ kS => XS.istore X0.here hx rfl (hb hby at_233) rfl (l' := #[.val (.int p1), .val (.int p2), .val (.ref bK), .val (.ref bL), .val (.ref bH), .val (.int (3 : Int32)), .val (.int (p2.toInt16.toInt32)), .unset, .unset]) rfl kS) ?_
    show own_G p.tables e below _ (T0.setTop (mkF m 235 #[.val (.int p1), .val (.int p2), .val (.ref bK), .val (.ref bL), .val (.ref bH), .val (.int (3 : Int32)), .val (.int (p2.toInt16.toInt32)), .unset, .unset] []))
    refine own_st (fun _ kS => XS.iload X0.here hx rfl (hb hby at_235) rfl kS) ?_
    show own_G p.tables e below _ (T0.setTop (mkF m 237 #[.val (.int p1), .val (.int p2), .val (.ref bK), .val (.ref bL), .val (.ref bH), .val (.int (3 : Int32)), .val (.int (p2.toInt16.toInt32)), .unset, .unset] [(.int (p2.toInt16.toInt32))]))
    refine own_st (fun _ kS => XS.istore X0.here hx rfl (hb hby at_237) rfl (l' := #[.val (.int p1), .val (.int p2), .val (.ref bK), .val (.ref bL), .val (.ref bH), .val (.int (3 : Int32)), .val (.int (p2.toInt16.toInt32)), .val (.int (p2.toInt16.toInt32)), .unset]) rfl kS) ?_
    show own_G p.tables e below _ (T0.setTop (mkF m 239 #[.val (.int p1), .val (.int p2), .val (.ref bK), .val (.ref bL), .val (.ref bH), .val (.int (3 : Int32)), .val (.int (p2.toInt16.toInt32)), .val (.int (p2.toInt16.toInt32)), .unset] []))
    refine own_st (fun _ kS => XS.iload X0.here hx rfl (hb hby at_239) rfl kS) ?_
    show own_G p.tables e below _ (T0.setTop (mkF m 241 #[.val (.int p1), .val (.int p2), .val (.ref bK), .val (.ref bL), .val (.ref bH), .val (.int (3 : Int32)), .val (.int (p2.toInt16.toInt32)), .val (.int (p2.toInt16.toInt32)), .unset] [(.int (p2.toInt16.toInt32))]))
    refine own_st (fun _ kS => XS.aloadN X0.here hx rfl (hb hby at_241) rfl rfl kS) ?_
    show own_G p.tables e below _ (T0.setTop (mkF m 242 #[.val (.int p1), .val (.int p2), .val (.ref bK), .val (.ref bL), .val (.ref bH), .val (.int (3 : Int32)), .val (.int (p2.toInt16.toInt32)), .val (.int (p2.toInt16.toInt32)), .unset] [(.ref bL), (.int (p2.toInt16.toInt32))]))
    refine own_st (fun _ kS => XS.iload X0.here hx rfl (hb hby at_242) rfl kS) ?_
    show own_G p.tables e below _ (T0.setTop (mkF m 244 #[.val (.int p1), .val (.int p2), .val (.ref bK), .val (.ref bL), .val (.ref bH), .val (.int (3 : Int32)), .val (.int (p2.toInt16.toInt32)), .val (.int (p2.toInt16.toInt32)), .unset] [(.int (3 : Int32)), (.ref bL), (.int (p2.toInt16.toInt32))]))
    obtain ⟨cl32, Ar32, qa32, qs32, qn32, qh32, qg32⟩ := id R_L
    refine own_st (fun _ kS => X0.iaload hx (j := (3 : Int32)) (v := (.int (2 : Int32))) (by rw [e0]; exact Ar32.1) (State.isArrayOf_alike hZ.alike Ar32.2.1) Ar32.2.2 (inb_of qs32 ⟨by decide, by decide⟩) (qh32.at (inb_of qs32 ⟨by decide, by decide⟩) rfl) (g := (mkF m 244 #[.val (.int p1), .val (.int p2), .val (.ref bK), .val (.ref bL), .val (.ref bH), .val (.int (3 : Int32)), .val (.int (p2.toInt16.toInt32)), .val (.int (p2.toInt16.toInt32)), .unset] [(.int (3 : Int32)), (.ref bL), (.int (p2.toInt16.toInt32))])) rfl rfl (hb hby at_244) _ kS) ?_
    show own_G p.tables e below _ (T0.setTop (mkF m 245 #[.val (.int p1), .val (.int p2), .val (.ref bK), .val (.ref bL), .val (.ref bH), .val (.int (3 : Int32)), .val (.int (p2.toInt16.toInt32)), .val (.int (p2.toInt16.toInt32)), .unset] [(.int (2 : Int32)), (.int (p2.toInt16.toInt32))]))
    by_cases hc245_33 : (p2.toInt16.toInt32) < (2 : Int32)
    · skip
      refine own_st (fun _ kS => XS.icmpNo X0.here hx rfl (hb hby at_245) rfl (tlt hc245_33).2.1 kS) ?_
      show own_G p.tables e below _ (T0.setTop (mkF m 248 #[.val (.int p1), .val (.int p2), .val (.ref bK), .val (.ref bL), .val (.ref bH), .val (.int (3 : Int32)), .val (.int (p2.toInt16.toInt32)), .val (.int (p2.toInt16.toInt32)), .unset] []))
      refine own_st (fun _ kS => XS.iconst X0.here hx rfl (hb hby at_248) kS) ?_
      show own_G p.tables e below _ (T0.setTop (mkF m 249 #[.val (.int p1), .val (.int p2), .val (.ref bK), .val (.ref bL), .val (.ref bH), .val (.int (3 : Int32)), .val (.int (p2.toInt16.toInt32)), .val (.int (p2.toInt16.toInt32)), .unset] [(.int (0 : Int32))]))
      refine own_st (fun _ kS => XS.istore X0.here hx rfl (hb hby at_249) rfl (l' := #[.val (.int p1), .val (.int p2), .val (.ref bK), .val (.ref bL), .val (.ref bH), .val (.int (3 : Int32)), .val (.int (p2.toInt16.toInt32)), .val (.int (p2.toInt16.toInt32)), .val (.int (0 : Int32))]) rfl kS) ?_
      show own_G p.tables e below _ (T0.setTop (mkF m 251 #[.val (.int p1), .val (.int p2), .val (.ref bK), .val (.ref bL), .val (.ref bH), .val (.int (3 : Int32)), .val (.int (p2.toInt16.toInt32)), .val (.int (p2.toInt16.toInt32)), .val (.int (0 : Int32))] []))
      refine own_st (fun _ kS => XS.goto X0.here hx rfl (pc0 := 251) (pc' := 273) rfl (hb hby at_251) (by decide) (by decide) kS) ?_
      show own_G p.tables e below _ (T0.setTop (mkF m 273 #[.val (.int p1), .val (.int p2), .val (.ref bK), .val (.ref bL), .val (.ref bH), .val (.int (3 : Int32)), .val (.int (p2.toInt16.toInt32)), .val (.int (p2.toInt16.toInt32)), .val (.int (0 : Int32))] []))
      refine own_st (fun _ kS => XS.aloadN X0.here hx rfl (hb hby at_273) rfl rfl kS) ?_
      show own_G p.tables e below _ (T0.setTop (mkF m 274 #[.val (.int p1), .val (.int p2), .val (.ref bK), .val (.ref bL), .val (.ref bH), .val (.int (3 : Int32)), .val (.int (p2.toInt16.toInt32)), .val (.int (p2.toInt16.toInt32)), .val (.int (0 : Int32))] [(.ref bK)]))
      refine own_st (fun _ kS => XS.iload X0.here hx rfl (hb hby at_274) rfl kS) ?_
      show own_G p.tables e below _ (T0.setTop (mkF m 276 #[.val (.int p1), .val (.int p2), .val (.ref bK), .val (.ref bL), .val (.ref bH), .val (.int (3 : Int32)), .val (.int (p2.toInt16.toInt32)), .val (.int (p2.toInt16.toInt32)), .val (.int (0 : Int32))] [(.int (3 : Int32)), (.ref bK)]))
      obtain ⟨cl34, Ar34, qa34, qs34, qn34, qh34, qg34⟩ := id R_K
      refine own_st (fun _ kS => X0.aaload hx (j := (3 : Int32)) (v := (.ref w_OFFSET_COMMIT)) (by rw [e0]; exact Ar34.1) (State.isArrayOf_alike hZ.alike Ar34.2.1) rfl Ar34.2.2 (inb_of qs34 ⟨by decide, by decide⟩) (qh34.at (inb_of qs34 ⟨by decide, by decide⟩) rfl) (g := (mkF m 276 #[.val (.int p1), .val (.int p2), .val (.ref bK), .val (.ref bL), .val (.ref bH), .val (.int (3 : Int32)), .val (.int (p2.toInt16.toInt32)), .val (.int (p2.toInt16.toInt32)), .val (.int (0 : Int32))] [(.int (3 : Int32)), (.ref bK)])) rfl rfl (hb hby at_276) _ kS) ?_
      show own_G p.tables e below _ (T0.setTop (mkF m 277 #[.val (.int p1), .val (.int p2), .val (.ref bK), .val (.ref bL), .val (.ref bH), .val (.int (3 : Int32)), .val (.int (p2.toInt16.toInt32)), .val (.int (p2.toInt16.toInt32)), .val (.int (0 : Int32))] [(.ref w_OFFSET_COMMIT)]))
      refine own_st (fun _ kS => XS.iload X0.here hx rfl (hb hby at_277) rfl kS) ?_
      show own_G p.tables e below _ (T0.setTop (mkF m 279 #[.val (.int p1), .val (.int p2), .val (.ref bK), .val (.ref bL), .val (.ref bH), .val (.int (3 : Int32)), .val (.int (p2.toInt16.toInt32)), .val (.int (p2.toInt16.toInt32)), .val (.int (0 : Int32))] [(.int (p2.toInt16.toInt32)), (.ref w_OFFSET_COMMIT)]))
      obtain ⟨cq35, kq35, q35a, q35b, q35c⟩ := isOf hZ e0 (Exa.ext O0.2 E_OFFSET_COMMIT)
      obtain ⟨_, _, ⟨T35, L35, k35, n35⟩, -, X35, ⟨Lc35, hQ35, l35, y35, z35⟩, st35⟩ := X0.virtualBack hx (y := (⟨"com/example/loose_grip/loosegrip/wire/ApiKey", "supports", "(S)Z"⟩ : MethodName)) (z := (⟨"com/example/loose_grip/loosegrip/wire/ApiKey", "supports", "(S)Z"⟩ : MethodName)) hown (mvT hZ (hw _ (List.mem_of_getElem? (i := 32) rfl))) (mvT hZ (hw _ (List.mem_of_getElem? (i := 33) rfl))) (notFace_of_selects (args := #[]) (mvT hZ (hw _ (List.mem_of_getElem? (i := 35) rfl)))) (mvT hZ (hw _ (List.mem_of_getElem? (i := 35) rfl))) (mvT hZ (hw _ (List.mem_of_getElem? (i := 34) rfl))) (by decide) (backOf (W := 0) (rm_sup_lt l Z a0 hw [] w_OFFSET_COMMIT (p2.toInt16.toInt32) (2 : Int32) h0 n0 Z0 O0 F_OFFSET_COMMIT_minVersion hc245_33) hZ (hw _ (List.mem_of_getElem? (i := 36) rfl)) (hw _ (List.mem_of_getElem? (i := 3) rfl)) (by decide) (by decide)) q35a q35c (g := (mkF m 279 #[.val (.int p1), .val (.int p2), .val (.ref bK), .val (.ref bL), .val (.ref bH), .val (.int (3 : Int32)), .val (.int (p2.toInt16.toInt32)), .val (.int (p2.toInt16.toInt32)), .val (.int (0 : Int32))] [(.int (p2.toInt16.toInt32)), (.ref w_OFFSET_COMMIT)])) rfl (by rw [hml]; rfl) (Steps.refl _) (argsL := [(.int (p2.toInt16.toInt32))]) (rest := []) (lenOf own_pd0 rfl) rfl (by show 2 * 0 + _ ≤ _; exact Nat.le_of_eq rfl) (hb hby at_279) (fun _ _ => ⟨rfl, e0, (by decide : 3 + 0 ≤ _), (by decide : 39 + 0 ≤ _)⟩)
      dsimp only [Pt.U, Pt.locs, Pt.cells, Pt.slots] at X35 l35 y35 z35 st35 hQ35
      subst l35 y35 z35
      obtain ⟨rfl, Nq35, eq35⟩ := hQ35
      have N35 := Fr.app N0 Nq35
      refine own_tr st35 ?_
      show own_G p.tables e below _ (T35.setTop (mkF m 282 #[.val (.int p1), .val (.int p2), .val (.ref bK), .val (.ref bL), .val (.ref bH), .val (.int (3 : Int32)), .val (.int (p2.toInt16.toInt32)), .val (.int (p2.toInt16.toInt32)), .val (.int (0 : Int32))] [(.int (0 : Int32))]))
      refine own_st (fun _ kS => XS.iload X35.here hx rfl (hb hby at_282) rfl kS) ?_
      show own_G p.tables e below _ (T35.setTop (mkF m 284 #[.val (.int p1), .val (.int p2), .val (.ref bK), .val (.ref bL), .val (.ref bH), .val (.int (3 : Int32)), .val (.int (p2.toInt16.toInt32)), .val (.int (p2.toInt16.toInt32)), .val (.int (0 : Int32))] [(.int (0 : Int32)), (.int (0 : Int32))]))
      refine own_st (fun _ kS => XS.icmpNo X35.here hx rfl (hb hby at_284) rfl (teq (by decide : (0 : Int32) = (0 : Int32))).2 kS) ?_
      show own_G p.tables e below _ (T35.setTop (mkF m 287 #[.val (.int p1), .val (.int p2), .val (.ref bK), .val (.ref bL), .val (.ref bH), .val (.int (3 : Int32)), .val (.int (p2.toInt16.toInt32)), .val (.int (p2.toInt16.toInt32)), .val (.int (0 : Int32))] []))
      refine own_st (fun _ kS => XS.iconst X35.here hx rfl (hb hby at_287) kS) ?_
      show own_G p.tables e below _ (T35.setTop (mkF m 288 #[.val (.int p1), .val (.int p2), .val (.ref bK), .val (.ref bL), .val (.ref bH), .val (.int (3 : Int32)), .val (.int (p2.toInt16.toInt32)), .val (.int (p2.toInt16.toInt32)), .val (.int (0 : Int32))] [(.int (1 : Int32))]))
      refine own_st (fun _ kS => XS.goto X35.here hx rfl (pc0 := 288) (pc' := 292) rfl (hb hby at_288) (by decide) (by decide) kS) ?_
      show own_G p.tables e below _ (T35.setTop (mkF m 292 #[.val (.int p1), .val (.int p2), .val (.ref bK), .val (.ref bL), .val (.ref bH), .val (.int (3 : Int32)), .val (.int (p2.toInt16.toInt32)), .val (.int (p2.toInt16.toInt32)), .val (.int (0 : Int32))] [(.int (1 : Int32))]))
      exact own_retN X35 hx hlk (t := .boolean) hret (by simp) (hb hby at_292) (by decide) (by decide) (v' := (1 : Int32)) rfl (by rw [eq35]; exact ⟨rfl, N35⟩)
    · skip
      refine own_st (fun _ kS => XS.icmpYes X0.here hx rfl (pc0 := 245) (pc' := 254) rfl (hb hby at_245) rfl (flt hc245_33).2.1 (by decide) (by decide) kS) ?_
      show own_G p.tables e below _ (T0.setTop (mkF m 254 #[.val (.int p1), .val (.int p2), .val (.ref bK), .val (.ref bL), .val (.ref bH), .val (.int (3 : Int32)), .val (.int (p2.toInt16.toInt32)), .val (.int (p2.toInt16.toInt32)), .unset] []))
      refine own_st (fun _ kS => XS.iload X0.here hx rfl (hb hby at_254) rfl kS) ?_
      show own_G p.tables e below _ (T0.setTop (mkF m 256 #[.val (.int p1), .val (.int p2), .val (.ref bK), .val (.ref bL), .val (.ref bH), .val (.int (3 : Int32)), .val (.int (p2.toInt16.toInt32)), .val (.int (p2.toInt16.toInt32)), .unset] [(.int (p2.toInt16.toInt32))]))
      refine own_st (fun _ kS => XS.aload X0.here hx rfl (hb hby at_256) rfl rfl kS) ?_
      show own_G p.tables e below _ (T0.setTop (mkF m 258 #[.val (.int p1), .val (.int p2), .val (.ref bK), .val (.ref bL), .val (.ref bH), .val (.int (3 : Int32)), .val (.int (p2.toInt16.toInt32)), .val (.int (p2.toInt16.toInt32)), .unset] [(.ref bH), (.int (p2.toInt16.toInt32))]))
      refine own_st (fun _ kS => XS.iload X0.here hx rfl (hb hby at_258) rfl kS) ?_
      show own_G p.tables e below _ (T0.setTop (mkF m 260 #[.val (.int p1), .val (.int p2), .val (.ref bK), .val (.ref bL), .val (.ref bH), .val (.int (3 : Int32)), .val (.int (p2.toInt16.toInt32)), .val (.int (p2.toInt16.toInt32)), .unset] [(.int (3 : Int32)), (.ref bH), (.int (p2.toInt16.toInt32))]))
      obtain ⟨cl36, Ar36, qa36, qs36, qn36, qh36, qg36⟩ := id R_H
      refine own_st (fun _ kS => X0.iaload hx (j := (3 : Int32)) (v := (.int (7 : Int32))) (by rw [e0]; exact Ar36.1) (State.isArrayOf_alike hZ.alike Ar36.2.1) Ar36.2.2 (inb_of qs36 ⟨by decide, by decide⟩) (qh36.at (inb_of qs36 ⟨by decide, by decide⟩) rfl) (g := (mkF m 260 #[.val (.int p1), .val (.int p2), .val (.ref bK), .val (.ref bL), .val (.ref bH), .val (.int (3 : Int32)), .val (.int (p2.toInt16.toInt32)), .val (.int (p2.toInt16.toInt32)), .unset] [(.int (3 : Int32)), (.ref bH), (.int (p2.toInt16.toInt32))])) rfl rfl (hb hby at_260) _ kS) ?_
      show own_G p.tables e below _ (T0.setTop (mkF m 261 #[.val (.int p1), .val (.int p2), .val (.ref bK), .val (.ref bL), .val (.ref bH), .val (.int (3 : Int32)), .val (.int (p2.toInt16.toInt32)), .val (.int (p2.toInt16.toInt32)), .unset] [(.int (7 : Int32)), (.int (p2.toInt16.toInt32))]))
      by_cases hc261_37 : (7 : Int32) < (p2.toInt16.toInt32)
      · skip
        refine own_st (fun _ kS => XS.icmpNo X0.here hx rfl (hb hby at_261) rfl (tlt hc261_37).2.2.2 kS) ?_
        show own_G p.tables e below _ (T0.setTop (mkF m 264 #[.val (.int p1), .val (.int p2), .val (.ref bK), .val (.ref bL), .val (.ref bH), .val (.int (3 : Int32)), .val (.int (p2.toInt16.toInt32)), .val (.int (p2.toInt16.toInt32)), .unset] []))
        refine own_st (fun _ kS => XS.iconst X0.here hx rfl (hb hby at_264) kS) ?_
        show own_G p.tables e below _ (T0.setTop (mkF m 265 #[.val (.int p1), .val (.int p2), .val (.ref bK), .val (.ref bL), .val (.ref bH), .val (.int (3 : Int32)), .val (.int (p2.toInt16.toInt32)), .val (.int (p2.toInt16.toInt32)), .unset] [(.int (0 : Int32))]))
        refine own_st (fun _ kS => XS.istore X0.here hx rfl (hb hby at_265) rfl (l' := #[.val (.int p1), .val (.int p2), .val (.ref bK), .val (.ref bL), .val (.ref bH), .val (.int (3 : Int32)), .val (.int (p2.toInt16.toInt32)), .val (.int (p2.toInt16.toInt32)), .val (.int (0 : Int32))]) rfl kS) ?_
        show own_G p.tables e below _ (T0.setTop (mkF m 267 #[.val (.int p1), .val (.int p2), .val (.ref bK), .val (.ref bL), .val (.ref bH), .val (.int (3 : Int32)), .val (.int (p2.toInt16.toInt32)), .val (.int (p2.toInt16.toInt32)), .val (.int (0 : Int32))] []))
        refine own_st (fun _ kS => XS.goto X0.here hx rfl (pc0 := 267) (pc' := 273) rfl (hb hby at_267) (by decide) (by decide) kS) ?_
        show own_G p.tables e below _ (T0.setTop (mkF m 273 #[.val (.int p1), .val (.int p2), .val (.ref bK), .val (.ref bL), .val (.ref bH), .val (.int (3 : Int32)), .val (.int (p2.toInt16.toInt32)), .val (.int (p2.toInt16.toInt32)), .val (.int (0 : Int32))] []))
        refine own_st (fun _ kS => XS.aloadN X0.here hx rfl (hb hby at_273) rfl rfl kS) ?_
        show own_G p.tables e below _ (T0.setTop (mkF m 274 #[.val (.int p1), .val (.int p2), .val (.ref bK), .val (.ref bL), .val (.ref bH), .val (.int (3 : Int32)), .val (.int (p2.toInt16.toInt32)), .val (.int (p2.toInt16.toInt32)), .val (.int (0 : Int32))] [(.ref bK)]))
        refine own_st (fun _ kS => XS.iload X0.here hx rfl (hb hby at_274) rfl kS) ?_
        show own_G p.tables e below _ (T0.setTop (mkF m 276 #[.val (.int p1), .val (.int p2), .val (.ref bK), .val (.ref bL), .val (.ref bH), .val (.int (3 : Int32)), .val (.int (p2.toInt16.toInt32)), .val (.int (p2.toInt16.toInt32)), .val (.int (0 : Int32))] [(.int (3 : Int32)), (.ref bK)]))
        obtain ⟨cl38, Ar38, qa38, qs38, qn38, qh38, qg38⟩ := id R_K
        refine own_st (fun _ kS => X0.aaload hx (j := (3 : Int32)) (v := (.ref w_OFFSET_COMMIT)) (by rw [e0]; exact Ar38.1) (State.isArrayOf_alike hZ.alike Ar38.2.1) rfl Ar38.2.2 (inb_of qs38 ⟨by decide, by decide⟩) (qh38.at (inb_of qs38 ⟨by decide, by decide⟩) rfl) (g := (mkF m 276 #[.val (.int p1), .val (.int p2), .val (.ref bK), .val (.ref bL), .val (.ref bH), .val (.int (3 : Int32)), .val (.int (p2.toInt16.toInt32)), .val (.int (p2.toInt16.toInt32)), .val (.int (0 : Int32))] [(.int (3 : Int32)), (.ref bK)])) rfl rfl (hb hby at_276) _ kS) ?_
        show own_G p.tables e below _ (T0.setTop (mkF m 277 #[.val (.int p1), .val (.int p2), .val (.ref bK), .val (.ref bL), .val (.ref bH), .val (.int (3 : Int32)), .val (.int (p2.toInt16.toInt32)), .val (.int (p2.toInt16.toInt32)), .val (.int (0 : Int32))] [(.ref w_OFFSET_COMMIT)]))
        refine own_st (fun _ kS => XS.iload X0.here hx rfl (hb hby at_277) rfl kS) ?_
        show own_G p.tables e below _ (T0.setTop (mkF m 279 #[.val (.int p1), .val (.int p2), .val (.ref bK), .val (.ref bL), .val (.ref bH), .val (.int (3 : Int32)), .val (.int (p2.toInt16.toInt32)), .val (.int (p2.toInt16.toInt32)), .val (.int (0 : Int32))] [(.int (p2.toInt16.toInt32)), (.ref w_OFFSET_COMMIT)]))
        obtain ⟨cq39, kq39, q39a, q39b, q39c⟩ := isOf hZ e0 (Exa.ext O0.2 E_OFFSET_COMMIT)
        obtain ⟨_, _, ⟨T39, L39, k39, n39⟩, -, X39, ⟨Lc39, hQ39, l39, y39, z39⟩, st39⟩ := X0.virtualBack hx (y := (⟨"com/example/loose_grip/loosegrip/wire/ApiKey", "supports", "(S)Z"⟩ : MethodName)) (z := (⟨"com/example/loose_grip/loosegrip/wire/ApiKey", "supports", "(S)Z"⟩ : MethodName)) hown (mvT hZ (hw _ (List.mem_of_getElem? (i := 32) rfl))) (mvT hZ (hw _ (List.mem_of_getElem? (i := 33) rfl))) (notFace_of_selects (args := #[]) (mvT hZ (hw _ (List.mem_of_getElem? (i := 35) rfl)))) (mvT hZ (hw _ (List.mem_of_getElem? (i := 35) rfl))) (mvT hZ (hw _ (List.mem_of_getElem? (i := 34) rfl))) (by decide) (backOf (W := 0) (rm_sup_gt l Z a0 hw [] w_OFFSET_COMMIT (p2.toInt16.toInt32) (2 : Int32) (7 : Int32) h0 n0 Z0 O0 F_OFFSET_COMMIT_minVersion F_OFFSET_COMMIT_maxVersion hc245_33 hc261_37) hZ (hw _ (List.mem_of_getElem? (i := 36) rfl)) (hw _ (List.mem_of_getElem? (i := 3) rfl)) (by decide) (by decide)) q39a q39c (g := (mkF m 279 #[.val (.int p1), .val (.int p2), .val (.ref bK), .val (.ref bL), .val (.ref bH), .val (.int (3 : Int32)), .val (.int (p2.toInt16.toInt32)), .val (.int (p2.toInt16.toInt32)), .val (.int (0 : Int32))] [(.int (p2.toInt16.toInt32)), (.ref w_OFFSET_COMMIT)])) rfl (by rw [hml]; rfl) (Steps.refl _) (argsL := [(.int (p2.toInt16.toInt32))]) (rest := []) (lenOf own_pd0 rfl) rfl (by show 2 * 0 + _ ≤ _; exact Nat.le_of_eq rfl) (hb hby at_279) (fun _ _ => ⟨rfl, e0, (by decide : 3 + 0 ≤ _), (by decide : 39 + 0 ≤ _)⟩)
        dsimp only [Pt.U, Pt.locs, Pt.cells, Pt.slots] at X39 l39 y39 z39 st39 hQ39
        subst l39 y39 z39
        obtain ⟨rfl, Nq39, eq39⟩ := hQ39
        have N39 := Fr.app N0 Nq39
        refine own_tr st39 ?_
        show own_G p.tables e below _ (T39.setTop (mkF m 282 #[.val (.int p1), .val (.int p2), .val (.ref bK), .val (.ref bL), .val (.ref bH), .val (.int (3 : Int32)), .val (.int (p2.toInt16.toInt32)), .val (.int (p2.toInt16.toInt32)), .val (.int (0 : Int32))] [(.int (0 : Int32))]))
        refine own_st (fun _ kS => XS.iload X39.here hx rfl (hb hby at_282) rfl kS) ?_
        show own_G p.tables e below _ (T39.setTop (mkF m 284 #[.val (.int p1), .val (.int p2), .val (.ref bK), .val (.ref bL), .val (.ref bH), .val (.int (3 : Int32)), .val (.int (p2.toInt16.toInt32)), .val (.int (p2.toInt16.toInt32)), .val (.int (0 : Int32))] [(.int (0 : Int32)), (.int (0 : Int32))]))
        refine own_st (fun _ kS => XS.icmpNo X39.here hx rfl (hb hby at_284) rfl (teq (by decide : (0 : Int32) = (0 : Int32))).2 kS) ?_
        show own_G p.tables e below _ (T39.setTop (mkF m 287 #[.val (.int p1), .val (.int p2), .val (.ref bK), .val (.ref bL), .val (.ref bH), .val (.int (3 : Int32)), .val (.int (p2.toInt16.toInt32)), .val (.int (p2.toInt16.toInt32)), .val (.int (0 : Int32))] []))
        refine own_st (fun _ kS => XS.iconst X39.here hx rfl (hb hby at_287) kS) ?_
        show own_G p.tables e below _ (T39.setTop (mkF m 288 #[.val (.int p1), .val (.int p2), .val (.ref bK), .val (.ref bL), .val (.ref bH), .val (.int (3 : Int32)), .val (.int (p2.toInt16.toInt32)), .val (.int (p2.toInt16.toInt32)), .val (.int (0 : Int32))] [(.int (1 : Int32))]))
        refine own_st (fun _ kS => XS.goto X39.here hx rfl (pc0 := 288) (pc' := 292) rfl (hb hby at_288) (by decide) (by decide) kS) ?_
        show own_G p.tables e below _ (T39.setTop (mkF m 292 #[.val (.int p1), .val (.int p2), .val (.ref bK), .val (.ref bL), .val (.ref bH), .val (.int (3 : Int32)), .val (.int (p2.toInt16.toInt32)), .val (.int (p2.toInt16.toInt32)), .val (.int (0 : Int32))] [(.int (1 : Int32))]))
        exact own_retN X39 hx hlk (t := .boolean) hret (by simp) (hb hby at_292) (by decide) (by decide) (v' := (1 : Int32)) rfl (by rw [eq39]; exact ⟨rfl, N39⟩)
      · skip
        refine own_st (fun _ kS => XS.icmpYes X0.here hx rfl (pc0 := 261) (pc' := 270) rfl (hb hby at_261) rfl (flt hc261_37).2.2.2 (by decide) (by decide) kS) ?_
        show own_G p.tables e below _ (T0.setTop (mkF m 270 #[.val (.int p1), .val (.int p2), .val (.ref bK), .val (.ref bL), .val (.ref bH), .val (.int (3 : Int32)), .val (.int (p2.toInt16.toInt32)), .val (.int (p2.toInt16.toInt32)), .unset] []))
        refine own_st (fun _ kS => XS.iconst X0.here hx rfl (hb hby at_270) kS) ?_
        show own_G p.tables e below _ (T0.setTop (mkF m 271 #[.val (.int p1), .val (.int p2), .val (.ref bK), .val (.ref bL), .val (.ref bH), .val (.int (3 : Int32)), .val (.int (p2.toInt16.toInt32)), .val (.int (p2.toInt16.toInt32)), .unset] [(.int (1 : Int32))]))
        refine own_st (fun _ kS => XS.istore X0.here hx rfl (hb hby at_271) rfl (l' := #[.val (.int p1), .val (.int p2), .val (.ref bK), .val (.ref bL), .val (.ref bH), .val (.int (3 : Int32)), .val (.int (p2.toInt16.toInt32)), .val (.int (p2.toInt16.toInt32)), .val (.int (1 : Int32))]) rfl kS) ?_
        show own_G p.tables e below _ (T0.setTop (mkF m 273 #[.val (.int p1), .val (.int p2), .val (.ref bK), .val (.ref bL), .val (.ref bH), .val (.int (3 : Int32)), .val (.int (p2.toInt16.toInt32)), .val (.int (p2.toInt16.toInt32)), .val (.int (1 : Int32))] []))
        refine own_st (fun _ kS => XS.aloadN X0.here hx rfl (hb hby at_273) rfl rfl kS) ?_
        show own_G p.tables e below _ (T0.setTop (mkF m 274 #[.val (.int p1), .val (.int p2), .val (.ref bK), .val (.ref bL), .val (.ref bH), .val (.int (3 : Int32)), .val (.int (p2.toInt16.toInt32)), .val (.int (p2.toInt16.toInt32)), .val (.int (1 : Int32))] [(.ref bK)]))
        refine own_st (fun _ kS => XS.iload X0.here hx rfl (hb hby at_274) rfl kS) ?_
        show own_G p.tables e below _ (T0.setTop (mkF m 276 #[.val (.int p1), .val (.int p2), .val (.ref bK), .val (.ref bL), .val (.ref bH), .val (.int (3 : Int32)), .val (.int (p2.toInt16.toInt32)), .val (.int (p2.toInt16.toInt32)), .val (.int (1 : Int32))] [(.int (3 : Int32)), (.ref bK)]))
        obtain ⟨cl40, Ar40, qa40, qs40, qn40, qh40, qg40⟩ := id R_K
        refine own_st (fun _ kS => X0.aaload hx (j := (3 : Int32)) (v := (.ref w_OFFSET_COMMIT)) (by rw [e0]; exact Ar40.1) (State.isArrayOf_alike hZ.alike Ar40.2.1) rfl Ar40.2.2 (inb_of qs40 ⟨by decide, by decide⟩) (qh40.at (inb_of qs40 ⟨by decide, by decide⟩) rfl) (g := (mkF m 276 #[.val (.int p1), .val (.int p2), .val (.ref bK), .val (.ref bL), .val (.ref bH), .val (.int (3 : Int32)), .val (.int (p2.toInt16.toInt32)), .val (.int (p2.toInt16.toInt32)), .val (.int (1 : Int32))] [(.int (3 : Int32)), (.ref bK)])) rfl rfl (hb hby at_276) _ kS) ?_
        show own_G p.tables e below _ (T0.setTop (mkF m 277 #[.val (.int p1), .val (.int p2), .val (.ref bK), .val (.ref bL), .val (.ref bH), .val (.int (3 : Int32)), .val (.int (p2.toInt16.toInt32)), .val (.int (p2.toInt16.toInt32)), .val (.int (1 : Int32))] [(.ref w_OFFSET_COMMIT)]))
        refine own_st (fun _ kS => XS.iload X0.here hx rfl (hb hby at_277) rfl kS) ?_
        show own_G p.tables e below _ (T0.setTop (mkF m 279 #[.val (.int p1), .val (.int p2), .val (.ref bK), .val (.ref bL), .val (.ref bH), .val (.int (3 : Int32)), .val (.int (p2.toInt16.toInt32)), .val (.int (p2.toInt16.toInt32)), .val (.int (1 : Int32))] [(.int (p2.toInt16.toInt32)), (.ref w_OFFSET_COMMIT)]))
        obtain ⟨cq41, kq41, q41a, q41b, q41c⟩ := isOf hZ e0 (Exa.ext O0.2 E_OFFSET_COMMIT)
        obtain ⟨_, _, ⟨T41, L41, k41, n41⟩, -, X41, ⟨Lc41, hQ41, l41, y41, z41⟩, st41⟩ := X0.virtualBack hx (y := (⟨"com/example/loose_grip/loosegrip/wire/ApiKey", "supports", "(S)Z"⟩ : MethodName)) (z := (⟨"com/example/loose_grip/loosegrip/wire/ApiKey", "supports", "(S)Z"⟩ : MethodName)) hown (mvT hZ (hw _ (List.mem_of_getElem? (i := 32) rfl))) (mvT hZ (hw _ (List.mem_of_getElem? (i := 33) rfl))) (notFace_of_selects (args := #[]) (mvT hZ (hw _ (List.mem_of_getElem? (i := 35) rfl)))) (mvT hZ (hw _ (List.mem_of_getElem? (i := 35) rfl))) (mvT hZ (hw _ (List.mem_of_getElem? (i := 34) rfl))) (by decide) (backOf (W := 0) (rm_sup_in l Z a0 hw [] w_OFFSET_COMMIT (p2.toInt16.toInt32) (2 : Int32) (7 : Int32) h0 n0 Z0 O0 F_OFFSET_COMMIT_minVersion F_OFFSET_COMMIT_maxVersion hc245_33 hc261_37) hZ (hw _ (List.mem_of_getElem? (i := 36) rfl)) (hw _ (List.mem_of_getElem? (i := 3) rfl)) (by decide) (by decide)) q41a q41c (g := (mkF m 279 #[.val (.int p1), .val (.int p2), .val (.ref bK), .val (.ref bL), .val (.ref bH), .val (.int (3 : Int32)), .val (.int (p2.toInt16.toInt32)), .val (.int (p2.toInt16.toInt32)), .val (.int (1 : Int32))] [(.int (p2.toInt16.toInt32)), (.ref w_OFFSET_COMMIT)])) rfl (by rw [hml]; rfl) (Steps.refl _) (argsL := [(.int (p2.toInt16.toInt32))]) (rest := []) (lenOf own_pd0 rfl) rfl (by show 2 * 0 + _ ≤ _; exact Nat.le_of_eq rfl) (hb hby at_279) (fun _ _ => ⟨rfl, e0, (by decide : 3 + 0 ≤ _), (by decide : 39 + 0 ≤ _)⟩)
        dsimp only [Pt.U, Pt.locs, Pt.cells, Pt.slots] at X41 l41 y41 z41 st41 hQ41
        subst l41 y41 z41
        obtain ⟨rfl, Nq41, eq41⟩ := hQ41
        have N41 := Fr.app N0 Nq41
        refine own_tr st41 ?_
        show own_G p.tables e below _ (T41.setTop (mkF m 282 #[.val (.int p1), .val (.int p2), .val (.ref bK), .val (.ref bL), .val (.ref bH), .val (.int (3 : Int32)), .val (.int (p2.toInt16.toInt32)), .val (.int (p2.toInt16.toInt32)), .val (.int (1 : Int32))] [(.int (1 : Int32))]))
        refine own_st (fun _ kS => XS.iload X41.here hx rfl (hb hby at_282) rfl kS) ?_
        show own_G p.tables e below _ (T41.setTop (mkF m 284 #[.val (.int p1), .val (.int p2), .val (.ref bK), .val (.ref bL), .val (.ref bH), .val (.int (3 : Int32)), .val (.int (p2.toInt16.toInt32)), .val (.int (p2.toInt16.toInt32)), .val (.int (1 : Int32))] [(.int (1 : Int32)), (.int (1 : Int32))]))
        refine own_st (fun _ kS => XS.icmpNo X41.here hx rfl (hb hby at_284) rfl (teq (by decide : (1 : Int32) = (1 : Int32))).2 kS) ?_
        show own_G p.tables e below _ (T41.setTop (mkF m 287 #[.val (.int p1), .val (.int p2), .val (.ref bK), .val (.ref bL), .val (.ref bH), .val (.int (3 : Int32)), .val (.int (p2.toInt16.toInt32)), .val (.int (p2.toInt16.toInt32)), .val (.int (1 : Int32))] []))
        refine own_st (fun _ kS => XS.iconst X41.here hx rfl (hb hby at_287) kS) ?_
        show own_G p.tables e below _ (T41.setTop (mkF m 288 #[.val (.int p1), .val (.int p2), .val (.ref bK), .val (.ref bL), .val (.ref bH), .val (.int (3 : Int32)), .val (.int (p2.toInt16.toInt32)), .val (.int (p2.toInt16.toInt32)), .val (.int (1 : Int32))] [(.int (1 : Int32))]))
        refine own_st (fun _ kS => XS.goto X41.here hx rfl (pc0 := 288) (pc' := 292) rfl (hb hby at_288) (by decide) (by decide) kS) ?_
        show own_G p.tables e below _ (T41.setTop (mkF m 292 #[.val (.int p1), .val (.int p2), .val (.ref bK), .val (.ref bL), .val (.ref bH), .val (.int (3 : Int32)), .val (.int (p2.toInt16.toInt32)), .val (.int (p2.toInt16.toInt32)), .val (.int (1 : Int32))] [(.int (1 : Int32))]))
        exact own_retN X41 hx hlk (t := .boolean) hret (by simp) (hb hby at_292) (by decide) (by decide) (v' := (1 : Int32)) rfl (by rw [eq41]; exact ⟨rfl, N41⟩)
  · rw [hk1]
    show own_G p.tables e below _ (T0.setTop (mkF m 229 #[.val (.int p1), .val (.int p2), .val (.ref bK), .val (.ref bL), .val (.ref bH), .unset, .unset, .unset, .unset] [(.int (4 : Int32))]))
    refine own_st (fun _ kS => XS.istore X0.here hx rfl (hb hby at_229) rfl (l' := #[.val (.int p1), .val (.int p2), .val (.ref bK), .val (.ref bL), .val (.ref bH), .val (.int (4 : Int32)), .unset, .unset, .unset]) rfl kS) ?_
    show own_G p.tables e below _ (T0.setTop (mkF m 231 #[.val (.int p1), .val (.int p2), .val (.ref bK), .val (.ref bL), .val (.ref bH), .val (.int (4 : Int32)), .unset, .unset, .unset] []))
    refine own_st (fun _ kS => XS.iloadN X0.here hx rfl (hb hby at_231) rfl kS) ?_
    show own_G p.tables e below _ (T0.setTop (mkF m 232 #[.val (.int p1), .val (.int p2), .val (.ref bK), .val (.ref bL), .val (.ref bH), .val (.int (4 : Int32)), .unset, .unset, .unset] [(.int p2)]))
    refine own_st (fun _ kS => XT.i2s X0.here hx rfl (hb hby at_232) rfl kS) ?_
    show own_G p.tables e below _ (T0.setTop (mkF m 233 #[.val (.int p1), .val (.int p2), .val (.ref bK), .val (.ref bL), .val (.ref bH), .val (.int (4 : Int32)), .unset, .unset, .unset] [(.int (p2.toInt16.toInt32))]))
    refine own_st (fun _ kS => XS.istore X0.here hx rfl (hb hby at_233) rfl (l' := #[.val (.int p1), .val (.int p2), .val (.ref bK), .val (.ref bL), .val (.ref bH), .val (.int (4 : Int32)), .val (.int (p2.toInt16.toInt32)), .unset, .unset]) rfl kS) ?_
    show own_G p.tables e below _ (T0.setTop (mkF m 235 #[.val (.int p1), .val (.int p2), .val (.ref bK), .val (.ref bL), .val (.ref bH), .val (.int (4 : Int32)), .val (.int (p2.toInt16.toInt32)), .unset, .unset] []))
    refine own_st (fun _ kS => XS.iload X0.here hx rfl (hb hby at_235) rfl kS) ?_
    show own_G p.tables e below _ (T0.setTop (mkF m 237 #[.val (.int p1), .val (.int p2), .val (.ref bK), .val (.ref bL), .val (.ref bH), .val (.int (4 : Int32)), .val (.int (p2.toInt16.toInt32)), .unset, .unset] [(.int (p2.toInt16.toInt32))]))
    refine own_st (fun _ kS => XS.istore X0.here hx rfl (hb hby at_237) rfl (l' := #[.val (.int p1), .val (.int p2), .val (.ref bK), .val (.ref bL), .val (.ref bH), .val (.int (4 : Int32)), .val (.int (p2.toInt16.toInt32)), .val (.int (p2.toInt16.toInt32)), .unset]) rfl kS) ?_
    show own_G p.tables e below _ (T0.setTop (mkF m 239 #[.val (.int p1), .val (.int p2), .val (.ref bK), .val (.ref bL), .val (.ref bH), .val (.int (4 : Int32)), .val (.int (p2.toInt16.toInt32)), .val (.int (p2.toInt16.toInt32)), .unset] []))
    refine own_st (fun _ kS => XS.iload X0.here hx rfl (hb hby at_239) rfl kS) ?_
    show own_G p.tables e below _ (T0.setTop (mkF m 241 #[.val (.int p1), .val (.int p2), .val (.ref bK), .val (.ref bL), .val (.ref bH), .val (.int (4 : Int32)), .val (.int (p2.toInt16.toInt32)), .val (.int (p2.toInt16.toInt32)), .unset] [(.int (p2.toInt16.toInt32))]))
    refine own_st (fun _ kS => XS.aloadN X0.here hx rfl (hb hby at_241) rfl rfl kS) ?_
    show own_G p.tables e below _ (T0.setTop (mkF m 242 #[.val (.int p1), .val (.int p2), .val (.ref bK), .val (.ref bL), .val (.ref bH), .val (.int (4 : Int32)), .val (.int (p2.toInt16.toInt32)), .val (.int (p2.toInt16.toInt32)), .unset] [(.ref bL), (.int (p2.toInt16.toInt32))]))
    refine own_st (fun _ kS => XS.iload X0.here hx rfl (hb hby at_242) rfl kS) ?_
    show own_G p.tables e below _ (T0.setTop (mkF m 244 #[.val (.int p1), .val (.int p2), .val (.ref bK), .val (.ref bL), .val (.ref bH), .val (.int (4 : Int32)), .val (.int (p2.toInt16.toInt32)), .val (.int (p2.toInt16.toInt32)), .unset] [(.int (4 : Int32)), (.ref bL), (.int (p2.toInt16.toInt32))]))
    obtain ⟨cl42, Ar42, qa42, qs42, qn42, qh42, qg42⟩ := id R_L
    refine own_st (fun _ kS => X0.iaload hx (j := (4 : Int32)) (v := (.int (1 : Int32))) (by rw [e0]; exact Ar42.1) (State.isArrayOf_alike hZ.alike Ar42.2.1) Ar42.2.2 (inb_of qs42 ⟨by decide, by decide⟩) (qh42.at (inb_of qs42 ⟨by decide, by decide⟩) rfl) (g := (mkF m 244 #[.val (.int p1), .val (.int p2), .val (.ref bK), .val (.ref bL), .val (.ref bH), .val (.int (4 : Int32)), .val (.int (p2.toInt16.toInt32)), .val (.int (p2.toInt16.toInt32)), .unset] [(.int (4 : Int32)), (.ref bL), (.int (p2.toInt16.toInt32))])) rfl rfl (hb hby at_244) _ kS) ?_
    show own_G p.tables e below _ (T0.setTop (mkF m 245 #[.val (.int p1), .val (.int p2), .val (.ref bK), .val (.ref bL), .val (.ref bH), .val (.int (4 : Int32)), .val (.int (p2.toInt16.toInt32)), .val (.int (p2.toInt16.toInt32)), .unset] [(.int (1 : Int32)), (.int (p2.toInt16.toInt32))]))
    by_cases hc245_43 : (p2.toInt16.toInt32) < (1 : Int32)
    · skip
      refine own_st (fun _ kS => XS.icmpNo X0.here hx rfl (hb hby at_245) rfl (tlt hc245_43).2.1 kS) ?_
      show own_G p.tables e below _ (T0.setTop (mkF m 248 #[.val (.int p1), .val (.int p2), .val (.ref bK), .val (.ref bL), .val (.ref bH), .val (.int (4 : Int32)), .val (.int (p2.toInt16.toInt32)), .val (.int (p2.toInt16.toInt32)), .unset] []))
      refine own_st (fun _ kS => XS.iconst X0.here hx rfl (hb hby at_248) kS) ?_
      show own_G p.tables e below _ (T0.setTop (mkF m 249 #[.val (.int p1), .val (.int p2), .val (.ref bK), .val (.ref bL), .val (.ref bH), .val (.int (4 : Int32)), .val (.int (p2.toInt16.toInt32)), .val (.int (p2.toInt16.toInt32)), .unset] [(.int (0 : Int32))]))
      refine own_st (fun _ kS => XS.istore X0.here hx rfl (hb hby at_249) rfl (l' := #[.val (.int p1), .val (.int p2), .val (.ref bK), .val (.ref bL), .val (.ref bH), .val (.int (4 : Int32)), .val (.int (p2.toInt16.toInt32)), .val (.int (p2.toInt16.toInt32)), .val (.int (0 : Int32))]) rfl kS) ?_
      show own_G p.tables e below _ (T0.setTop (mkF m 251 #[.val (.int p1), .val (.int p2), .val (.ref bK), .val (.ref bL), .val (.ref bH), .val (.int (4 : Int32)), .val (.int (p2.toInt16.toInt32)), .val (.int (p2.toInt16.toInt32)), .val (.int (0 : Int32))] []))
      refine own_st (fun _ kS => XS.goto X0.here hx rfl (pc0 := 251) (pc' := 273) rfl (hb hby at_251) (by decide) (by decide) kS) ?_
      show own_G p.tables e below _ (T0.setTop (mkF m 273 #[.val (.int p1), .val (.int p2), .val (.ref bK), .val (.ref bL), .val (.ref bH), .val (.int (4 : Int32)), .val (.int (p2.toInt16.toInt32)), .val (.int (p2.toInt16.toInt32)), .val (.int (0 : Int32))] []))
      refine own_st (fun _ kS => XS.aloadN X0.here hx rfl (hb hby at_273) rfl rfl kS) ?_
      show own_G p.tables e below _ (T0.setTop (mkF m 274 #[.val (.int p1), .val (.int p2), .val (.ref bK), .val (.ref bL), .val (.ref bH), .val (.int (4 : Int32)), .val (.int (p2.toInt16.toInt32)), .val (.int (p2.toInt16.toInt32)), .val (.int (0 : Int32))] [(.ref bK)]))
      refine own_st (fun _ kS => XS.iload X0.here hx rfl (hb hby at_274) rfl kS) ?_
      show own_G p.tables e below _ (T0.setTop (mkF m 276 #[.val (.int p1), .val (.int p2), .val (.ref bK), .val (.ref bL), .val (.ref bH), .val (.int (4 : Int32)), .val (.int (p2.toInt16.toInt32)), .val (.int (p2.toInt16.toInt32)), .val (.int (0 : Int32))] [(.int (4 : Int32)), (.ref bK)]))
      obtain ⟨cl44, Ar44, qa44, qs44, qn44, qh44, qg44⟩ := id R_K
      refine own_st (fun _ kS => X0.aaload hx (j := (4 : Int32)) (v := (.ref w_OFFSET_FETCH)) (by rw [e0]; exact Ar44.1) (State.isArrayOf_alike hZ.alike Ar44.2.1) rfl Ar44.2.2 (inb_of qs44 ⟨by decide, by decide⟩) (qh44.at (inb_of qs44 ⟨by decide, by decide⟩) rfl) (g := (mkF m 276 #[.val (.int p1), .val (.int p2), .val (.ref bK), .val (.ref bL), .val (.ref bH), .val (.int (4 : Int32)), .val (.int (p2.toInt16.toInt32)), .val (.int (p2.toInt16.toInt32)), .val (.int (0 : Int32))] [(.int (4 : Int32)), (.ref bK)])) rfl rfl (hb hby at_276) _ kS) ?_
      show own_G p.tables e below _ (T0.setTop (mkF m 277 #[.val (.int p1), .val (.int p2), .val (.ref bK), .val (.ref bL), .val (.ref bH), .val (.int (4 : Int32)), .val (.int (p2.toInt16.toInt32)), .val (.int (p2.toInt16.toInt32)), .val (.int (0 : Int32))] [(.ref w_OFFSET_FETCH)]))
      refine own_st (fun _ kS => XS.iload X0.here hx rfl (hb hby at_277) rfl kS) ?_
      show own_G p.tables e below _ (T0.setTop (mkF m 279 #[.val (.int p1), .val (.int p2), .val (.ref bK), .val (.ref bL), .val (.ref bH), .val (.int (4 : Int32)), .val (.int (p2.toInt16.toInt32)), .val (.int (p2.toInt16.toInt32)), .val (.int (0 : Int32))] [(.int (p2.toInt16.toInt32)), (.ref w_OFFSET_FETCH)]))
      obtain ⟨cq45, kq45, q45a, q45b, q45c⟩ := isOf hZ e0 (Exa.ext O0.2 E_OFFSET_FETCH)
      obtain ⟨_, _, ⟨T45, L45, k45, n45⟩, -, X45, ⟨Lc45, hQ45, l45, y45, z45⟩, st45⟩ := X0.virtualBack hx (y := (⟨"com/example/loose_grip/loosegrip/wire/ApiKey", "supports", "(S)Z"⟩ : MethodName)) (z := (⟨"com/example/loose_grip/loosegrip/wire/ApiKey", "supports", "(S)Z"⟩ : MethodName)) hown (mvT hZ (hw _ (List.mem_of_getElem? (i := 32) rfl))) (mvT hZ (hw _ (List.mem_of_getElem? (i := 33) rfl))) (notFace_of_selects (args := #[]) (mvT hZ (hw _ (List.mem_of_getElem? (i := 35) rfl)))) (mvT hZ (hw _ (List.mem_of_getElem? (i := 35) rfl))) (mvT hZ (hw _ (List.mem_of_getElem? (i := 34) rfl))) (by decide) (backOf (W := 0) (rm_sup_lt l Z a0 hw [] w_OFFSET_FETCH (p2.toInt16.toInt32) (1 : Int32) h0 n0 Z0 O0 F_OFFSET_FETCH_minVersion hc245_43) hZ (hw _ (List.mem_of_getElem? (i := 36) rfl)) (hw _ (List.mem_of_getElem? (i := 3) rfl)) (by decide) (by decide)) q45a q45c (g := (mkF m 279 #[.val (.int p1), .val (.int p2), .val (.ref bK), .val (.ref bL), .val (.ref bH), .val (.int (4 : Int32)), .val (.int (p2.toInt16.toInt32)), .val (.int (p2.toInt16.toInt32)), .val (.int (0 : Int32))] [(.int (p2.toInt16.toInt32)), (.ref w_OFFSET_FETCH)])) rfl (by rw [hml]; rfl) (Steps.refl _) (argsL := [(.int (p2.toInt16.toInt32))]) (rest := []) (lenOf own_pd0 rfl) rfl (by show 2 * 0 + _ ≤ _; exact Nat.le_of_eq rfl) (hb hby at_279) (fun _ _ => ⟨rfl, e0, (by decide : 3 + 0 ≤ _), (by decide : 39 + 0 ≤ _)⟩)
      dsimp only [Pt.U, Pt.locs, Pt.cells, Pt.slots] at X45 l45 y45 z45 st45 hQ45
      subst l45 y45 z45
      obtain ⟨rfl, Nq45, eq45⟩ := hQ45
      have N45 := Fr.app N0 Nq45
      refine own_tr st45 ?_
      show own_G p.tables e below _ (T45.setTop (mkF m 282 #[.val (.int p1), .val (.int p2), .val (.ref bK), .val (.ref bL), .val (.ref bH), .val (.int (4 : Int32)), .val (.int (p2.toInt16.toInt32)), .val (.int (p2.toInt16.toInt32)), .val (.int (0 : Int32))] [(.int (0 : Int32))]))
      refine own_st (fun _ kS => XS.iload X45.here hx rfl (hb hby at_282) rfl kS) ?_
      show own_G p.tables e below _ (T45.setTop (mkF m 284 #[.val (.int p1), .val (.int p2), .val (.ref bK), .val (.ref bL), .val (.ref bH), .val (.int (4 : Int32)), .val (.int (p2.toInt16.toInt32)), .val (.int (p2.toInt16.toInt32)), .val (.int (0 : Int32))] [(.int (0 : Int32)), (.int (0 : Int32))]))
      refine own_st (fun _ kS => XS.icmpNo X45.here hx rfl (hb hby at_284) rfl (teq (by decide : (0 : Int32) = (0 : Int32))).2 kS) ?_
      show own_G p.tables e below _ (T45.setTop (mkF m 287 #[.val (.int p1), .val (.int p2), .val (.ref bK), .val (.ref bL), .val (.ref bH), .val (.int (4 : Int32)), .val (.int (p2.toInt16.toInt32)), .val (.int (p2.toInt16.toInt32)), .val (.int (0 : Int32))] []))
      refine own_st (fun _ kS => XS.iconst X45.here hx rfl (hb hby at_287) kS) ?_
      show own_G p.tables e below _ (T45.setTop (mkF m 288 #[.val (.int p1), .val (.int p2), .val (.ref bK), .val (.ref bL), .val (.ref bH), .val (.int (4 : Int32)), .val (.int (p2.toInt16.toInt32)), .val (.int (p2.toInt16.toInt32)), .val (.int (0 : Int32))] [(.int (1 : Int32))]))
      refine own_st (fun _ kS => XS.goto X45.here hx rfl (pc0 := 288) (pc' := 292) rfl (hb hby at_288) (by decide) (by decide) kS) ?_
      show own_G p.tables e below _ (T45.setTop (mkF m 292 #[.val (.int p1), .val (.int p2), .val (.ref bK), .val (.ref bL), .val (.ref bH), .val (.int (4 : Int32)), .val (.int (p2.toInt16.toInt32)), .val (.int (p2.toInt16.toInt32)), .val (.int (0 : Int32))] [(.int (1 : Int32))]))
      exact own_retN X45 hx hlk (t := .boolean) hret (by simp) (hb hby at_292) (by decide) (by decide) (v' := (1 : Int32)) rfl (by rw [eq45]; exact ⟨rfl, N45⟩)
    · skip
      refine own_st (fun _ kS => XS.icmpYes X0.here hx rfl (pc0 := 245) (pc' := 254) rfl (hb hby at_245) rfl (flt hc245_43).2.1 (by decide) (by decide) kS) ?_
      show own_G p.tables e below _ (T0.setTop (mkF m 254 #[.val (.int p1), .val (.int p2), .val (.ref bK), .val (.ref bL), .val (.ref bH), .val (.int (4 : Int32)), .val (.int (p2.toInt16.toInt32)), .val (.int (p2.toInt16.toInt32)), .unset] []))
      refine own_st (fun _ kS => XS.iload X0.here hx rfl (hb hby at_254) rfl kS) ?_
      show own_G p.tables e below _ (T0.setTop (mkF m 256 #[.val (.int p1), .val (.int p2), .val (.ref bK), .val (.ref bL), .val (.ref bH), .val (.int (4 : Int32)), .val (.int (p2.toInt16.toInt32)), .val (.int (p2.toInt16.toInt32)), .unset] [(.int (p2.toInt16.toInt32))]))
      refine own_st (fun _ kS => XS.aload X0.here hx rfl (hb hby at_256) rfl rfl kS) ?_
      show own_G p.tables e below _ (T0.setTop (mkF m 258 #[.val (.int p1), .val (.int p2), .val (.ref bK), .val (.ref bL), .val (.ref bH), .val (.int (4 : Int32)), .val (.int (p2.toInt16.toInt32)), .val (.int (p2.toInt16.toInt32)), .unset] [(.ref bH), (.int (p2.toInt16.toInt32))]))
      refine own_st (fun _ kS => XS.iload X0.here hx rfl (hb hby at_258) rfl kS) ?_
      show own_G p.tables e below _ (T0.setTop (mkF m 260 #[.val (.int p1), .val (.int p2), .val (.ref bK), .val (.ref bL), .val (.ref bH), .val (.int (4 : Int32)), .val (.int (p2.toInt16.toInt32)), .val (.int (p2.toInt16.toInt32)), .unset] [(.int (4 : Int32)), (.ref bH), (.int (p2.toInt16.toInt32))]))
      obtain ⟨cl46, Ar46, qa46, qs46, qn46, qh46, qg46⟩ := id R_H
      refine own_st (fun _ kS => X0.iaload hx (j := (4 : Int32)) (v := (.int (5 : Int32))) (by rw [e0]; exact Ar46.1) (State.isArrayOf_alike hZ.alike Ar46.2.1) Ar46.2.2 (inb_of qs46 ⟨by decide, by decide⟩) (qh46.at (inb_of qs46 ⟨by decide, by decide⟩) rfl) (g := (mkF m 260 #[.val (.int p1), .val (.int p2), .val (.ref bK), .val (.ref bL), .val (.ref bH), .val (.int (4 : Int32)), .val (.int (p2.toInt16.toInt32)), .val (.int (p2.toInt16.toInt32)), .unset] [(.int (4 : Int32)), (.ref bH), (.int (p2.toInt16.toInt32))])) rfl rfl (hb hby at_260) _ kS) ?_
      show own_G p.tables e below _ (T0.setTop (mkF m 261 #[.val (.int p1), .val (.int p2), .val (.ref bK), .val (.ref bL), .val (.ref bH), .val (.int (4 : Int32)), .val (.int (p2.toInt16.toInt32)), .val (.int (p2.toInt16.toInt32)), .unset] [(.int (5 : Int32)), (.int (p2.toInt16.toInt32))]))
      by_cases hc261_47 : (5 : Int32) < (p2.toInt16.toInt32)
      · skip
        refine own_st (fun _ kS => XS.icmpNo X0.here hx rfl (hb hby at_261) rfl (tlt hc261_47).2.2.2 kS) ?_
        show own_G p.tables e below _ (T0.setTop (mkF m 264 #[.val (.int p1), .val (.int p2), .val (.ref bK), .val (.ref bL), .val (.ref bH), .val (.int (4 : Int32)), .val (.int (p2.toInt16.toInt32)), .val (.int (p2.toInt16.toInt32)), .unset] []))
        refine own_st (fun _ kS => XS.iconst X0.here hx rfl (hb hby at_264) kS) ?_
        show own_G p.tables e below _ (T0.setTop (mkF m 265 #[.val (.int p1), .val (.int p2), .val (.ref bK), .val (.ref bL), .val (.ref bH), .val (.int (4 : Int32)), .val (.int (p2.toInt16.toInt32)), .val (.int (p2.toInt16.toInt32)), .unset] [(.int (0 : Int32))]))
        refine own_st (fun _ kS => XS.istore X0.here hx rfl (hb hby at_265) rfl (l' := #[.val (.int p1), .val (.int p2), .val (.ref bK), .val (.ref bL), .val (.ref bH), .val (.int (4 : Int32)), .val (.int (p2.toInt16.toInt32)), .val (.int (p2.toInt16.toInt32)), .val (.int (0 : Int32))]) rfl kS) ?_
        show own_G p.tables e below _ (T0.setTop (mkF m 267 #[.val (.int p1), .val (.int p2), .val (.ref bK), .val (.ref bL), .val (.ref bH), .val (.int (4 : Int32)), .val (.int (p2.toInt16.toInt32)), .val (.int (p2.toInt16.toInt32)), .val (.int (0 : Int32))] []))
        refine own_st (fun _ kS => XS.goto X0.here hx rfl (pc0 := 267) (pc' := 273) rfl (hb hby at_267) (by decide) (by decide) kS) ?_
        show own_G p.tables e below _ (T0.setTop (mkF m 273 #[.val (.int p1), .val (.int p2), .val (.ref bK), .val (.ref bL), .val (.ref bH), .val (.int (4 : Int32)), .val (.int (p2.toInt16.toInt32)), .val (.int (p2.toInt16.toInt32)), .val (.int (0 : Int32))] []))
        refine own_st (fun _ kS => XS.aloadN X0.here hx rfl (hb hby at_273) rfl rfl kS) ?_
        show own_G p.tables e below _ (T0.setTop (mkF m 274 #[.val (.int p1), .val (.int p2), .val (.ref bK), .val (.ref bL), .val (.ref bH), .val (.int (4 : Int32)), .val (.int (p2.toInt16.toInt32)), .val (.int (p2.toInt16.toInt32)), .val (.int (0 : Int32))] [(.ref bK)]))
        refine own_st (fun _ kS => XS.iload X0.here hx rfl (hb hby at_274) rfl kS) ?_
        show own_G p.tables e below _ (T0.setTop (mkF m 276 #[.val (.int p1), .val (.int p2), .val (.ref bK), .val (.ref bL), .val (.ref bH), .val (.int (4 : Int32)), .val (.int (p2.toInt16.toInt32)), .val (.int (p2.toInt16.toInt32)), .val (.int (0 : Int32))] [(.int (4 : Int32)), (.ref bK)]))
        obtain ⟨cl48, Ar48, qa48, qs48, qn48, qh48, qg48⟩ := id R_K
        refine own_st (fun _ kS => X0.aaload hx (j := (4 : Int32)) (v := (.ref w_OFFSET_FETCH)) (by rw [e0]; exact Ar48.1) (State.isArrayOf_alike hZ.alike Ar48.2.1) rfl Ar48.2.2 (inb_of qs48 ⟨by decide, by decide⟩) (qh48.at (inb_of qs48 ⟨by decide, by decide⟩) rfl) (g := (mkF m 276 #[.val (.int p1), .val (.int p2), .val (.ref bK), .val (.ref bL), .val (.ref bH), .val (.int (4 : Int32)), .val (.int (p2.toInt16.toInt32)), .val (.int (p2.toInt16.toInt32)), .val (.int (0 : Int32))] [(.int (4 : Int32)), (.ref bK)])) rfl rfl (hb hby at_276) _ kS) ?_
        show own_G p.tables e below _ (T0.setTop (mkF m 277 #[.val (.int p1), .val (.int p2), .val (.ref bK), .val (.ref bL), .val (.ref bH), .val (.int (4 : Int32)), .val (.int (p2.toInt16.toInt32)), .val (.int (p2.toInt16.toInt32)), .val (.int (0 : Int32))] [(.ref w_OFFSET_FETCH)]))
        refine own_st (fun _ kS => XS.iload X0.here hx rfl (hb hby at_277) rfl kS) ?_
        show own_G p.tables e below _ (T0.setTop (mkF m 279 #[.val (.int p1), .val (.int p2), .val (.ref bK), .val (.ref bL), .val (.ref bH), .val (.int (4 : Int32)), .val (.int (p2.toInt16.toInt32)), .val (.int (p2.toInt16.toInt32)), .val (.int (0 : Int32))] [(.int (p2.toInt16.toInt32)), (.ref w_OFFSET_FETCH)]))
        obtain ⟨cq49, kq49, q49a, q49b, q49c⟩ := isOf hZ e0 (Exa.ext O0.2 E_OFFSET_FETCH)
        obtain ⟨_, _, ⟨T49, L49, k49, n49⟩, -, X49, ⟨Lc49, hQ49, l49, y49, z49⟩, st49⟩ := X0.virtualBack hx (y := (⟨"com/example/loose_grip/loosegrip/wire/ApiKey", "supports", "(S)Z"⟩ : MethodName)) (z := (⟨"com/example/loose_grip/loosegrip/wire/ApiKey", "supports", "(S)Z"⟩ : MethodName)) hown (mvT hZ (hw _ (List.mem_of_getElem? (i := 32) rfl))) (mvT hZ (hw _ (List.mem_of_getElem? (i := 33) rfl))) (notFace_of_selects (args := #[]) (mvT hZ (hw _ (List.mem_of_getElem? (i := 35) rfl)))) (mvT hZ (hw _ (List.mem_of_getElem? (i := 35) rfl))) (mvT hZ (hw _ (List.mem_of_getElem? (i := 34) rfl))) (by decide) (backOf (W := 0) (rm_sup_gt l Z a0 hw [] w_OFFSET_FETCH (p2.toInt16.toInt32) (1 : Int32) (5 : Int32) h0 n0 Z0 O0 F_OFFSET_FETCH_minVersion F_OFFSET_FETCH_maxVersion hc245_43 hc261_47) hZ (hw _ (List.mem_of_getElem? (i := 36) rfl)) (hw _ (List.mem_of_getElem? (i := 3) rfl)) (by decide) (by decide)) q49a q49c (g := (mkF m 279 #[.val (.int p1), .val (.int p2), .val (.ref bK), .val (.ref bL), .val (.ref bH), .val (.int (4 : Int32)), .val (.int (p2.toInt16.toInt32)), .val (.int (p2.toInt16.toInt32)), .val (.int (0 : Int32))] [(.int (p2.toInt16.toInt32)), (.ref w_OFFSET_FETCH)])) rfl (by rw [hml]; rfl) (Steps.refl _) (argsL := [(.int (p2.toInt16.toInt32))]) (rest := []) (lenOf own_pd0 rfl) rfl (by show 2 * 0 + _ ≤ _; exact Nat.le_of_eq rfl) (hb hby at_279) (fun _ _ => ⟨rfl, e0, (by decide : 3 + 0 ≤ _), (by decide : 39 + 0 ≤ _)⟩)
        dsimp only [Pt.U, Pt.locs, Pt.cells, Pt.slots] at X49 l49 y49 z49 st49 hQ49
        subst l49 y49 z49
        obtain ⟨rfl, Nq49, eq49⟩ := hQ49
        have N49 := Fr.app N0 Nq49
        refine own_tr st49 ?_
        show own_G p.tables e below _ (T49.setTop (mkF m 282 #[.val (.int p1), .val (.int p2), .val (.ref bK), .val (.ref bL), .val (.ref bH), .val (.int (4 : Int32)), .val (.int (p2.toInt16.toInt32)), .val (.int (p2.toInt16.toInt32)), .val (.int (0 : Int32))] [(.int (0 : Int32))]))
        refine own_st (fun _ kS => XS.iload X49.here hx rfl (hb hby at_282) rfl kS) ?_
        show own_G p.tables e below _ (T49.setTop (mkF m 284 #[.val (.int p1), .val (.int p2), .val (.ref bK), .val (.ref bL), .val (.ref bH), .val (.int (4 : Int32)), .val (.int (p2.toInt16.toInt32)), .val (.int (p2.toInt16.toInt32)), .val (.int (0 : Int32))] [(.int (0 : Int32)), (.int (0 : Int32))]))
        refine own_st (fun _ kS => XS.icmpNo X49.here hx rfl (hb hby at_284) rfl (teq (by decide : (0 : Int32) = (0 : Int32))).2 kS) ?_
        show own_G p.tables e below _ (T49.setTop (mkF m 287 #[.val (.int p1), .val (.int p2), .val (.ref bK), .val (.ref bL), .val (.ref bH), .val (.int (4 : Int32)), .val (.int (p2.toInt16.toInt32)), .val (.int (p2.toInt16.toInt32)), .val (.int (0 : Int32))] []))
        refine own_st (fun _ kS => XS.iconst X49.here hx rfl (hb hby at_287) kS) ?_
        show own_G p.tables e below _ (T49.setTop (mkF m 288 #[.val (.int p1), .val (.int p2), .val (.ref bK), .val (.ref bL), .val (.ref bH), .val (.int (4 : Int32)), .val (.int (p2.toInt16.toInt32)), .val (.int (p2.toInt16.toInt32)), .val (.int (0 : Int32))] [(.int (1 : Int32))]))
        refine own_st (fun _ kS => XS.goto X49.here hx rfl (pc0 := 288) (pc' := 292) rfl (hb hby at_288) (by decide) (by decide) kS) ?_
        show own_G p.tables e below _ (T49.setTop (mkF m 292 #[.val (.int p1), .val (.int p2), .val (.ref bK), .val (.ref bL), .val (.ref bH), .val (.int (4 : Int32)), .val (.int (p2.toInt16.toInt32)), .val (.int (p2.toInt16.toInt32)), .val (.int (0 : Int32))] [(.int (1 : Int32))]))
        exact own_retN X49 hx hlk (t := .boolean) hret (by simp) (hb hby at_292) (by decide) (by decide) (v' := (1 : Int32)) rfl (by rw [eq49]; exact ⟨rfl, N49⟩)
      · skip
        refine own_st (fun _ kS => XS.icmpYes X0.here hx rfl (pc0 := 261) (pc' := 270) rfl (hb hby at_261) rfl (flt hc261_47).2.2.2 (by decide) (by decide) kS) ?_
        show own_G p.tables e below _ (T0.setTop (mkF m 270 #[.val (.int p1), .val (.int p2), .val (.ref bK), .val (.ref bL), .val (.ref bH), .val (.int (4 : Int32)), .val (.int (p2.toInt16.toInt32)), .val (.int (p2.toInt16.toInt32)), .unset] []))
        refine own_st (fun _ kS => XS.iconst X0.here hx rfl (hb hby at_270) kS) ?_
        show own_G p.tables e below _ (T0.setTop (mkF m 271 #[.val (.int p1), .val (.int p2), .val (.ref bK), .val (.ref bL), .val (.ref bH), .val (.int (4 : Int32)), .val (.int (p2.toInt16.toInt32)), .val (.int (p2.toInt16.toInt32)), .unset] [(.int (1 : Int32))]))
        refine own_st (fun _ kS => XS.istore X0.here hx rfl (hb hby at_271) rfl (l' := #[.val (.int p1), .val (.int p2), .val (.ref bK), .val (.ref bL), .val (.ref bH), .val (.int (4 : Int32)), .val (.int (p2.toInt16.toInt32)), .val (.int (p2.toInt16.toInt32)), .val (.int (1 : Int32))]) rfl kS) ?_
        show own_G p.tables e below _ (T0.setTop (mkF m 273 #[.val (.int p1), .val (.int p2), .val (.ref bK), .val (.ref bL), .val (.ref bH), .val (.int (4 : Int32)), .val (.int (p2.toInt16.toInt32)), .val (.int (p2.toInt16.toInt32)), .val (.int (1 : Int32))] []))
        refine own_st (fun _ kS => XS.aloadN X0.here hx rfl (hb hby at_273) rfl rfl kS) ?_
        show own_G p.tables e below _ (T0.setTop (mkF m 274 #[.val (.int p1), .val (.int p2), .val (.ref bK), .val (.ref bL), .val (.ref bH), .val (.int (4 : Int32)), .val (.int (p2.toInt16.toInt32)), .val (.int (p2.toInt16.toInt32)), .val (.int (1 : Int32))] [(.ref bK)]))
        refine own_st (fun _ kS => XS.iload X0.here hx rfl (hb hby at_274) rfl kS) ?_
        show own_G p.tables e below _ (T0.setTop (mkF m 276 #[.val (.int p1), .val (.int p2), .val (.ref bK), .val (.ref bL), .val (.ref bH), .val (.int (4 : Int32)), .val (.int (p2.toInt16.toInt32)), .val (.int (p2.toInt16.toInt32)), .val (.int (1 : Int32))] [(.int (4 : Int32)), (.ref bK)]))
        obtain ⟨cl50, Ar50, qa50, qs50, qn50, qh50, qg50⟩ := id R_K
        refine own_st (fun _ kS => X0.aaload hx (j := (4 : Int32)) (v := (.ref w_OFFSET_FETCH)) (by rw [e0]; exact Ar50.1) (State.isArrayOf_alike hZ.alike Ar50.2.1) rfl Ar50.2.2 (inb_of qs50 ⟨by decide, by decide⟩) (qh50.at (inb_of qs50 ⟨by decide, by decide⟩) rfl) (g := (mkF m 276 #[.val (.int p1), .val (.int p2), .val (.ref bK), .val (.ref bL), .val (.ref bH), .val (.int (4 : Int32)), .val (.int (p2.toInt16.toInt32)), .val (.int (p2.toInt16.toInt32)), .val (.int (1 : Int32))] [(.int (4 : Int32)), (.ref bK)])) rfl rfl (hb hby at_276) _ kS) ?_
        show own_G p.tables e below _ (T0.setTop (mkF m 277 #[.val (.int p1), .val (.int p2), .val (.ref bK), .val (.ref bL), .val (.ref bH), .val (.int (4 : Int32)), .val (.int (p2.toInt16.toInt32)), .val (.int (p2.toInt16.toInt32)), .val (.int (1 : Int32))] [(.ref w_OFFSET_FETCH)]))
        refine own_st (fun _ kS => XS.iload X0.here hx rfl (hb hby at_277) rfl kS) ?_
        show own_G p.tables e below _ (T0.setTop (mkF m 279 #[.val (.int p1), .val (.int p2), .val (.ref bK), .val (.ref bL), .val (.ref bH), .val (.int (4 : Int32)), .val (.int (p2.toInt16.toInt32)), .val (.int (p2.toInt16.toInt32)), .val (.int (1 : Int32))] [(.int (p2.toInt16.toInt32)), (.ref w_OFFSET_FETCH)]))
        obtain ⟨cq51, kq51, q51a, q51b, q51c⟩ := isOf hZ e0 (Exa.ext O0.2 E_OFFSET_FETCH)
        obtain ⟨_, _, ⟨T51, L51, k51, n51⟩, -, X51, ⟨Lc51, hQ51, l51, y51, z51⟩, st51⟩ := X0.virtualBack hx (y := (⟨"com/example/loose_grip/loosegrip/wire/ApiKey", "supports", "(S)Z"⟩ : MethodName)) (z := (⟨"com/example/loose_grip/loosegrip/wire/ApiKey", "supports", "(S)Z"⟩ : MethodName)) hown (mvT hZ (hw _ (List.mem_of_getElem? (i := 32) rfl))) (mvT hZ (hw _ (List.mem_of_getElem? (i := 33) rfl))) (notFace_of_selects (args := #[]) (mvT hZ (hw _ (List.mem_of_getElem? (i := 35) rfl)))) (mvT hZ (hw _ (List.mem_of_getElem? (i := 35) rfl))) (mvT hZ (hw _ (List.mem_of_getElem? (i := 34) rfl))) (by decide) (backOf (W := 0) (rm_sup_in l Z a0 hw [] w_OFFSET_FETCH (p2.toInt16.toInt32) (1 : Int32) (5 : Int32) h0 n0 Z0 O0 F_OFFSET_FETCH_minVersion F_OFFSET_FETCH_maxVersion hc245_43 hc261_47) hZ (hw _ (List.mem_of_getElem? (i := 36) rfl)) (hw _ (List.mem_of_getElem? (i := 3) rfl)) (by decide) (by decide)) q51a q51c (g := (mkF m 279 #[.val (.int p1), .val (.int p2), .val (.ref bK), .val (.ref bL), .val (.ref bH), .val (.int (4 : Int32)), .val (.int (p2.toInt16.toInt32)), .val (.int (p2.toInt16.toInt32)), .val (.int (1 : Int32))] [(.int (p2.toInt16.toInt32)), (.ref w_OFFSET_FETCH)])) rfl (by rw [hml]; rfl) (Steps.refl _) (argsL := [(.int (p2.toInt16.toInt32))]) (rest := []) (lenOf own_pd0 rfl) rfl (by show 2 * 0 + _ ≤ _; exact Nat.le_of_eq rfl) (hb hby at_279) (fun _ _ => ⟨rfl, e0, (by decide : 3 + 0 ≤ _), (by decide : 39 + 0 ≤ _)⟩)
        dsimp only [Pt.U, Pt.locs, Pt.cells, Pt.slots] at X51 l51 y51 z51 st51 hQ51
        subst l51 y51 z51
        obtain ⟨rfl, Nq51, eq51⟩ := hQ51
        have N51 := Fr.app N0 Nq51
        refine own_tr st51 ?_
        show own_G p.tables e below _ (T51.setTop (mkF m 282 #[.val (.int p1), .val (.int p2), .val (.ref bK), .val (.ref bL), .val (.ref bH), .val (.int (4 : Int32)), .val (.int (p2.toInt16.toInt32)), .val (.int (p2.toInt16.toInt32)), .val (.int (1 : Int32))] [(.int (1 : Int32))]))
        refine own_st (fun _ kS => XS.iload X51.here hx rfl (hb hby at_282) rfl kS) ?_
        show own_G p.tables e below _ (T51.setTop (mkF m 284 #[.val (.int p1), .val (.int p2), .val (.ref bK), .val (.ref bL), .val (.ref bH), .val (.int (4 : Int32)), .val (.int (p2.toInt16.toInt32)), .val (.int (p2.toInt16.toInt32)), .val (.int (1 : Int32))] [(.int (1 : Int32)), (.int (1 : Int32))]))
        refine own_st (fun _ kS => XS.icmpNo X51.here hx rfl (hb hby at_284) rfl (teq (by decide : (1 : Int32) = (1 : Int32))).2 kS) ?_
        show own_G p.tables e below _ (T51.setTop (mkF m 287 #[.val (.int p1), .val (.int p2), .val (.ref bK), .val (.ref bL), .val (.ref bH), .val (.int (4 : Int32)), .val (.int (p2.toInt16.toInt32)), .val (.int (p2.toInt16.toInt32)), .val (.int (1 : Int32))] []))
        refine own_st (fun _ kS => XS.iconst X51.here hx rfl (hb hby at_287) kS) ?_
        show own_G p.tables e below _ (T51.setTop (mkF m 288 #[.val (.int p1), .val (.int p2), .val (.ref bK), .val (.ref bL), .val (.ref bH), .val (.int (4 : Int32)), .val (.int (p2.toInt16.toInt32)), .val (.int (p2.toInt16.toInt32)), .val (.int (1 : Int32))] [(.int (1 : Int32))]))
        refine own_st (fun _ kS => XS.goto X51.here hx rfl (pc0 := 288) (pc' := 292) rfl (hb hby at_288) (by decide) (by decide) kS) ?_
        show own_G p.tables e below _ (T51.setTop (mkF m 292 #[.val (.int p1), .val (.int p2), .val (.ref bK), .val (.ref bL), .val (.ref bH), .val (.int (4 : Int32)), .val (.int (p2.toInt16.toInt32)), .val (.int (p2.toInt16.toInt32)), .val (.int (1 : Int32))] [(.int (1 : Int32))]))
        exact own_retN X51 hx hlk (t := .boolean) hret (by simp) (hb hby at_292) (by decide) (by decide) (v' := (1 : Int32)) rfl (by rw [eq51]; exact ⟨rfl, N51⟩)
  · rw [hk1]
    show own_G p.tables e below _ (T0.setTop (mkF m 229 #[.val (.int p1), .val (.int p2), .val (.ref bK), .val (.ref bL), .val (.ref bH), .unset, .unset, .unset, .unset] [(.int (5 : Int32))]))
    refine own_st (fun _ kS => XS.istore X0.here hx rfl (hb hby at_229) rfl (l' := #[.val (.int p1), .val (.int p2), .val (.ref bK), .val (.ref bL), .val (.ref bH), .val (.int (5 : Int32)), .unset, .unset, .unset]) rfl kS) ?_
    show own_G p.tables e below _ (T0.setTop (mkF m 231 #[.val (.int p1), .val (.int p2), .val (.ref bK), .val (.ref bL), .val (.ref bH), .val (.int (5 : Int32)), .unset, .unset, .unset] []))
    refine own_st (fun _ kS => XS.iloadN X0.here hx rfl (hb hby at_231) rfl kS) ?_
    show own_G p.tables e below _ (T0.setTop (mkF m 232 #[.val (.int p1), .val (.int p2), .val (.ref bK), .val (.ref bL), .val (.ref bH), .val (.int (5 : Int32)), .unset, .unset, .unset] [(.int p2)]))
    refine own_st (fun _ kS => XT.i2s X0.here hx rfl (hb hby at_232) rfl kS) ?_
    show own_G p.tables e below _ (T0.setTop (mkF m 233 #[.val (.int p1), .val (.int p2), .val (.ref bK), .val (.ref bL), .val (.ref bH), .val (.int (5 : Int32)), .unset, .unset, .unset] [(.int (p2.toInt16.toInt32))]))
    refine own_st (fun _ kS => XS.istore X0.here hx rfl (hb hby at_233) rfl (l' := #[.val (.int p1), .val (.int p2), .val (.ref bK), .val (.ref bL), .val (.ref bH), .val (.int (5 : Int32)), .val (.int (p2.toInt16.toInt32)), .unset, .unset]) rfl kS) ?_
    show own_G p.tables e below _ (T0.setTop (mkF m 235 #[.val (.int p1), .val (.int p2), .val (.ref bK), .val (.ref bL), .val (.ref bH), .val (.int (5 : Int32)), .val (.int (p2.toInt16.toInt32)), .unset, .unset] []))
    refine own_st (fun _ kS => XS.iload X0.here hx rfl (hb hby at_235) rfl kS) ?_
    show own_G p.tables e below _ (T0.setTop (mkF m 237 #[.val (.int p1), .val (.int p2), .val (.ref bK), .val (.ref bL), .val (.ref bH), .val (.int (5 : Int32)), .val (.int (p2.toInt16.toInt32)), .unset, .unset] [(.int (p2.toInt16.toInt32))]))
    refine own_st (fun _ kS => XS.istore X0.here hx rfl (hb hby at_237) rfl (l' := #[.val (.int p1), .val (.int p2), .val (.ref bK), .val (.ref bL), .val (.ref bH), .val (.int (5 : Int32)), .val (.int (p2.toInt16.toInt32)), .val (.int (p2.toInt16.toInt32)), .unset]) rfl kS) ?_
    show own_G p.tables e below _ (T0.setTop (mkF m 239 #[.val (.int p1), .val (.int p2), .val (.ref bK), .val (.ref bL), .val (.ref bH), .val (.int (5 : Int32)), .val (.int (p2.toInt16.toInt32)), .val (.int (p2.toInt16.toInt32)), .unset] []))
    refine own_st (fun _ kS => XS.iload X0.here hx rfl (hb hby at_239) rfl kS) ?_
    show own_G p.tables e below _ (T0.setTop (mkF m 241 #[.val (.int p1), .val (.int p2), .val (.ref bK), .val (.ref bL), .val (.ref bH), .val (.int (5 : Int32)), .val (.int (p2.toInt16.toInt32)), .val (.int (p2.toInt16.toInt32)), .unset] [(.int (p2.toInt16.toInt32))]))
    refine own_st (fun _ kS => XS.aloadN X0.here hx rfl (hb hby at_241) rfl rfl kS) ?_
    show own_G p.tables e below _ (T0.setTop (mkF m 242 #[.val (.int p1), .val (.int p2), .val (.ref bK), .val (.ref bL), .val (.ref bH), .val (.int (5 : Int32)), .val (.int (p2.toInt16.toInt32)), .val (.int (p2.toInt16.toInt32)), .unset] [(.ref bL), (.int (p2.toInt16.toInt32))]))
    refine own_st (fun _ kS => XS.iload X0.here hx rfl (hb hby at_242) rfl kS) ?_
    show own_G p.tables e below _ (T0.setTop (mkF m 244 #[.val (.int p1), .val (.int p2), .val (.ref bK), .val (.ref bL), .val (.ref bH), .val (.int (5 : Int32)), .val (.int (p2.toInt16.toInt32)), .val (.int (p2.toInt16.toInt32)), .unset] [(.int (5 : Int32)), (.ref bL), (.int (p2.toInt16.toInt32))]))
    obtain ⟨cl52, Ar52, qa52, qs52, qn52, qh52, qg52⟩ := id R_L
    refine own_st (fun _ kS => X0.iaload hx (j := (5 : Int32)) (v := (.int (0 : Int32))) (by rw [e0]; exact Ar52.1) (State.isArrayOf_alike hZ.alike Ar52.2.1) Ar52.2.2 (inb_of qs52 ⟨by decide, by decide⟩) (qh52.at (inb_of qs52 ⟨by decide, by decide⟩) rfl) (g := (mkF m 244 #[.val (.int p1), .val (.int p2), .val (.ref bK), .val (.ref bL), .val (.ref bH), .val (.int (5 : Int32)), .val (.int (p2.toInt16.toInt32)), .val (.int (p2.toInt16.toInt32)), .unset] [(.int (5 : Int32)), (.ref bL), (.int (p2.toInt16.toInt32))])) rfl rfl (hb hby at_244) _ kS) ?_
    show own_G p.tables e below _ (T0.setTop (mkF m 245 #[.val (.int p1), .val (.int p2), .val (.ref bK), .val (.ref bL), .val (.ref bH), .val (.int (5 : Int32)), .val (.int (p2.toInt16.toInt32)), .val (.int (p2.toInt16.toInt32)), .unset] [(.int (0 : Int32)), (.int (p2.toInt16.toInt32))]))
    by_cases hc245_53 : (p2.toInt16.toInt32) < (0 : Int32)
    · skip
      refine own_st (fun _ kS => XS.icmpNo X0.here hx rfl (hb hby at_245) rfl (tlt hc245_53).2.1 kS) ?_
      show own_G p.tables e below _ (T0.setTop (mkF m 248 #[.val (.int p1), .val (.int p2), .val (.ref bK), .val (.ref bL), .val (.ref bH), .val (.int (5 : Int32)), .val (.int (p2.toInt16.toInt32)), .val (.int (p2.toInt16.toInt32)), .unset] []))
      refine own_st (fun _ kS => XS.iconst X0.here hx rfl (hb hby at_248) kS) ?_
      show own_G p.tables e below _ (T0.setTop (mkF m 249 #[.val (.int p1), .val (.int p2), .val (.ref bK), .val (.ref bL), .val (.ref bH), .val (.int (5 : Int32)), .val (.int (p2.toInt16.toInt32)), .val (.int (p2.toInt16.toInt32)), .unset] [(.int (0 : Int32))]))
      refine own_st (fun _ kS => XS.istore X0.here hx rfl (hb hby at_249) rfl (l' := #[.val (.int p1), .val (.int p2), .val (.ref bK), .val (.ref bL), .val (.ref bH), .val (.int (5 : Int32)), .val (.int (p2.toInt16.toInt32)), .val (.int (p2.toInt16.toInt32)), .val (.int (0 : Int32))]) rfl kS) ?_
      show own_G p.tables e below _ (T0.setTop (mkF m 251 #[.val (.int p1), .val (.int p2), .val (.ref bK), .val (.ref bL), .val (.ref bH), .val (.int (5 : Int32)), .val (.int (p2.toInt16.toInt32)), .val (.int (p2.toInt16.toInt32)), .val (.int (0 : Int32))] []))
      refine own_st (fun _ kS => XS.goto X0.here hx rfl (pc0 := 251) (pc' := 273) rfl (hb hby at_251) (by decide) (by decide) kS) ?_
      show own_G p.tables e below _ (T0.setTop (mkF m 273 #[.val (.int p1), .val (.int p2), .val (.ref bK), .val (.ref bL), .val (.ref bH), .val (.int (5 : Int32)), .val (.int (p2.toInt16.toInt32)), .val (.int (p2.toInt16.toInt32)), .val (.int (0 : Int32))] []))
      refine own_st (fun _ kS => XS.aloadN X0.here hx rfl (hb hby at_273) rfl rfl kS) ?_
      show own_G p.tables e below _ (T0.setTop (mkF m 274 #[.val (.int p1), .val (.int p2), .val (.ref bK), .val (.ref bL), .val (.ref bH), .val (.int (5 : Int32)), .val (.int (p2.toInt16.toInt32)), .val (.int (p2.toInt16.toInt32)), .val (.int (0 : Int32))] [(.ref bK)]))
      refine own_st (fun _ kS => XS.iload X0.here hx rfl (hb hby at_274) rfl kS) ?_
      show own_G p.tables e below _ (T0.setTop (mkF m 276 #[.val (.int p1), .val (.int p2), .val (.ref bK), .val (.ref bL), .val (.ref bH), .val (.int (5 : Int32)), .val (.int (p2.toInt16.toInt32)), .val (.int (p2.toInt16.toInt32)), .val (.int (0 : Int32))] [(.int (5 : Int32)), (.ref bK)]))
      obtain ⟨cl54, Ar54, qa54, qs54, qn54, qh54, qg54⟩ := id R_K
      refine own_st (fun _ kS => X0.aaload hx (j := (5 : Int32)) (v := (.ref w_FIND_COORDINATOR)) (by rw [e0]; exact Ar54.1) (State.isArrayOf_alike hZ.alike Ar54.2.1) rfl Ar54.2.2 (inb_of qs54 ⟨by decide, by decide⟩) (qh54.at (inb_of qs54 ⟨by decide, by decide⟩) rfl) (g := (mkF m 276 #[.val (.int p1), .val (.int p2), .val (.ref bK), .val (.ref bL), .val (.ref bH), .val (.int (5 : Int32)), .val (.int (p2.toInt16.toInt32)), .val (.int (p2.toInt16.toInt32)), .val (.int (0 : Int32))] [(.int (5 : Int32)), (.ref bK)])) rfl rfl (hb hby at_276) _ kS) ?_
      show own_G p.tables e below _ (T0.setTop (mkF m 277 #[.val (.int p1), .val (.int p2), .val (.ref bK), .val (.ref bL), .val (.ref bH), .val (.int (5 : Int32)), .val (.int (p2.toInt16.toInt32)), .val (.int (p2.toInt16.toInt32)), .val (.int (0 : Int32))] [(.ref w_FIND_COORDINATOR)]))
      refine own_st (fun _ kS => XS.iload X0.here hx rfl (hb hby at_277) rfl kS) ?_
      show own_G p.tables e below _ (T0.setTop (mkF m 279 #[.val (.int p1), .val (.int p2), .val (.ref bK), .val (.ref bL), .val (.ref bH), .val (.int (5 : Int32)), .val (.int (p2.toInt16.toInt32)), .val (.int (p2.toInt16.toInt32)), .val (.int (0 : Int32))] [(.int (p2.toInt16.toInt32)), (.ref w_FIND_COORDINATOR)]))
      obtain ⟨cq55, kq55, q55a, q55b, q55c⟩ := isOf hZ e0 (Exa.ext O0.2 E_FIND_COORDINATOR)
      obtain ⟨_, _, ⟨T55, L55, k55, n55⟩, -, X55, ⟨Lc55, hQ55, l55, y55, z55⟩, st55⟩ := X0.virtualBack hx (y := (⟨"com/example/loose_grip/loosegrip/wire/ApiKey", "supports", "(S)Z"⟩ : MethodName)) (z := (⟨"com/example/loose_grip/loosegrip/wire/ApiKey", "supports", "(S)Z"⟩ : MethodName)) hown (mvT hZ (hw _ (List.mem_of_getElem? (i := 32) rfl))) (mvT hZ (hw _ (List.mem_of_getElem? (i := 33) rfl))) (notFace_of_selects (args := #[]) (mvT hZ (hw _ (List.mem_of_getElem? (i := 35) rfl)))) (mvT hZ (hw _ (List.mem_of_getElem? (i := 35) rfl))) (mvT hZ (hw _ (List.mem_of_getElem? (i := 34) rfl))) (by decide) (backOf (W := 0) (rm_sup_lt l Z a0 hw [] w_FIND_COORDINATOR (p2.toInt16.toInt32) (0 : Int32) h0 n0 Z0 O0 F_FIND_COORDINATOR_minVersion hc245_53) hZ (hw _ (List.mem_of_getElem? (i := 36) rfl)) (hw _ (List.mem_of_getElem? (i := 3) rfl)) (by decide) (by decide)) q55a q55c (g := (mkF m 279 #[.val (.int p1), .val (.int p2), .val (.ref bK), .val (.ref bL), .val (.ref bH), .val (.int (5 : Int32)), .val (.int (p2.toInt16.toInt32)), .val (.int (p2.toInt16.toInt32)), .val (.int (0 : Int32))] [(.int (p2.toInt16.toInt32)), (.ref w_FIND_COORDINATOR)])) rfl (by rw [hml]; rfl) (Steps.refl _) (argsL := [(.int (p2.toInt16.toInt32))]) (rest := []) (lenOf own_pd0 rfl) rfl (by show 2 * 0 + _ ≤ _; exact Nat.le_of_eq rfl) (hb hby at_279) (fun _ _ => ⟨rfl, e0, (by decide : 3 + 0 ≤ _), (by decide : 39 + 0 ≤ _)⟩)
      dsimp only [Pt.U, Pt.locs, Pt.cells, Pt.slots] at X55 l55 y55 z55 st55 hQ55
      subst l55 y55 z55
      obtain ⟨rfl, Nq55, eq55⟩ := hQ55
      have N55 := Fr.app N0 Nq55
      refine own_tr st55 ?_
      show own_G p.tables e below _ (T55.setTop (mkF m 282 #[.val (.int p1), .val (.int p2), .val (.ref bK), .val (.ref bL), .val (.ref bH), .val (.int (5 : Int32)), .val (.int (p2.toInt16.toInt32)), .val (.int (p2.toInt16.toInt32)), .val (.int (0 : Int32))] [(.int (0 : Int32))]))
      refine own_st (fun _ kS => XS.iload X55.here hx rfl (hb hby at_282) rfl kS) ?_
      show own_G p.tables e below _ (T55.setTop (mkF m 284 #[.val (.int p1), .val (.int p2), .val (.ref bK), .val (.ref bL), .val (.ref bH), .val (.int (5 : Int32)), .val (.int (p2.toInt16.toInt32)), .val (.int (p2.toInt16.toInt32)), .val (.int (0 : Int32))] [(.int (0 : Int32)), (.int (0 : Int32))]))
      refine own_st (fun _ kS => XS.icmpNo X55.here hx rfl (hb hby at_284) rfl (teq (by decide : (0 : Int32) = (0 : Int32))).2 kS) ?_
      show own_G p.tables e below _ (T55.setTop (mkF m 287 #[.val (.int p1), .val (.int p2), .val (.ref bK), .val (.ref bL), .val (.ref bH), .val (.int (5 : Int32)), .val (.int (p2.toInt16.toInt32)), .val (.int (p2.toInt16.toInt32)), .val (.int (0 : Int32))] []))
      refine own_st (fun _ kS => XS.iconst X55.here hx rfl (hb hby at_287) kS) ?_
      show own_G p.tables e below _ (T55.setTop (mkF m 288 #[.val (.int p1), .val (.int p2), .val (.ref bK), .val (.ref bL), .val (.ref bH), .val (.int (5 : Int32)), .val (.int (p2.toInt16.toInt32)), .val (.int (p2.toInt16.toInt32)), .val (.int (0 : Int32))] [(.int (1 : Int32))]))
      refine own_st (fun _ kS => XS.goto X55.here hx rfl (pc0 := 288) (pc' := 292) rfl (hb hby at_288) (by decide) (by decide) kS) ?_
      show own_G p.tables e below _ (T55.setTop (mkF m 292 #[.val (.int p1), .val (.int p2), .val (.ref bK), .val (.ref bL), .val (.ref bH), .val (.int (5 : Int32)), .val (.int (p2.toInt16.toInt32)), .val (.int (p2.toInt16.toInt32)), .val (.int (0 : Int32))] [(.int (1 : Int32))]))
      exact own_retN X55 hx hlk (t := .boolean) hret (by simp) (hb hby at_292) (by decide) (by decide) (v' := (1 : Int32)) rfl (by rw [eq55]; exact ⟨rfl, N55⟩)
    · skip
      refine own_st (fun _ kS => XS.icmpYes X0.here hx rfl (pc0 := 245) (pc' := 254) rfl (hb hby at_245) rfl (flt hc245_53).2.1 (by decide) (by decide) kS) ?_
      show own_G p.tables e below _ (T0.setTop (mkF m 254 #[.val (.int p1), .val (.int p2), .val (.ref bK), .val (.ref bL), .val (.ref bH), .val (.int (5 : Int32)), .val (.int (p2.toInt16.toInt32)), .val (.int (p2.toInt16.toInt32)), .unset] []))
      refine own_st (fun _ kS => XS.iload X0.here hx rfl (hb hby at_254) rfl kS) ?_
      show own_G p.tables e below _ (T0.setTop (mkF m 256 #[.val (.int p1), .val (.int p2), .val (.ref bK), .val (.ref bL), .val (.ref bH), .val (.int (5 : Int32)), .val (.int (p2.toInt16.toInt32)), .val (.int (p2.toInt16.toInt32)), .unset] [(.int (p2.toInt16.toInt32))]))
      refine own_st (fun _ kS => XS.aload X0.here hx rfl (hb hby at_256) rfl rfl kS) ?_
      show own_G p.tables e below _ (T0.setTop (mkF m 258 #[.val (.int p1), .val (.int p2), .val (.ref bK), .val (.ref bL), .val (.ref bH), .val (.int (5 : Int32)), .val (.int (p2.toInt16.toInt32)), .val (.int (p2.toInt16.toInt32)), .unset] [(.ref bH), (.int (p2.toInt16.toInt32))]))
      refine own_st (fun _ kS => XS.iload X0.here hx rfl (hb hby at_258) rfl kS) ?_
      show own_G p.tables e below _ (T0.setTop (mkF m 260 #[.val (.int p1), .val (.int p2), .val (.ref bK), .val (.ref bL), .val (.ref bH), .val (.int (5 : Int32)), .val (.int (p2.toInt16.toInt32)), .val (.int (p2.toInt16.toInt32)), .unset] [(.int (5 : Int32)), (.ref bH), (.int (p2.toInt16.toInt32))]))
      obtain ⟨cl56, Ar56, qa56, qs56, qn56, qh56, qg56⟩ := id R_H
      refine own_st (fun _ kS => X0.iaload hx (j := (5 : Int32)) (v := (.int (2 : Int32))) (by rw [e0]; exact Ar56.1) (State.isArrayOf_alike hZ.alike Ar56.2.1) Ar56.2.2 (inb_of qs56 ⟨by decide, by decide⟩) (qh56.at (inb_of qs56 ⟨by decide, by decide⟩) rfl) (g := (mkF m 260 #[.val (.int p1), .val (.int p2), .val (.ref bK), .val (.ref bL), .val (.ref bH), .val (.int (5 : Int32)), .val (.int (p2.toInt16.toInt32)), .val (.int (p2.toInt16.toInt32)), .unset] [(.int (5 : Int32)), (.ref bH), (.int (p2.toInt16.toInt32))])) rfl rfl (hb hby at_260) _ kS) ?_
      show own_G p.tables e below _ (T0.setTop (mkF m 261 #[.val (.int p1), .val (.int p2), .val (.ref bK), .val (.ref bL), .val (.ref bH), .val (.int (5 : Int32)), .val (.int (p2.toInt16.toInt32)), .val (.int (p2.toInt16.toInt32)), .unset] [(.int (2 : Int32)), (.int (p2.toInt16.toInt32))]))
      by_cases hc261_57 : (2 : Int32) < (p2.toInt16.toInt32)
      · skip
        refine own_st (fun _ kS => XS.icmpNo X0.here hx rfl (hb hby at_261) rfl (tlt hc261_57).2.2.2 kS) ?_
        show own_G p.tables e below _ (T0.setTop (mkF m 264 #[.val (.int p1), .val (.int p2), .val (.ref bK), .val (.ref bL), .val (.ref bH), .val (.int (5 : Int32)), .val (.int (p2.toInt16.toInt32)), .val (.int (p2.toInt16.toInt32)), .unset] []))
        refine own_st (fun _ kS => XS.iconst X0.here hx rfl (hb hby at_264) kS) ?_
        show own_G p.tables e below _ (T0.setTop (mkF m 265 #[.val (.int p1), .val (.int p2), .val (.ref bK), .val (.ref bL), .val (.ref bH), .val (.int (5 : Int32)), .val (.int (p2.toInt16.toInt32)), .val (.int (p2.toInt16.toInt32)), .unset] [(.int (0 : Int32))]))
        refine own_st (fun _ kS => XS.istore X0.here hx rfl (hb hby at_265) rfl (l' := #[.val (.int p1), .val (.int p2), .val (.ref bK), .val (.ref bL), .val (.ref bH), .val (.int (5 : Int32)), .val (.int (p2.toInt16.toInt32)), .val (.int (p2.toInt16.toInt32)), .val (.int (0 : Int32))]) rfl kS) ?_
        show own_G p.tables e below _ (T0.setTop (mkF m 267 #[.val (.int p1), .val (.int p2), .val (.ref bK), .val (.ref bL), .val (.ref bH), .val (.int (5 : Int32)), .val (.int (p2.toInt16.toInt32)), .val (.int (p2.toInt16.toInt32)), .val (.int (0 : Int32))] []))
        refine own_st (fun _ kS => XS.goto X0.here hx rfl (pc0 := 267) (pc' := 273) rfl (hb hby at_267) (by decide) (by decide) kS) ?_
        show own_G p.tables e below _ (T0.setTop (mkF m 273 #[.val (.int p1), .val (.int p2), .val (.ref bK), .val (.ref bL), .val (.ref bH), .val (.int (5 : Int32)), .val (.int (p2.toInt16.toInt32)), .val (.int (p2.toInt16.toInt32)), .val (.int (0 : Int32))] []))
        refine own_st (fun _ kS => XS.aloadN X0.here hx rfl (hb hby at_273) rfl rfl kS) ?_
        show own_G p.tables e below _ (T0.setTop (mkF m 274 #[.val (.int p1), .val (.int p2), .val (.ref bK), .val (.ref bL), .val (.ref bH), .val (.int (5 : Int32)), .val (.int (p2.toInt16.toInt32)), .val (.int (p2.toInt16.toInt32)), .val (.int (0 : Int32))] [(.ref bK)]))
        refine own_st (fun _ kS => XS.iload X0.here hx rfl (hb hby at_274) rfl kS) ?_
        show own_G p.tables e below _ (T0.setTop (mkF m 276 #[.val (.int p1), .val (.int p2), .val (.ref bK), .val (.ref bL), .val (.ref bH), .val (.int (5 : Int32)), .val (.int (p2.toInt16.toInt32)), .val (.int (p2.toInt16.toInt32)), .val (.int (0 : Int32))] [(.int (5 : Int32)), (.ref bK)]))
        obtain ⟨cl58, Ar58, qa58, qs58, qn58, qh58, qg58⟩ := id R_K
        refine own_st (fun _ kS => X0.aaload hx (j := (5 : Int32)) (v := (.ref w_FIND_COORDINATOR)) (by rw [e0]; exact Ar58.1) (State.isArrayOf_alike hZ.alike Ar58.2.1) rfl Ar58.2.2 (inb_of qs58 ⟨by decide, by decide⟩) (qh58.at (inb_of qs58 ⟨by decide, by decide⟩) rfl) (g := (mkF m 276 #[.val (.int p1), .val (.int p2), .val (.ref bK), .val (.ref bL), .val (.ref bH), .val (.int (5 : Int32)), .val (.int (p2.toInt16.toInt32)), .val (.int (p2.toInt16.toInt32)), .val (.int (0 : Int32))] [(.int (5 : Int32)), (.ref bK)])) rfl rfl (hb hby at_276) _ kS) ?_
        show own_G p.tables e below _ (T0.setTop (mkF m 277 #[.val (.int p1), .val (.int p2), .val (.ref bK), .val (.ref bL), .val (.ref bH), .val (.int (5 : Int32)), .val (.int (p2.toInt16.toInt32)), .val (.int (p2.toInt16.toInt32)), .val (.int (0 : Int32))] [(.ref w_FIND_COORDINATOR)]))
        refine own_st (fun _ kS => XS.iload X0.here hx rfl (hb hby at_277) rfl kS) ?_
        show own_G p.tables e below _ (T0.setTop (mkF m 279 #[.val (.int p1), .val (.int p2), .val (.ref bK), .val (.ref bL), .val (.ref bH), .val (.int (5 : Int32)), .val (.int (p2.toInt16.toInt32)), .val (.int (p2.toInt16.toInt32)), .val (.int (0 : Int32))] [(.int (p2.toInt16.toInt32)), (.ref w_FIND_COORDINATOR)]))
        obtain ⟨cq59, kq59, q59a, q59b, q59c⟩ := isOf hZ e0 (Exa.ext O0.2 E_FIND_COORDINATOR)
        obtain ⟨_, _, ⟨T59, L59, k59, n59⟩, -, X59, ⟨Lc59, hQ59, l59, y59, z59⟩, st59⟩ := X0.virtualBack hx (y := (⟨"com/example/loose_grip/loosegrip/wire/ApiKey", "supports", "(S)Z"⟩ : MethodName)) (z := (⟨"com/example/loose_grip/loosegrip/wire/ApiKey", "supports", "(S)Z"⟩ : MethodName)) hown (mvT hZ (hw _ (List.mem_of_getElem? (i := 32) rfl))) (mvT hZ (hw _ (List.mem_of_getElem? (i := 33) rfl))) (notFace_of_selects (args := #[]) (mvT hZ (hw _ (List.mem_of_getElem? (i := 35) rfl)))) (mvT hZ (hw _ (List.mem_of_getElem? (i := 35) rfl))) (mvT hZ (hw _ (List.mem_of_getElem? (i := 34) rfl))) (by decide) (backOf (W := 0) (rm_sup_gt l Z a0 hw [] w_FIND_COORDINATOR (p2.toInt16.toInt32) (0 : Int32) (2 : Int32) h0 n0 Z0 O0 F_FIND_COORDINATOR_minVersion F_FIND_COORDINATOR_maxVersion hc245_53 hc261_57) hZ (hw _ (List.mem_of_getElem? (i := 36) rfl)) (hw _ (List.mem_of_getElem? (i := 3) rfl)) (by decide) (by decide)) q59a q59c (g := (mkF m 279 #[.val (.int p1), .val (.int p2), .val (.ref bK), .val (.ref bL), .val (.ref bH), .val (.int (5 : Int32)), .val (.int (p2.toInt16.toInt32)), .val (.int (p2.toInt16.toInt32)), .val (.int (0 : Int32))] [(.int (p2.toInt16.toInt32)), (.ref w_FIND_COORDINATOR)])) rfl (by rw [hml]; rfl) (Steps.refl _) (argsL := [(.int (p2.toInt16.toInt32))]) (rest := []) (lenOf own_pd0 rfl) rfl (by show 2 * 0 + _ ≤ _; exact Nat.le_of_eq rfl) (hb hby at_279) (fun _ _ => ⟨rfl, e0, (by decide : 3 + 0 ≤ _), (by decide : 39 + 0 ≤ _)⟩)
        dsimp only [Pt.U, Pt.locs, Pt.cells, Pt.slots] at X59 l59 y59 z59 st59 hQ59
        subst l59 y59 z59
        obtain ⟨rfl, Nq59, eq59⟩ := hQ59
        have N59 := Fr.app N0 Nq59
        refine own_tr st59 ?_
        show own_G p.tables e below _ (T59.setTop (mkF m 282 #[.val (.int p1), .val (.int p2), .val (.ref bK), .val (.ref bL), .val (.ref bH), .val (.int (5 : Int32)), .val (.int (p2.toInt16.toInt32)), .val (.int (p2.toInt16.toInt32)), .val (.int (0 : Int32))] [(.int (0 : Int32))]))
        refine own_st (fun _ kS => XS.iload X59.here hx rfl (hb hby at_282) rfl kS) ?_
        show own_G p.tables e below _ (T59.setTop (mkF m 284 #[.val (.int p1), .val (.int p2), .val (.ref bK), .val (.ref bL), .val (.ref bH), .val (.int (5 : Int32)), .val (.int (p2.toInt16.toInt32)), .val (.int (p2.toInt16.toInt32)), .val (.int (0 : Int32))] [(.int (0 : Int32)), (.int (0 : Int32))]))
        refine own_st (fun _ kS => XS.icmpNo X59.here hx rfl (hb hby at_284) rfl (teq (by decide : (0 : Int32) = (0 : Int32))).2 kS) ?_
        show own_G p.tables e below _ (T59.setTop (mkF m 287 #[.val (.int p1), .val (.int p2), .val (.ref bK), .val (.ref bL), .val (.ref bH), .val (.int (5 : Int32)), .val (.int (p2.toInt16.toInt32)), .val (.int (p2.toInt16.toInt32)), .val (.int (0 : Int32))] []))
        refine own_st (fun _ kS => XS.iconst X59.here hx rfl (hb hby at_287) kS) ?_
        show own_G p.tables e below _ (T59.setTop (mkF m 288 #[.val (.int p1), .val (.int p2), .val (.ref bK), .val (.ref bL), .val (.ref bH), .val (.int (5 : Int32)), .val (.int (p2.toInt16.toInt32)), .val (.int (p2.toInt16.toInt32)), .val (.int (0 : Int32))] [(.int (1 : Int32))]))
        refine own_st (fun _ kS => XS.goto X59.here hx rfl (pc0 := 288) (pc' := 292) rfl (hb hby at_288) (by decide) (by decide) kS) ?_
        show own_G p.tables e below _ (T59.setTop (mkF m 292 #[.val (.int p1), .val (.int p2), .val (.ref bK), .val (.ref bL), .val (.ref bH), .val (.int (5 : Int32)), .val (.int (p2.toInt16.toInt32)), .val (.int (p2.toInt16.toInt32)), .val (.int (0 : Int32))] [(.int (1 : Int32))]))
        exact own_retN X59 hx hlk (t := .boolean) hret (by simp) (hb hby at_292) (by decide) (by decide) (v' := (1 : Int32)) rfl (by rw [eq59]; exact ⟨rfl, N59⟩)
      · skip
        refine own_st (fun _ kS => XS.icmpYes X0.here hx rfl (pc0 := 261) (pc' := 270) rfl (hb hby at_261) rfl (flt hc261_57).2.2.2 (by decide) (by decide) kS) ?_
        show own_G p.tables e below _ (T0.setTop (mkF m 270 #[.val (.int p1), .val (.int p2), .val (.ref bK), .val (.ref bL), .val (.ref bH), .val (.int (5 : Int32)), .val (.int (p2.toInt16.toInt32)), .val (.int (p2.toInt16.toInt32)), .unset] []))
        refine own_st (fun _ kS => XS.iconst X0.here hx rfl (hb hby at_270) kS) ?_
        show own_G p.tables e below _ (T0.setTop (mkF m 271 #[.val (.int p1), .val (.int p2), .val (.ref bK), .val (.ref bL), .val (.ref bH), .val (.int (5 : Int32)), .val (.int (p2.toInt16.toInt32)), .val (.int (p2.toInt16.toInt32)), .unset] [(.int (1 : Int32))]))
        refine own_st (fun _ kS => XS.istore X0.here hx rfl (hb hby at_271) rfl (l' := #[.val (.int p1), .val (.int p2), .val (.ref bK), .val (.ref bL), .val (.ref bH), .val (.int (5 : Int32)), .val (.int (p2.toInt16.toInt32)), .val (.int (p2.toInt16.toInt32)), .val (.int (1 : Int32))]) rfl kS) ?_
        show own_G p.tables e below _ (T0.setTop (mkF m 273 #[.val (.int p1), .val (.int p2), .val (.ref bK), .val (.ref bL), .val (.ref bH), .val (.int (5 : Int32)), .val (.int (p2.toInt16.toInt32)), .val (.int (p2.toInt16.toInt32)), .val (.int (1 : Int32))] []))
        refine own_st (fun _ kS => XS.aloadN X0.here hx rfl (hb hby at_273) rfl rfl kS) ?_
        show own_G p.tables e below _ (T0.setTop (mkF m 274 #[.val (.int p1), .val (.int p2), .val (.ref bK), .val (.ref bL), .val (.ref bH), .val (.int (5 : Int32)), .val (.int (p2.toInt16.toInt32)), .val (.int (p2.toInt16.toInt32)), .val (.int (1 : Int32))] [(.ref bK)]))
        refine own_st (fun _ kS => XS.iload X0.here hx rfl (hb hby at_274) rfl kS) ?_
        show own_G p.tables e below _ (T0.setTop (mkF m 276 #[.val (.int p1), .val (.int p2), .val (.ref bK), .val (.ref bL), .val (.ref bH), .val (.int (5 : Int32)), .val (.int (p2.toInt16.toInt32)), .val (.int (p2.toInt16.toInt32)), .val (.int (1 : Int32))] [(.int (5 : Int32)), (.ref bK)]))
        obtain ⟨cl60, Ar60, qa60, qs60, qn60, qh60, qg60⟩ := id R_K
        refine own_st (fun _ kS => X0.aaload hx (j := (5 : Int32)) (v := (.ref w_FIND_COORDINATOR)) (by rw [e0]; exact Ar60.1) (State.isArrayOf_alike hZ.alike Ar60.2.1) rfl Ar60.2.2 (inb_of qs60 ⟨by decide, by decide⟩) (qh60.at (inb_of qs60 ⟨by decide, by decide⟩) rfl) (g := (mkF m 276 #[.val (.int p1), .val (.int p2), .val (.ref bK), .val (.ref bL), .val (.ref bH), .val (.int (5 : Int32)), .val (.int (p2.toInt16.toInt32)), .val (.int (p2.toInt16.toInt32)), .val (.int (1 : Int32))] [(.int (5 : Int32)), (.ref bK)])) rfl rfl (hb hby at_276) _ kS) ?_
        show own_G p.tables e below _ (T0.setTop (mkF m 277 #[.val (.int p1), .val (.int p2), .val (.ref bK), .val (.ref bL), .val (.ref bH), .val (.int (5 : Int32)), .val (.int (p2.toInt16.toInt32)), .val (.int (p2.toInt16.toInt32)), .val (.int (1 : Int32))] [(.ref w_FIND_COORDINATOR)]))
        refine own_st (fun _ kS => XS.iload X0.here hx rfl (hb hby at_277) rfl kS) ?_
        show own_G p.tables e below _ (T0.setTop (mkF m 279 #[.val (.int p1), .val (.int p2), .val (.ref bK), .val (.ref bL), .val (.ref bH), .val (.int (5 : Int32)), .val (.int (p2.toInt16.toInt32)), .val (.int (p2.toInt16.toInt32)), .val (.int (1 : Int32))] [(.int (p2.toInt16.toInt32)), (.ref w_FIND_COORDINATOR)]))
        obtain ⟨cq61, kq61, q61a, q61b, q61c⟩ := isOf hZ e0 (Exa.ext O0.2 E_FIND_COORDINATOR)
        obtain ⟨_, _, ⟨T61, L61, k61, n61⟩, -, X61, ⟨Lc61, hQ61, l61, y61, z61⟩, st61⟩ := X0.virtualBack hx (y := (⟨"com/example/loose_grip/loosegrip/wire/ApiKey", "supports", "(S)Z"⟩ : MethodName)) (z := (⟨"com/example/loose_grip/loosegrip/wire/ApiKey", "supports", "(S)Z"⟩ : MethodName)) hown (mvT hZ (hw _ (List.mem_of_getElem? (i := 32) rfl))) (mvT hZ (hw _ (List.mem_of_getElem? (i := 33) rfl))) (notFace_of_selects (args := #[]) (mvT hZ (hw _ (List.mem_of_getElem? (i := 35) rfl)))) (mvT hZ (hw _ (List.mem_of_getElem? (i := 35) rfl))) (mvT hZ (hw _ (List.mem_of_getElem? (i := 34) rfl))) (by decide) (backOf (W := 0) (rm_sup_in l Z a0 hw [] w_FIND_COORDINATOR (p2.toInt16.toInt32) (0 : Int32) (2 : Int32) h0 n0 Z0 O0 F_FIND_COORDINATOR_minVersion F_FIND_COORDINATOR_maxVersion hc245_53 hc261_57) hZ (hw _ (List.mem_of_getElem? (i := 36) rfl)) (hw _ (List.mem_of_getElem? (i := 3) rfl)) (by decide) (by decide)) q61a q61c (g := (mkF m 279 #[.val (.int p1), .val (.int p2), .val (.ref bK), .val (.ref bL), .val (.ref bH), .val (.int (5 : Int32)), .val (.int (p2.toInt16.toInt32)), .val (.int (p2.toInt16.toInt32)), .val (.int (1 : Int32))] [(.int (p2.toInt16.toInt32)), (.ref w_FIND_COORDINATOR)])) rfl (by rw [hml]; rfl) (Steps.refl _) (argsL := [(.int (p2.toInt16.toInt32))]) (rest := []) (lenOf own_pd0 rfl) rfl (by show 2 * 0 + _ ≤ _; exact Nat.le_of_eq rfl) (hb hby at_279) (fun _ _ => ⟨rfl, e0, (by decide : 3 + 0 ≤ _), (by decide : 39 + 0 ≤ _)⟩)
        dsimp only [Pt.U, Pt.locs, Pt.cells, Pt.slots] at X61 l61 y61 z61 st61 hQ61
        subst l61 y61 z61
        obtain ⟨rfl, Nq61, eq61⟩ := hQ61
        have N61 := Fr.app N0 Nq61
        refine own_tr st61 ?_
        show own_G p.tables e below _ (T61.setTop (mkF m 282 #[.val (.int p1), .val (.int p2), .val (.ref bK), .val (.ref bL), .val (.ref bH), .val (.int (5 : Int32)), .val (.int (p2.toInt16.toInt32)), .val (.int (p2.toInt16.toInt32)), .val (.int (1 : Int32))] [(.int (1 : Int32))]))
        refine own_st (fun _ kS => XS.iload X61.here hx rfl (hb hby at_282) rfl kS) ?_
        show own_G p.tables e below _ (T61.setTop (mkF m 284 #[.val (.int p1), .val (.int p2), .val (.ref bK), .val (.ref bL), .val (.ref bH), .val (.int (5 : Int32)), .val (.int (p2.toInt16.toInt32)), .val (.int (p2.toInt16.toInt32)), .val (.int (1 : Int32))] [(.int (1 : Int32)), (.int (1 : Int32))]))
        refine own_st (fun _ kS => XS.icmpNo X61.here hx rfl (hb hby at_284) rfl (teq (by decide : (1 : Int32) = (1 : Int32))).2 kS) ?_
        show own_G p.tables e below _ (T61.setTop (mkF m 287 #[.val (.int p1), .val (.int p2), .val (.ref bK), .val (.ref bL), .val (.ref bH), .val (.int (5 : Int32)), .val (.int (p2.toInt16.toInt32)), .val (.int (p2.toInt16.toInt32)), .val (.int (1 : Int32))] []))
        refine own_st (fun _ kS => XS.iconst X61.here hx rfl (hb hby at_287) kS) ?_
        show own_G p.tables e below _ (T61.setTop (mkF m 288 #[.val (.int p1), .val (.int p2), .val (.ref bK), .val (.ref bL), .val (.ref bH), .val (.int (5 : Int32)), .val (.int (p2.toInt16.toInt32)), .val (.int (p2.toInt16.toInt32)), .val (.int (1 : Int32))] [(.int (1 : Int32))]))
        refine own_st (fun _ kS => XS.goto X61.here hx rfl (pc0 := 288) (pc' := 292) rfl (hb hby at_288) (by decide) (by decide) kS) ?_
        show own_G p.tables e below _ (T61.setTop (mkF m 292 #[.val (.int p1), .val (.int p2), .val (.ref bK), .val (.ref bL), .val (.ref bH), .val (.int (5 : Int32)), .val (.int (p2.toInt16.toInt32)), .val (.int (p2.toInt16.toInt32)), .val (.int (1 : Int32))] [(.int (1 : Int32))]))
        exact own_retN X61 hx hlk (t := .boolean) hret (by simp) (hb hby at_292) (by decide) (by decide) (v' := (1 : Int32)) rfl (by rw [eq61]; exact ⟨rfl, N61⟩)
  · rw [hk1]
    show own_G p.tables e below _ (T0.setTop (mkF m 229 #[.val (.int p1), .val (.int p2), .val (.ref bK), .val (.ref bL), .val (.ref bH), .unset, .unset, .unset, .unset] [(.int (6 : Int32))]))
    refine own_st (fun _ kS => XS.istore X0.here hx rfl (hb hby at_229) rfl (l' := #[.val (.int p1), .val (.int p2), .val (.ref bK), .val (.ref bL), .val (.ref bH), .val (.int (6 : Int32)), .unset, .unset, .unset]) rfl kS) ?_
    show own_G p.tables e below _ (T0.setTop (mkF m 231 #[.val (.int p1), .val (.int p2), .val (.ref bK), .val (.ref bL), .val (.ref bH), .val (.int (6 : Int32)), .unset, .unset, .unset] []))
    refine own_st (fun _ kS => XS.iloadN X0.here hx rfl (hb hby at_231) rfl kS) ?_
    show own_G p.tables e below _ (T0.setTop (mkF m 232 #[.val (.int p1), .val (.int p2), .val (.ref bK), .val (.ref bL), .val (.ref bH), .val (.int (6 : Int32)), .unset, .unset, .unset] [(.int p2)]))
    refine own_st (fun _ kS => XT.i2s X0.here hx rfl (hb hby at_232) rfl kS) ?_
    show own_G p.tables e below _ (T0.setTop (mkF m 233 #[.val (.int p1), .val (.int p2), .val (.ref bK), .val (.ref bL), .val (.ref bH), .val (.int (6 : Int32)), .unset, .unset, .unset] [(.int (p2.toInt16.toInt32))]))
    refine own_st (fun _ kS => XS.istore X0.here hx rfl (hb hby at_233) rfl (l' := #[.val (.int p1), .val (.int p2), .val (.ref bK), .val (.ref bL), .val (.ref bH), .val (.int (6 : Int32)), .val (.int (p2.toInt16.toInt32)), .unset, .unset]) rfl kS) ?_
    show own_G p.tables e below _ (T0.setTop (mkF m 235 #[.val (.int p1), .val (.int p2), .val (.ref bK), .val (.ref bL), .val (.ref bH), .val (.int (6 : Int32)), .val (.int (p2.toInt16.toInt32)), .unset, .unset] []))
    refine own_st (fun _ kS => XS.iload X0.here hx rfl (hb hby at_235) rfl kS) ?_
    show own_G p.tables e below _ (T0.setTop (mkF m 237 #[.val (.int p1), .val (.int p2), .val (.ref bK), .val (.ref bL), .val (.ref bH), .val (.int (6 : Int32)), .val (.int (p2.toInt16.toInt32)), .unset, .unset] [(.int (p2.toInt16.toInt32))]))
    refine own_st (fun _ kS => XS.istore X0.here hx rfl (hb hby at_237) rfl (l' := #[.val (.int p1), .val (.int p2), .val (.ref bK), .val (.ref bL), .val (.ref bH), .val (.int (6 : Int32)), .val (.int (p2.toInt16.toInt32)), .val (.int (p2.toInt16.toInt32)), .unset]) rfl kS) ?_
    show own_G p.tables e below _ (T0.setTop (mkF m 239 #[.val (.int p1), .val (.int p2), .val (.ref bK), .val (.ref bL), .val (.ref bH), .val (.int (6 : Int32)), .val (.int (p2.toInt16.toInt32)), .val (.int (p2.toInt16.toInt32)), .unset] []))
    refine own_st (fun _ kS => XS.iload X0.here hx rfl (hb hby at_239) rfl kS) ?_
    show own_G p.tables e below _ (T0.setTop (mkF m 241 #[.val (.int p1), .val (.int p2), .val (.ref bK), .val (.ref bL), .val (.ref bH), .val (.int (6 : Int32)), .val (.int (p2.toInt16.toInt32)), .val (.int (p2.toInt16.toInt32)), .unset] [(.int (p2.toInt16.toInt32))]))
    refine own_st (fun _ kS => XS.aloadN X0.here hx rfl (hb hby at_241) rfl rfl kS) ?_
    show own_G p.tables e below _ (T0.setTop (mkF m 242 #[.val (.int p1), .val (.int p2), .val (.ref bK), .val (.ref bL), .val (.ref bH), .val (.int (6 : Int32)), .val (.int (p2.toInt16.toInt32)), .val (.int (p2.toInt16.toInt32)), .unset] [(.ref bL), (.int (p2.toInt16.toInt32))]))
    refine own_st (fun _ kS => XS.iload X0.here hx rfl (hb hby at_242) rfl kS) ?_
    show own_G p.tables e below _ (T0.setTop (mkF m 244 #[.val (.int p1), .val (.int p2), .val (.ref bK), .val (.ref bL), .val (.ref bH), .val (.int (6 : Int32)), .val (.int (p2.toInt16.toInt32)), .val (.int (p2.toInt16.toInt32)), .unset] [(.int (6 : Int32)), (.ref bL), (.int (p2.toInt16.toInt32))]))
    obtain ⟨cl62, Ar62, qa62, qs62, qn62, qh62, qg62⟩ := id R_L
    refine own_st (fun _ kS => X0.iaload hx (j := (6 : Int32)) (v := (.int (0 : Int32))) (by rw [e0]; exact Ar62.1) (State.isArrayOf_alike hZ.alike Ar62.2.1) Ar62.2.2 (inb_of qs62 ⟨by decide, by decide⟩) (qh62.at (inb_of qs62 ⟨by decide, by decide⟩) rfl) (g := (mkF m 244 #[.val (.int p1), .val (.int p2), .val (.ref bK), .val (.ref bL), .val (.ref bH), .val (.int (6 : Int32)), .val (.int (p2.toInt16.toInt32)), .val (.int (p2.toInt16.toInt32)), .unset] [(.int (6 : Int32)), (.ref bL), (.int (p2.toInt16.toInt32))])) rfl rfl (hb hby at_244) _ kS) ?_
    show own_G p.tables e below _ (T0.setTop (mkF m 245 #[.val (.int p1), .val (.int p2), .val (.ref bK), .val (.ref bL), .val (.ref bH), .val (.int (6 : Int32)), .val (.int (p2.toInt16.toInt32)), .val (.int (p2.toInt16.toInt32)), .unset] [(.int (0 : Int32)), (.int (p2.toInt16.toInt32))]))
    by_cases hc245_63 : (p2.toInt16.toInt32) < (0 : Int32)
    · skip
      refine own_st (fun _ kS => XS.icmpNo X0.here hx rfl (hb hby at_245) rfl (tlt hc245_63).2.1 kS) ?_
      show own_G p.tables e below _ (T0.setTop (mkF m 248 #[.val (.int p1), .val (.int p2), .val (.ref bK), .val (.ref bL), .val (.ref bH), .val (.int (6 : Int32)), .val (.int (p2.toInt16.toInt32)), .val (.int (p2.toInt16.toInt32)), .unset] []))
      refine own_st (fun _ kS => XS.iconst X0.here hx rfl (hb hby at_248) kS) ?_
      show own_G p.tables e below _ (T0.setTop (mkF m 249 #[.val (.int p1), .val (.int p2), .val (.ref bK), .val (.ref bL), .val (.ref bH), .val (.int (6 : Int32)), .val (.int (p2.toInt16.toInt32)), .val (.int (p2.toInt16.toInt32)), .unset] [(.int (0 : Int32))]))
      refine own_st (fun _ kS => XS.istore X0.here hx rfl (hb hby at_249) rfl (l' := #[.val (.int p1), .val (.int p2), .val (.ref bK), .val (.ref bL), .val (.ref bH), .val (.int (6 : Int32)), .val (.int (p2.toInt16.toInt32)), .val (.int (p2.toInt16.toInt32)), .val (.int (0 : Int32))]) rfl kS) ?_
      show own_G p.tables e below _ (T0.setTop (mkF m 251 #[.val (.int p1), .val (.int p2), .val (.ref bK), .val (.ref bL), .val (.ref bH), .val (.int (6 : Int32)), .val (.int (p2.toInt16.toInt32)), .val (.int (p2.toInt16.toInt32)), .val (.int (0 : Int32))] []))
      refine own_st (fun _ kS => XS.goto X0.here hx rfl (pc0 := 251) (pc' := 273) rfl (hb hby at_251) (by decide) (by decide) kS) ?_
      show own_G p.tables e below _ (T0.setTop (mkF m 273 #[.val (.int p1), .val (.int p2), .val (.ref bK), .val (.ref bL), .val (.ref bH), .val (.int (6 : Int32)), .val (.int (p2.toInt16.toInt32)), .val (.int (p2.toInt16.toInt32)), .val (.int (0 : Int32))] []))
      refine own_st (fun _ kS => XS.aloadN X0.here hx rfl (hb hby at_273) rfl rfl kS) ?_
      show own_G p.tables e below _ (T0.setTop (mkF m 274 #[.val (.int p1), .val (.int p2), .val (.ref bK), .val (.ref bL), .val (.ref bH), .val (.int (6 : Int32)), .val (.int (p2.toInt16.toInt32)), .val (.int (p2.toInt16.toInt32)), .val (.int (0 : Int32))] [(.ref bK)]))
      refine own_st (fun _ kS => XS.iload X0.here hx rfl (hb hby at_274) rfl kS) ?_
      show own_G p.tables e below _ (T0.setTop (mkF m 276 #[.val (.int p1), .val (.int p2), .val (.ref bK), .val (.ref bL), .val (.ref bH), .val (.int (6 : Int32)), .val (.int (p2.toInt16.toInt32)), .val (.int (p2.toInt16.toInt32)), .val (.int (0 : Int32))] [(.int (6 : Int32)), (.ref bK)]))
      obtain ⟨cl64, Ar64, qa64, qs64, qn64, qh64, qg64⟩ := id R_K
      refine own_st (fun _ kS => X0.aaload hx (j := (6 : Int32)) (v := (.ref w_JOIN_GROUP)) (by rw [e0]; exact Ar64.1) (State.isArrayOf_alike hZ.alike Ar64.2.1) rfl Ar64.2.2 (inb_of qs64 ⟨by decide, by decide⟩) (qh64.at (inb_of qs64 ⟨by decide, by decide⟩) rfl) (g := (mkF m 276 #[.val (.int p1), .val (.int p2), .val (.ref bK), .val (.ref bL), .val (.ref bH), .val (.int (6 : Int32)), .val (.int (p2.toInt16.toInt32)), .val (.int (p2.toInt16.toInt32)), .val (.int (0 : Int32))] [(.int (6 : Int32)), (.ref bK)])) rfl rfl (hb hby at_276) _ kS) ?_
      show own_G p.tables e below _ (T0.setTop (mkF m 277 #[.val (.int p1), .val (.int p2), .val (.ref bK), .val (.ref bL), .val (.ref bH), .val (.int (6 : Int32)), .val (.int (p2.toInt16.toInt32)), .val (.int (p2.toInt16.toInt32)), .val (.int (0 : Int32))] [(.ref w_JOIN_GROUP)]))
      refine own_st (fun _ kS => XS.iload X0.here hx rfl (hb hby at_277) rfl kS) ?_
      show own_G p.tables e below _ (T0.setTop (mkF m 279 #[.val (.int p1), .val (.int p2), .val (.ref bK), .val (.ref bL), .val (.ref bH), .val (.int (6 : Int32)), .val (.int (p2.toInt16.toInt32)), .val (.int (p2.toInt16.toInt32)), .val (.int (0 : Int32))] [(.int (p2.toInt16.toInt32)), (.ref w_JOIN_GROUP)]))
      obtain ⟨cq65, kq65, q65a, q65b, q65c⟩ := isOf hZ e0 (Exa.ext O0.2 E_JOIN_GROUP)
      obtain ⟨_, _, ⟨T65, L65, k65, n65⟩, -, X65, ⟨Lc65, hQ65, l65, y65, z65⟩, st65⟩ := X0.virtualBack hx (y := (⟨"com/example/loose_grip/loosegrip/wire/ApiKey", "supports", "(S)Z"⟩ : MethodName)) (z := (⟨"com/example/loose_grip/loosegrip/wire/ApiKey", "supports", "(S)Z"⟩ : MethodName)) hown (mvT hZ (hw _ (List.mem_of_getElem? (i := 32) rfl))) (mvT hZ (hw _ (List.mem_of_getElem? (i := 33) rfl))) (notFace_of_selects (args := #[]) (mvT hZ (hw _ (List.mem_of_getElem? (i := 35) rfl)))) (mvT hZ (hw _ (List.mem_of_getElem? (i := 35) rfl))) (mvT hZ (hw _ (List.mem_of_getElem? (i := 34) rfl))) (by decide) (backOf (W := 0) (rm_sup_lt l Z a0 hw [] w_JOIN_GROUP (p2.toInt16.toInt32) (0 : Int32) h0 n0 Z0 O0 F_JOIN_GROUP_minVersion hc245_63) hZ (hw _ (List.mem_of_getElem? (i := 36) rfl)) (hw _ (List.mem_of_getElem? (i := 3) rfl)) (by decide) (by decide)) q65a q65c (g := (mkF m 279 #[.val (.int p1), .val (.int p2), .val (.ref bK), .val (.ref bL), .val (.ref bH), .val (.int (6 : Int32)), .val (.int (p2.toInt16.toInt32)), .val (.int (p2.toInt16.toInt32)), .val (.int (0 : Int32))] [(.int (p2.toInt16.toInt32)), (.ref w_JOIN_GROUP)])) rfl (by rw [hml]; rfl) (Steps.refl _) (argsL := [(.int (p2.toInt16.toInt32))]) (rest := []) (lenOf own_pd0 rfl) rfl (by show 2 * 0 + _ ≤ _; exact Nat.le_of_eq rfl) (hb hby at_279) (fun _ _ => ⟨rfl, e0, (by decide : 3 + 0 ≤ _), (by decide : 39 + 0 ≤ _)⟩)
      dsimp only [Pt.U, Pt.locs, Pt.cells, Pt.slots] at X65 l65 y65 z65 st65 hQ65
      subst l65 y65 z65
      obtain ⟨rfl, Nq65, eq65⟩ := hQ65
      have N65 := Fr.app N0 Nq65
      refine own_tr st65 ?_
      show own_G p.tables e below _ (T65.setTop (mkF m 282 #[.val (.int p1), .val (.int p2), .val (.ref bK), .val (.ref bL), .val (.ref bH), .val (.int (6 : Int32)), .val (.int (p2.toInt16.toInt32)), .val (.int (p2.toInt16.toInt32)), .val (.int (0 : Int32))] [(.int (0 : Int32))]))
      refine own_st (fun _ kS => XS.iload X65.here hx rfl (hb hby at_282) rfl kS) ?_
      show own_G p.tables e below _ (T65.setTop (mkF m 284 #[.val (.int p1), .val (.int p2), .val (.ref bK), .val (.ref bL), .val (.ref bH), .val (.int (6 : Int32)), .val (.int (p2.toInt16.toInt32)), .val (.int (p2.toInt16.toInt32)), .val (.int (0 : Int32))] [(.int (0 : Int32)), (.int (0 : Int32))]))
      refine own_st (fun _ kS => XS.icmpNo X65.here hx rfl (hb hby at_284) rfl (teq (by decide : (0 : Int32) = (0 : Int32))).2 kS) ?_
      show own_G p.tables e below _ (T65.setTop (mkF m 287 #[.val (.int p1), .val (.int p2), .val (.ref bK), .val (.ref bL), .val (.ref bH), .val (.int (6 : Int32)), .val (.int (p2.toInt16.toInt32)), .val (.int (p2.toInt16.toInt32)), .val (.int (0 : Int32))] []))
      refine own_st (fun _ kS => XS.iconst X65.here hx rfl (hb hby at_287) kS) ?_
      show own_G p.tables e below _ (T65.setTop (mkF m 288 #[.val (.int p1), .val (.int p2), .val (.ref bK), .val (.ref bL), .val (.ref bH), .val (.int (6 : Int32)), .val (.int (p2.toInt16.toInt32)), .val (.int (p2.toInt16.toInt32)), .val (.int (0 : Int32))] [(.int (1 : Int32))]))
      refine own_st (fun _ kS => XS.goto X65.here hx rfl (pc0 := 288) (pc' := 292) rfl (hb hby at_288) (by decide) (by decide) kS) ?_
      show own_G p.tables e below _ (T65.setTop (mkF m 292 #[.val (.int p1), .val (.int p2), .val (.ref bK), .val (.ref bL), .val (.ref bH), .val (.int (6 : Int32)), .val (.int (p2.toInt16.toInt32)), .val (.int (p2.toInt16.toInt32)), .val (.int (0 : Int32))] [(.int (1 : Int32))]))
      exact own_retN X65 hx hlk (t := .boolean) hret (by simp) (hb hby at_292) (by decide) (by decide) (v' := (1 : Int32)) rfl (by rw [eq65]; exact ⟨rfl, N65⟩)
    · skip
      refine own_st (fun _ kS => XS.icmpYes X0.here hx rfl (pc0 := 245) (pc' := 254) rfl (hb hby at_245) rfl (flt hc245_63).2.1 (by decide) (by decide) kS) ?_
      show own_G p.tables e below _ (T0.setTop (mkF m 254 #[.val (.int p1), .val (.int p2), .val (.ref bK), .val (.ref bL), .val (.ref bH), .val (.int (6 : Int32)), .val (.int (p2.toInt16.toInt32)), .val (.int (p2.toInt16.toInt32)), .unset] []))
      refine own_st (fun _ kS => XS.iload X0.here hx rfl (hb hby at_254) rfl kS) ?_
      show own_G p.tables e below _ (T0.setTop (mkF m 256 #[.val (.int p1), .val (.int p2), .val (.ref bK), .val (.ref bL), .val (.ref bH), .val (.int (6 : Int32)), .val (.int (p2.toInt16.toInt32)), .val (.int (p2.toInt16.toInt32)), .unset] [(.int (p2.toInt16.toInt32))]))
      refine own_st (fun _ kS => XS.aload X0.here hx rfl (hb hby at_256) rfl rfl kS) ?_
      show own_G p.tables e below _ (T0.setTop (mkF m 258 #[.val (.int p1), .val (.int p2), .val (.ref bK), .val (.ref bL), .val (.ref bH), .val (.int (6 : Int32)), .val (.int (p2.toInt16.toInt32)), .val (.int (p2.toInt16.toInt32)), .unset] [(.ref bH), (.int (p2.toInt16.toInt32))]))
      refine own_st (fun _ kS => XS.iload X0.here hx rfl (hb hby at_258) rfl kS) ?_
      show own_G p.tables e below _ (T0.setTop (mkF m 260 #[.val (.int p1), .val (.int p2), .val (.ref bK), .val (.ref bL), .val (.ref bH), .val (.int (6 : Int32)), .val (.int (p2.toInt16.toInt32)), .val (.int (p2.toInt16.toInt32)), .unset] [(.int (6 : Int32)), (.ref bH), (.int (p2.toInt16.toInt32))]))
      obtain ⟨cl66, Ar66, qa66, qs66, qn66, qh66, qg66⟩ := id R_H
      refine own_st (fun _ kS => X0.iaload hx (j := (6 : Int32)) (v := (.int (5 : Int32))) (by rw [e0]; exact Ar66.1) (State.isArrayOf_alike hZ.alike Ar66.2.1) Ar66.2.2 (inb_of qs66 ⟨by decide, by decide⟩) (qh66.at (inb_of qs66 ⟨by decide, by decide⟩) rfl) (g := (mkF m 260 #[.val (.int p1), .val (.int p2), .val (.ref bK), .val (.ref bL), .val (.ref bH), .val (.int (6 : Int32)), .val (.int (p2.toInt16.toInt32)), .val (.int (p2.toInt16.toInt32)), .unset] [(.int (6 : Int32)), (.ref bH), (.int (p2.toInt16.toInt32))])) rfl rfl (hb hby at_260) _ kS) ?_
      show own_G p.tables e below _ (T0.setTop (mkF m 261 #[.val (.int p1), .val (.int p2), .val (.ref bK), .val (.ref bL), .val (.ref bH), .val (.int (6 : Int32)), .val (.int (p2.toInt16.toInt32)), .val (.int (p2.toInt16.toInt32)), .unset] [(.int (5 : Int32)), (.int (p2.toInt16.toInt32))]))
      by_cases hc261_67 : (5 : Int32) < (p2.toInt16.toInt32)
      · skip
        refine own_st (fun _ kS => XS.icmpNo X0.here hx rfl (hb hby at_261) rfl (tlt hc261_67).2.2.2 kS) ?_
        show own_G p.tables e below _ (T0.setTop (mkF m 264 #[.val (.int p1), .val (.int p2), .val (.ref bK), .val (.ref bL), .val (.ref bH), .val (.int (6 : Int32)), .val (.int (p2.toInt16.toInt32)), .val (.int (p2.toInt16.toInt32)), .unset] []))
        refine own_st (fun _ kS => XS.iconst X0.here hx rfl (hb hby at_264) kS) ?_
        show own_G p.tables e below _ (T0.setTop (mkF m 265 #[.val (.int p1), .val (.int p2), .val (.ref bK), .val (.ref bL), .val (.ref bH), .val (.int (6 : Int32)), .val (.int (p2.toInt16.toInt32)), .val (.int (p2.toInt16.toInt32)), .unset] [(.int (0 : Int32))]))
        refine own_st (fun _ kS => XS.istore X0.here hx rfl (hb hby at_265) rfl (l' := #[.val (.int p1), .val (.int p2), .val (.ref bK), .val (.ref bL), .val (.ref bH), .val (.int (6 : Int32)), .val (.int (p2.toInt16.toInt32)), .val (.int (p2.toInt16.toInt32)), .val (.int (0 : Int32))]) rfl kS) ?_
        show own_G p.tables e below _ (T0.setTop (mkF m 267 #[.val (.int p1), .val (.int p2), .val (.ref bK), .val (.ref bL), .val (.ref bH), .val (.int (6 : Int32)), .val (.int (p2.toInt16.toInt32)), .val (.int (p2.toInt16.toInt32)), .val (.int (0 : Int32))] []))
        refine own_st (fun _ kS => XS.goto X0.here hx rfl (pc0 := 267) (pc' := 273) rfl (hb hby at_267) (by decide) (by decide) kS) ?_
        show own_G p.tables e below _ (T0.setTop (mkF m 273 #[.val (.int p1), .val (.int p2), .val (.ref bK), .val (.ref bL), .val (.ref bH), .val (.int (6 : Int32)), .val (.int (p2.toInt16.toInt32)), .val (.int (p2.toInt16.toInt32)), .val (.int (0 : Int32))] []))
        refine own_st (fun _ kS => XS.aloadN X0.here hx rfl (hb hby at_273) rfl rfl kS) ?_
        show own_G p.tables e below _ (T0.setTop (mkF m 274 #[.val (.int p1), .val (.int p2), .val (.ref bK), .val (.ref bL), .val (.ref bH), .val (.int (6 : Int32)), .val (.int (p2.toInt16.toInt32)), .val (.int (p2.toInt16.toInt32)), .val (.int (0 : Int32))] [(.ref bK)]))
        refine own_st (fun _ kS => XS.iload X0.here hx rfl (hb hby at_274) rfl kS) ?_
        show own_G p.tables e below _ (T0.setTop (mkF m 276 #[.val (.int p1), .val (.int p2), .val (.ref bK), .val (.ref bL), .val (.ref bH), .val (.int (6 : Int32)), .val (.int (p2.toInt16.toInt32)), .val (.int (p2.toInt16.toInt32)), .val (.int (0 : Int32))] [(.int (6 : Int32)), (.ref bK)]))
        obtain ⟨cl68, Ar68, qa68, qs68, qn68, qh68, qg68⟩ := id R_K
        refine own_st (fun _ kS => X0.aaload hx (j := (6 : Int32)) (v := (.ref w_JOIN_GROUP)) (by rw [e0]; exact Ar68.1) (State.isArrayOf_alike hZ.alike Ar68.2.1) rfl Ar68.2.2 (inb_of qs68 ⟨by decide, by decide⟩) (qh68.at (inb_of qs68 ⟨by decide, by decide⟩) rfl) (g := (mkF m 276 #[.val (.int p1), .val (.int p2), .val (.ref bK), .val (.ref bL), .val (.ref bH), .val (.int (6 : Int32)), .val (.int (p2.toInt16.toInt32)), .val (.int (p2.toInt16.toInt32)), .val (.int (0 : Int32))] [(.int (6 : Int32)), (.ref bK)])) rfl rfl (hb hby at_276) _ kS) ?_
        show own_G p.tables e below _ (T0.setTop (mkF m 277 #[.val (.int p1), .val (.int p2), .val (.ref bK), .val (.ref bL), .val (.ref bH), .val (.int (6 : Int32)), .val (.int (p2.toInt16.toInt32)), .val (.int (p2.toInt16.toInt32)), .val (.int (0 : Int32))] [(.ref w_JOIN_GROUP)]))
        refine own_st (fun _ kS => XS.iload X0.here hx rfl (hb hby at_277) rfl kS) ?_
        show own_G p.tables e below _ (T0.setTop (mkF m 279 #[.val (.int p1), .val (.int p2), .val (.ref bK), .val (.ref bL), .val (.ref bH), .val (.int (6 : Int32)), .val (.int (p2.toInt16.toInt32)), .val (.int (p2.toInt16.toInt32)), .val (.int (0 : Int32))] [(.int (p2.toInt16.toInt32)), (.ref w_JOIN_GROUP)]))
        obtain ⟨cq69, kq69, q69a, q69b, q69c⟩ := isOf hZ e0 (Exa.ext O0.2 E_JOIN_GROUP)
        obtain ⟨_, _, ⟨T69, L69, k69, n69⟩, -, X69, ⟨Lc69, hQ69, l69, y69, z69⟩, st69⟩ := X0.virtualBack hx (y := (⟨"com/example/loose_grip/loosegrip/wire/ApiKey", "supports", "(S)Z"⟩ : MethodName)) (z := (⟨"com/example/loose_grip/loosegrip/wire/ApiKey", "supports", "(S)Z"⟩ : MethodName)) hown (mvT hZ (hw _ (List.mem_of_getElem? (i := 32) rfl))) (mvT hZ (hw _ (List.mem_of_getElem? (i := 33) rfl))) (notFace_of_selects (args := #[]) (mvT hZ (hw _ (List.mem_of_getElem? (i := 35) rfl)))) (mvT hZ (hw _ (List.mem_of_getElem? (i := 35) rfl))) (mvT hZ (hw _ (List.mem_of_getElem? (i := 34) rfl))) (by decide) (backOf (W := 0) (rm_sup_gt l Z a0 hw [] w_JOIN_GROUP (p2.toInt16.toInt32) (0 : Int32) (5 : Int32) h0 n0 Z0 O0 F_JOIN_GROUP_minVersion F_JOIN_GROUP_maxVersion hc245_63 hc261_67) hZ (hw _ (List.mem_of_getElem? (i := 36) rfl)) (hw _ (List.mem_of_getElem? (i := 3) rfl)) (by decide) (by decide)) q69a q69c (g := (mkF m 279 #[.val (.int p1), .val (.int p2), .val (.ref bK), .val (.ref bL), .val (.ref bH), .val (.int (6 : Int32)), .val (.int (p2.toInt16.toInt32)), .val (.int (p2.toInt16.toInt32)), .val (.int (0 : Int32))] [(.int (p2.toInt16.toInt32)), (.ref w_JOIN_GROUP)])) rfl (by rw [hml]; rfl) (Steps.refl _) (argsL := [(.int (p2.toInt16.toInt32))]) (rest := []) (lenOf own_pd0 rfl) rfl (by show 2 * 0 + _ ≤ _; exact Nat.le_of_eq rfl) (hb hby at_279) (fun _ _ => ⟨rfl, e0, (by decide : 3 + 0 ≤ _), (by decide : 39 + 0 ≤ _)⟩)
        dsimp only [Pt.U, Pt.locs, Pt.cells, Pt.slots] at X69 l69 y69 z69 st69 hQ69
        subst l69 y69 z69
        obtain ⟨rfl, Nq69, eq69⟩ := hQ69
        have N69 := Fr.app N0 Nq69
        refine own_tr st69 ?_
        show own_G p.tables e below _ (T69.setTop (mkF m 282 #[.val (.int p1), .val (.int p2), .val (.ref bK), .val (.ref bL), .val (.ref bH), .val (.int (6 : Int32)), .val (.int (p2.toInt16.toInt32)), .val (.int (p2.toInt16.toInt32)), .val (.int (0 : Int32))] [(.int (0 : Int32))]))
        refine own_st (fun _ kS => XS.iload X69.here hx rfl (hb hby at_282) rfl kS) ?_
        show own_G p.tables e below _ (T69.setTop (mkF m 284 #[.val (.int p1), .val (.int p2), .val (.ref bK), .val (.ref bL), .val (.ref bH), .val (.int (6 : Int32)), .val (.int (p2.toInt16.toInt32)), .val (.int (p2.toInt16.toInt32)), .val (.int (0 : Int32))] [(.int (0 : Int32)), (.int (0 : Int32))]))
        refine own_st (fun _ kS => XS.icmpNo X69.here hx rfl (hb hby at_284) rfl (teq (by decide : (0 : Int32) = (0 : Int32))).2 kS) ?_
        show own_G p.tables e below _ (T69.setTop (mkF m 287 #[.val (.int p1), .val (.int p2), .val (.ref bK), .val (.ref bL), .val (.ref bH), .val (.int (6 : Int32)), .val (.int (p2.toInt16.toInt32)), .val (.int (p2.toInt16.toInt32)), .val (.int (0 : Int32))] []))
        refine own_st (fun _ kS => XS.iconst X69.here hx rfl (hb hby at_287) kS) ?_
        show own_G p.tables e below _ (T69.setTop (mkF m 288 #[.val (.int p1), .val (.int p2), .val (.ref bK), .val (.ref bL), .val (.ref bH), .val (.int (6 : Int32)), .val (.int (p2.toInt16.toInt32)), .val (.int (p2.toInt16.toInt32)), .val (.int (0 : Int32))] [(.int (1 : Int32))]))
        refine own_st (fun _ kS => XS.goto X69.here hx rfl (pc0 := 288) (pc' := 292) rfl (hb hby at_288) (by decide) (by decide) kS) ?_
        show own_G p.tables e below _ (T69.setTop (mkF m 292 #[.val (.int p1), .val (.int p2), .val (.ref bK), .val (.ref bL), .val (.ref bH), .val (.int (6 : Int32)), .val (.int (p2.toInt16.toInt32)), .val (.int (p2.toInt16.toInt32)), .val (.int (0 : Int32))] [(.int (1 : Int32))]))
        exact own_retN X69 hx hlk (t := .boolean) hret (by simp) (hb hby at_292) (by decide) (by decide) (v' := (1 : Int32)) rfl (by rw [eq69]; exact ⟨rfl, N69⟩)
      · skip
        refine own_st (fun _ kS => XS.icmpYes X0.here hx rfl (pc0 := 261) (pc' := 270) rfl (hb hby at_261) rfl (flt hc261_67).2.2.2 (by decide) (by decide) kS) ?_
        show own_G p.tables e below _ (T0.setTop (mkF m 270 #[.val (.int p1), .val (.int p2), .val (.ref bK), .val (.ref bL), .val (.ref bH), .val (.int (6 : Int32)), .val (.int (p2.toInt16.toInt32)), .val (.int (p2.toInt16.toInt32)), .unset] []))
        refine own_st (fun _ kS => XS.iconst X0.here hx rfl (hb hby at_270) kS) ?_
        show own_G p.tables e below _ (T0.setTop (mkF m 271 #[.val (.int p1), .val (.int p2), .val (.ref bK), .val (.ref bL), .val (.ref bH), .val (.int (6 : Int32)), .val (.int (p2.toInt16.toInt32)), .val (.int (p2.toInt16.toInt32)), .unset] [(.int (1 : Int32))]))
        refine own_st (fun _ kS => XS.istore X0.here hx rfl (hb hby at_271) rfl (l' := #[.val (.int p1), .val (.int p2), .val (.ref bK), .val (.ref bL), .val (.ref bH), .val (.int (6 : Int32)), .val (.int (p2.toInt16.toInt32)), .val (.int (p2.toInt16.toInt32)), .val (.int (1 : Int32))]) rfl kS) ?_
        show own_G p.tables e below _ (T0.setTop (mkF m 273 #[.val (.int p1), .val (.int p2), .val (.ref bK), .val (.ref bL), .val (.ref bH), .val (.int (6 : Int32)), .val (.int (p2.toInt16.toInt32)), .val (.int (p2.toInt16.toInt32)), .val (.int (1 : Int32))] []))
        refine own_st (fun _ kS => XS.aloadN X0.here hx rfl (hb hby at_273) rfl rfl kS) ?_
        show own_G p.tables e below _ (T0.setTop (mkF m 274 #[.val (.int p1), .val (.int p2), .val (.ref bK), .val (.ref bL), .val (.ref bH), .val (.int (6 : Int32)), .val (.int (p2.toInt16.toInt32)), .val (.int (p2.toInt16.toInt32)), .val (.int (1 : Int32))] [(.ref bK)]))
        refine own_st (fun _ kS => XS.iload X0.here hx rfl (hb hby at_274) rfl kS) ?_
        show own_G p.tables e below _ (T0.setTop (mkF m 276 #[.val (.int p1), .val (.int p2), .val (.ref bK), .val (.ref bL), .val (.ref bH), .val (.int (6 : Int32)), .val (.int (p2.toInt16.toInt32)), .val (.int (p2.toInt16.toInt32)), .val (.int (1 : Int32))] [(.int (6 : Int32)), (.ref bK)]))
        obtain ⟨cl70, Ar70, qa70, qs70, qn70, qh70, qg70⟩ := id R_K
        refine own_st (fun _ kS => X0.aaload hx (j := (6 : Int32)) (v := (.ref w_JOIN_GROUP)) (by rw [e0]; exact Ar70.1) (State.isArrayOf_alike hZ.alike Ar70.2.1) rfl Ar70.2.2 (inb_of qs70 ⟨by decide, by decide⟩) (qh70.at (inb_of qs70 ⟨by decide, by decide⟩) rfl) (g := (mkF m 276 #[.val (.int p1), .val (.int p2), .val (.ref bK), .val (.ref bL), .val (.ref bH), .val (.int (6 : Int32)), .val (.int (p2.toInt16.toInt32)), .val (.int (p2.toInt16.toInt32)), .val (.int (1 : Int32))] [(.int (6 : Int32)), (.ref bK)])) rfl rfl (hb hby at_276) _ kS) ?_
        show own_G p.tables e below _ (T0.setTop (mkF m 277 #[.val (.int p1), .val (.int p2), .val (.ref bK), .val (.ref bL), .val (.ref bH), .val (.int (6 : Int32)), .val (.int (p2.toInt16.toInt32)), .val (.int (p2.toInt16.toInt32)), .val (.int (1 : Int32))] [(.ref w_JOIN_GROUP)]))
        refine own_st (fun _ kS => XS.iload X0.here hx rfl (hb hby at_277) rfl kS) ?_
        show own_G p.tables e below _ (T0.setTop (mkF m 279 #[.val (.int p1), .val (.int p2), .val (.ref bK), .val (.ref bL), .val (.ref bH), .val (.int (6 : Int32)), .val (.int (p2.toInt16.toInt32)), .val (.int (p2.toInt16.toInt32)), .val (.int (1 : Int32))] [(.int (p2.toInt16.toInt32)), (.ref w_JOIN_GROUP)]))
        obtain ⟨cq71, kq71, q71a, q71b, q71c⟩ := isOf hZ e0 (Exa.ext O0.2 E_JOIN_GROUP)
        obtain ⟨_, _, ⟨T71, L71, k71, n71⟩, -, X71, ⟨Lc71, hQ71, l71, y71, z71⟩, st71⟩ := X0.virtualBack hx (y := (⟨"com/example/loose_grip/loosegrip/wire/ApiKey", "supports", "(S)Z"⟩ : MethodName)) (z := (⟨"com/example/loose_grip/loosegrip/wire/ApiKey", "supports", "(S)Z"⟩ : MethodName)) hown (mvT hZ (hw _ (List.mem_of_getElem? (i := 32) rfl))) (mvT hZ (hw _ (List.mem_of_getElem? (i := 33) rfl))) (notFace_of_selects (args := #[]) (mvT hZ (hw _ (List.mem_of_getElem? (i := 35) rfl)))) (mvT hZ (hw _ (List.mem_of_getElem? (i := 35) rfl))) (mvT hZ (hw _ (List.mem_of_getElem? (i := 34) rfl))) (by decide) (backOf (W := 0) (rm_sup_in l Z a0 hw [] w_JOIN_GROUP (p2.toInt16.toInt32) (0 : Int32) (5 : Int32) h0 n0 Z0 O0 F_JOIN_GROUP_minVersion F_JOIN_GROUP_maxVersion hc245_63 hc261_67) hZ (hw _ (List.mem_of_getElem? (i := 36) rfl)) (hw _ (List.mem_of_getElem? (i := 3) rfl)) (by decide) (by decide)) q71a q71c (g := (mkF m 279 #[.val (.int p1), .val (.int p2), .val (.ref bK), .val (.ref bL), .val (.ref bH), .val (.int (6 : Int32)), .val (.int (p2.toInt16.toInt32)), .val (.int (p2.toInt16.toInt32)), .val (.int (1 : Int32))] [(.int (p2.toInt16.toInt32)), (.ref w_JOIN_GROUP)])) rfl (by rw [hml]; rfl) (Steps.refl _) (argsL := [(.int (p2.toInt16.toInt32))]) (rest := []) (lenOf own_pd0 rfl) rfl (by show 2 * 0 + _ ≤ _; exact Nat.le_of_eq rfl) (hb hby at_279) (fun _ _ => ⟨rfl, e0, (by decide : 3 + 0 ≤ _), (by decide : 39 + 0 ≤ _)⟩)
        dsimp only [Pt.U, Pt.locs, Pt.cells, Pt.slots] at X71 l71 y71 z71 st71 hQ71
        subst l71 y71 z71
        obtain ⟨rfl, Nq71, eq71⟩ := hQ71
        have N71 := Fr.app N0 Nq71
        refine own_tr st71 ?_
        show own_G p.tables e below _ (T71.setTop (mkF m 282 #[.val (.int p1), .val (.int p2), .val (.ref bK), .val (.ref bL), .val (.ref bH), .val (.int (6 : Int32)), .val (.int (p2.toInt16.toInt32)), .val (.int (p2.toInt16.toInt32)), .val (.int (1 : Int32))] [(.int (1 : Int32))]))
        refine own_st (fun _ kS => XS.iload X71.here hx rfl (hb hby at_282) rfl kS) ?_
        show own_G p.tables e below _ (T71.setTop (mkF m 284 #[.val (.int p1), .val (.int p2), .val (.ref bK), .val (.ref bL), .val (.ref bH), .val (.int (6 : Int32)), .val (.int (p2.toInt16.toInt32)), .val (.int (p2.toInt16.toInt32)), .val (.int (1 : Int32))] [(.int (1 : Int32)), (.int (1 : Int32))]))
        refine own_st (fun _ kS => XS.icmpNo X71.here hx rfl (hb hby at_284) rfl (teq (by decide : (1 : Int32) = (1 : Int32))).2 kS) ?_
        show own_G p.tables e below _ (T71.setTop (mkF m 287 #[.val (.int p1), .val (.int p2), .val (.ref bK), .val (.ref bL), .val (.ref bH), .val (.int (6 : Int32)), .val (.int (p2.toInt16.toInt32)), .val (.int (p2.toInt16.toInt32)), .val (.int (1 : Int32))] []))
        refine own_st (fun _ kS => XS.iconst X71.here hx rfl (hb hby at_287) kS) ?_
        show own_G p.tables e below _ (T71.setTop (mkF m 288 #[.val (.int p1), .val (.int p2), .val (.ref bK), .val (.ref bL), .val (.ref bH), .val (.int (6 : Int32)), .val (.int (p2.toInt16.toInt32)), .val (.int (p2.toInt16.toInt32)), .val (.int (1 : Int32))] [(.int (1 : Int32))]))
        refine own_st (fun _ kS => XS.goto X71.here hx rfl (pc0 := 288) (pc' := 292) rfl (hb hby at_288) (by decide) (by decide) kS) ?_
        show own_G p.tables e below _ (T71.setTop (mkF m 292 #[.val (.int p1), .val (.int p2), .val (.ref bK), .val (.ref bL), .val (.ref bH), .val (.int (6 : Int32)), .val (.int (p2.toInt16.toInt32)), .val (.int (p2.toInt16.toInt32)), .val (.int (1 : Int32))] [(.int (1 : Int32))]))
        exact own_retN X71 hx hlk (t := .boolean) hret (by simp) (hb hby at_292) (by decide) (by decide) (v' := (1 : Int32)) rfl (by rw [eq71]; exact ⟨rfl, N71⟩)
  · rw [hk1]
    show own_G p.tables e below _ (T0.setTop (mkF m 229 #[.val (.int p1), .val (.int p2), .val (.ref bK), .val (.ref bL), .val (.ref bH), .unset, .unset, .unset, .unset] [(.int (7 : Int32))]))
    refine own_st (fun _ kS => XS.istore X0.here hx rfl (hb hby at_229) rfl (l' := #[.val (.int p1), .val (.int p2), .val (.ref bK), .val (.ref bL), .val (.ref bH), .val (.int (7 : Int32)), .unset, .unset, .unset]) rfl kS) ?_
    show own_G p.tables e below _ (T0.setTop (mkF m 231 #[.val (.int p1), .val (.int p2), .val (.ref bK), .val (.ref bL), .val (.ref bH), .val (.int (7 : Int32)), .unset, .unset, .unset] []))
    refine own_st (fun _ kS => XS.iloadN X0.here hx rfl (hb hby at_231) rfl kS) ?_
    show own_G p.tables e below _ (T0.setTop (mkF m 232 #[.val (.int p1), .val (.int p2), .val (.ref bK), .val (.ref bL), .val (.ref bH), .val (.int (7 : Int32)), .unset, .unset, .unset] [(.int p2)]))
    refine own_st (fun _ kS => XT.i2s X0.here hx rfl (hb hby at_232) rfl kS) ?_
    show own_G p.tables e below _ (T0.setTop (mkF m 233 #[.val (.int p1), .val (.int p2), .val (.ref bK), .val (.ref bL), .val (.ref bH), .val (.int (7 : Int32)), .unset, .unset, .unset] [(.int (p2.toInt16.toInt32))]))
    refine own_st (fun _ kS => XS.istore X0.here hx rfl (hb hby at_233) rfl (l' := #[.val (.int p1), .val (.int p2), .val (.ref bK), .val (.ref bL), .val (.ref bH), .val (.int (7 : Int32)), .val (.int (p2.toInt16.toInt32)), .unset, .unset]) rfl kS) ?_
    show own_G p.tables e below _ (T0.setTop (mkF m 235 #[.val (.int p1), .val (.int p2), .val (.ref bK), .val (.ref bL), .val (.ref bH), .val (.int (7 : Int32)), .val (.int (p2.toInt16.toInt32)), .unset, .unset] []))
    refine own_st (fun _ kS => XS.iload X0.here hx rfl (hb hby at_235) rfl kS) ?_
    show own_G p.tables e below _ (T0.setTop (mkF m 237 #[.val (.int p1), .val (.int p2), .val (.ref bK), .val (.ref bL), .val (.ref bH), .val (.int (7 : Int32)), .val (.int (p2.toInt16.toInt32)), .unset, .unset] [(.int (p2.toInt16.toInt32))]))
    refine own_st (fun _ kS => XS.istore X0.here hx rfl (hb hby at_237) rfl (l' := #[.val (.int p1), .val (.int p2), .val (.ref bK), .val (.ref bL), .val (.ref bH), .val (.int (7 : Int32)), .val (.int (p2.toInt16.toInt32)), .val (.int (p2.toInt16.toInt32)), .unset]) rfl kS) ?_
    show own_G p.tables e below _ (T0.setTop (mkF m 239 #[.val (.int p1), .val (.int p2), .val (.ref bK), .val (.ref bL), .val (.ref bH), .val (.int (7 : Int32)), .val (.int (p2.toInt16.toInt32)), .val (.int (p2.toInt16.toInt32)), .unset] []))
    refine own_st (fun _ kS => XS.iload X0.here hx rfl (hb hby at_239) rfl kS) ?_
    show own_G p.tables e below _ (T0.setTop (mkF m 241 #[.val (.int p1), .val (.int p2), .val (.ref bK), .val (.ref bL), .val (.ref bH), .val (.int (7 : Int32)), .val (.int (p2.toInt16.toInt32)), .val (.int (p2.toInt16.toInt32)), .unset] [(.int (p2.toInt16.toInt32))]))
    refine own_st (fun _ kS => XS.aloadN X0.here hx rfl (hb hby at_241) rfl rfl kS) ?_
    show own_G p.tables e below _ (T0.setTop (mkF m 242 #[.val (.int p1), .val (.int p2), .val (.ref bK), .val (.ref bL), .val (.ref bH), .val (.int (7 : Int32)), .val (.int (p2.toInt16.toInt32)), .val (.int (p2.toInt16.toInt32)), .unset] [(.ref bL), (.int (p2.toInt16.toInt32))]))
    refine own_st (fun _ kS => XS.iload X0.here hx rfl (hb hby at_242) rfl kS) ?_
    show own_G p.tables e below _ (T0.setTop (mkF m 244 #[.val (.int p1), .val (.int p2), .val (.ref bK), .val (.ref bL), .val (.ref bH), .val (.int (7 : Int32)), .val (.int (p2.toInt16.toInt32)), .val (.int (p2.toInt16.toInt32)), .unset] [(.int (7 : Int32)), (.ref bL), (.int (p2.toInt16.toInt32))]))
    obtain ⟨cl72, Ar72, qa72, qs72, qn72, qh72, qg72⟩ := id R_L
    refine own_st (fun _ kS => X0.iaload hx (j := (7 : Int32)) (v := (.int (0 : Int32))) (by rw [e0]; exact Ar72.1) (State.isArrayOf_alike hZ.alike Ar72.2.1) Ar72.2.2 (inb_of qs72 ⟨by decide, by decide⟩) (qh72.at (inb_of qs72 ⟨by decide, by decide⟩) rfl) (g := (mkF m 244 #[.val (.int p1), .val (.int p2), .val (.ref bK), .val (.ref bL), .val (.ref bH), .val (.int (7 : Int32)), .val (.int (p2.toInt16.toInt32)), .val (.int (p2.toInt16.toInt32)), .unset] [(.int (7 : Int32)), (.ref bL), (.int (p2.toInt16.toInt32))])) rfl rfl (hb hby at_244) _ kS) ?_
    show own_G p.tables e below _ (T0.setTop (mkF m 245 #[.val (.int p1), .val (.int p2), .val (.ref bK), .val (.ref bL), .val (.ref bH), .val (.int (7 : Int32)), .val (.int (p2.toInt16.toInt32)), .val (.int (p2.toInt16.toInt32)), .unset] [(.int (0 : Int32)), (.int (p2.toInt16.toInt32))]))
    by_cases hc245_73 : (p2.toInt16.toInt32) < (0 : Int32)
    · skip
      refine own_st (fun _ kS => XS.icmpNo X0.here hx rfl (hb hby at_245) rfl (tlt hc245_73).2.1 kS) ?_
      show own_G p.tables e below _ (T0.setTop (mkF m 248 #[.val (.int p1), .val (.int p2), .val (.ref bK), .val (.ref bL), .val (.ref bH), .val (.int (7 : Int32)), .val (.int (p2.toInt16.toInt32)), .val (.int (p2.toInt16.toInt32)), .unset] []))
      refine own_st (fun _ kS => XS.iconst X0.here hx rfl (hb hby at_248) kS) ?_
      show own_G p.tables e below _ (T0.setTop (mkF m 249 #[.val (.int p1), .val (.int p2), .val (.ref bK), .val (.ref bL), .val (.ref bH), .val (.int (7 : Int32)), .val (.int (p2.toInt16.toInt32)), .val (.int (p2.toInt16.toInt32)), .unset] [(.int (0 : Int32))]))
      refine own_st (fun _ kS => XS.istore X0.here hx rfl (hb hby at_249) rfl (l' := #[.val (.int p1), .val (.int p2), .val (.ref bK), .val (.ref bL), .val (.ref bH), .val (.int (7 : Int32)), .val (.int (p2.toInt16.toInt32)), .val (.int (p2.toInt16.toInt32)), .val (.int (0 : Int32))]) rfl kS) ?_
      show own_G p.tables e below _ (T0.setTop (mkF m 251 #[.val (.int p1), .val (.int p2), .val (.ref bK), .val (.ref bL), .val (.ref bH), .val (.int (7 : Int32)), .val (.int (p2.toInt16.toInt32)), .val (.int (p2.toInt16.toInt32)), .val (.int (0 : Int32))] []))
      refine own_st (fun _ kS => XS.goto X0.here hx rfl (pc0 := 251) (pc' := 273) rfl (hb hby at_251) (by decide) (by decide) kS) ?_
      show own_G p.tables e below _ (T0.setTop (mkF m 273 #[.val (.int p1), .val (.int p2), .val (.ref bK), .val (.ref bL), .val (.ref bH), .val (.int (7 : Int32)), .val (.int (p2.toInt16.toInt32)), .val (.int (p2.toInt16.toInt32)), .val (.int (0 : Int32))] []))
      refine own_st (fun _ kS => XS.aloadN X0.here hx rfl (hb hby at_273) rfl rfl kS) ?_
      show own_G p.tables e below _ (T0.setTop (mkF m 274 #[.val (.int p1), .val (.int p2), .val (.ref bK), .val (.ref bL), .val (.ref bH), .val (.int (7 : Int32)), .val (.int (p2.toInt16.toInt32)), .val (.int (p2.toInt16.toInt32)), .val (.int (0 : Int32))] [(.ref bK)]))
      refine own_st (fun _ kS => XS.iload X0.here hx rfl (hb hby at_274) rfl kS) ?_
      show own_G p.tables e below _ (T0.setTop (mkF m 276 #[.val (.int p1), .val (.int p2), .val (.ref bK), .val (.ref bL), .val (.ref bH), .val (.int (7 : Int32)), .val (.int (p2.toInt16.toInt32)), .val (.int (p2.toInt16.toInt32)), .val (.int (0 : Int32))] [(.int (7 : Int32)), (.ref bK)]))
      obtain ⟨cl74, Ar74, qa74, qs74, qn74, qh74, qg74⟩ := id R_K
      refine own_st (fun _ kS => X0.aaload hx (j := (7 : Int32)) (v := (.ref w_HEARTBEAT)) (by rw [e0]; exact Ar74.1) (State.isArrayOf_alike hZ.alike Ar74.2.1) rfl Ar74.2.2 (inb_of qs74 ⟨by decide, by decide⟩) (qh74.at (inb_of qs74 ⟨by decide, by decide⟩) rfl) (g := (mkF m 276 #[.val (.int p1), .val (.int p2), .val (.ref bK), .val (.ref bL), .val (.ref bH), .val (.int (7 : Int32)), .val (.int (p2.toInt16.toInt32)), .val (.int (p2.toInt16.toInt32)), .val (.int (0 : Int32))] [(.int (7 : Int32)), (.ref bK)])) rfl rfl (hb hby at_276) _ kS) ?_
      show own_G p.tables e below _ (T0.setTop (mkF m 277 #[.val (.int p1), .val (.int p2), .val (.ref bK), .val (.ref bL), .val (.ref bH), .val (.int (7 : Int32)), .val (.int (p2.toInt16.toInt32)), .val (.int (p2.toInt16.toInt32)), .val (.int (0 : Int32))] [(.ref w_HEARTBEAT)]))
      refine own_st (fun _ kS => XS.iload X0.here hx rfl (hb hby at_277) rfl kS) ?_
      show own_G p.tables e below _ (T0.setTop (mkF m 279 #[.val (.int p1), .val (.int p2), .val (.ref bK), .val (.ref bL), .val (.ref bH), .val (.int (7 : Int32)), .val (.int (p2.toInt16.toInt32)), .val (.int (p2.toInt16.toInt32)), .val (.int (0 : Int32))] [(.int (p2.toInt16.toInt32)), (.ref w_HEARTBEAT)]))
      obtain ⟨cq75, kq75, q75a, q75b, q75c⟩ := isOf hZ e0 (Exa.ext O0.2 E_HEARTBEAT)
      obtain ⟨_, _, ⟨T75, L75, k75, n75⟩, -, X75, ⟨Lc75, hQ75, l75, y75, z75⟩, st75⟩ := X0.virtualBack hx (y := (⟨"com/example/loose_grip/loosegrip/wire/ApiKey", "supports", "(S)Z"⟩ : MethodName)) (z := (⟨"com/example/loose_grip/loosegrip/wire/ApiKey", "supports", "(S)Z"⟩ : MethodName)) hown (mvT hZ (hw _ (List.mem_of_getElem? (i := 32) rfl))) (mvT hZ (hw _ (List.mem_of_getElem? (i := 33) rfl))) (notFace_of_selects (args := #[]) (mvT hZ (hw _ (List.mem_of_getElem? (i := 35) rfl)))) (mvT hZ (hw _ (List.mem_of_getElem? (i := 35) rfl))) (mvT hZ (hw _ (List.mem_of_getElem? (i := 34) rfl))) (by decide) (backOf (W := 0) (rm_sup_lt l Z a0 hw [] w_HEARTBEAT (p2.toInt16.toInt32) (0 : Int32) h0 n0 Z0 O0 F_HEARTBEAT_minVersion hc245_73) hZ (hw _ (List.mem_of_getElem? (i := 36) rfl)) (hw _ (List.mem_of_getElem? (i := 3) rfl)) (by decide) (by decide)) q75a q75c (g := (mkF m 279 #[.val (.int p1), .val (.int p2), .val (.ref bK), .val (.ref bL), .val (.ref bH), .val (.int (7 : Int32)), .val (.int (p2.toInt16.toInt32)), .val (.int (p2.toInt16.toInt32)), .val (.int (0 : Int32))] [(.int (p2.toInt16.toInt32)), (.ref w_HEARTBEAT)])) rfl (by rw [hml]; rfl) (Steps.refl _) (argsL := [(.int (p2.toInt16.toInt32))]) (rest := []) (lenOf own_pd0 rfl) rfl (by show 2 * 0 + _ ≤ _; exact Nat.le_of_eq rfl) (hb hby at_279) (fun _ _ => ⟨rfl, e0, (by decide : 3 + 0 ≤ _), (by decide : 39 + 0 ≤ _)⟩)
      dsimp only [Pt.U, Pt.locs, Pt.cells, Pt.slots] at X75 l75 y75 z75 st75 hQ75
      subst l75 y75 z75
      obtain ⟨rfl, Nq75, eq75⟩ := hQ75
      have N75 := Fr.app N0 Nq75
      refine own_tr st75 ?_
      show own_G p.tables e below _ (T75.setTop (mkF m 282 #[.val (.int p1), .val (.int p2), .val (.ref bK), .val (.ref bL), .val (.ref bH), .val (.int (7 : Int32)), .val (.int (p2.toInt16.toInt32)), .val (.int (p2.toInt16.toInt32)), .val (.int (0 : Int32))] [(.int (0 : Int32))]))
      refine own_st (fun _ kS => XS.iload X75.here hx rfl (hb hby at_282) rfl kS) ?_
      show own_G p.tables e below _ (T75.setTop (mkF m 284 #[.val (.int p1), .val (.int p2), .val (.ref bK), .val (.ref bL), .val (.ref bH), .val (.int (7 : Int32)), .val (.int (p2.toInt16.toInt32)), .val (.int (p2.toInt16.toInt32)), .val (.int (0 : Int32))] [(.int (0 : Int32)), (.int (0 : Int32))]))
      refine own_st (fun _ kS => XS.icmpNo X75.here hx rfl (hb hby at_284) rfl (teq (by decide : (0 : Int32) = (0 : Int32))).2 kS) ?_
      show own_G p.tables e below _ (T75.setTop (mkF m 287 #[.val (.int p1), .val (.int p2), .val (.ref bK), .val (.ref bL), .val (.ref bH), .val (.int (7 : Int32)), .val (.int (p2.toInt16.toInt32)), .val (.int (p2.toInt16.toInt32)), .val (.int (0 : Int32))] []))
      refine own_st (fun _ kS => XS.iconst X75.here hx rfl (hb hby at_287) kS) ?_
      show own_G p.tables e below _ (T75.setTop (mkF m 288 #[.val (.int p1), .val (.int p2), .val (.ref bK), .val (.ref bL), .val (.ref bH), .val (.int (7 : Int32)), .val (.int (p2.toInt16.toInt32)), .val (.int (p2.toInt16.toInt32)), .val (.int (0 : Int32))] [(.int (1 : Int32))]))
      refine own_st (fun _ kS => XS.goto X75.here hx rfl (pc0 := 288) (pc' := 292) rfl (hb hby at_288) (by decide) (by decide) kS) ?_
      show own_G p.tables e below _ (T75.setTop (mkF m 292 #[.val (.int p1), .val (.int p2), .val (.ref bK), .val (.ref bL), .val (.ref bH), .val (.int (7 : Int32)), .val (.int (p2.toInt16.toInt32)), .val (.int (p2.toInt16.toInt32)), .val (.int (0 : Int32))] [(.int (1 : Int32))]))
      exact own_retN X75 hx hlk (t := .boolean) hret (by simp) (hb hby at_292) (by decide) (by decide) (v' := (1 : Int32)) rfl (by rw [eq75]; exact ⟨rfl, N75⟩)
    · skip
      refine own_st (fun _ kS => XS.icmpYes X0.here hx rfl (pc0 := 245) (pc' := 254) rfl (hb hby at_245) rfl (flt hc245_73).2.1 (by decide) (by decide) kS) ?_
      show own_G p.tables e below _ (T0.setTop (mkF m 254 #[.val (.int p1), .val (.int p2), .val (.ref bK), .val (.ref bL), .val (.ref bH), .val (.int (7 : Int32)), .val (.int (p2.toInt16.toInt32)), .val (.int (p2.toInt16.toInt32)), .unset] []))
      refine own_st (fun _ kS => XS.iload X0.here hx rfl (hb hby at_254) rfl kS) ?_
      show own_G p.tables e below _ (T0.setTop (mkF m 256 #[.val (.int p1), .val (.int p2), .val (.ref bK), .val (.ref bL), .val (.ref bH), .val (.int (7 : Int32)), .val (.int (p2.toInt16.toInt32)), .val (.int (p2.toInt16.toInt32)), .unset] [(.int (p2.toInt16.toInt32))]))
      refine own_st (fun _ kS => XS.aload X0.here hx rfl (hb hby at_256) rfl rfl kS) ?_
      show own_G p.tables e below _ (T0.setTop (mkF m 258 #[.val (.int p1), .val (.int p2), .val (.ref bK), .val (.ref bL), .val (.ref bH), .val (.int (7 : Int32)), .val (.int (p2.toInt16.toInt32)), .val (.int (p2.toInt16.toInt32)), .unset] [(.ref bH), (.int (p2.toInt16.toInt32))]))
      refine own_st (fun _ kS => XS.iload X0.here hx rfl (hb hby at_258) rfl kS) ?_
      show own_G p.tables e below _ (T0.setTop (mkF m 260 #[.val (.int p1), .val (.int p2), .val (.ref bK), .val (.ref bL), .val (.ref bH), .val (.int (7 : Int32)), .val (.int (p2.toInt16.toInt32)), .val (.int (p2.toInt16.toInt32)), .unset] [(.int (7 : Int32)), (.ref bH), (.int (p2.toInt16.toInt32))]))
      obtain ⟨cl76, Ar76, qa76, qs76, qn76, qh76, qg76⟩ := id R_H
      refine own_st (fun _ kS => X0.iaload hx (j := (7 : Int32)) (v := (.int (3 : Int32))) (by rw [e0]; exact Ar76.1) (State.isArrayOf_alike hZ.alike Ar76.2.1) Ar76.2.2 (inb_of qs76 ⟨by decide, by decide⟩) (qh76.at (inb_of qs76 ⟨by decide, by decide⟩) rfl) (g := (mkF m 260 #[.val (.int p1), .val (.int p2), .val (.ref bK), .val (.ref bL), .val (.ref bH), .val (.int (7 : Int32)), .val (.int (p2.toInt16.toInt32)), .val (.int (p2.toInt16.toInt32)), .unset] [(.int (7 : Int32)), (.ref bH), (.int (p2.toInt16.toInt32))])) rfl rfl (hb hby at_260) _ kS) ?_
      show own_G p.tables e below _ (T0.setTop (mkF m 261 #[.val (.int p1), .val (.int p2), .val (.ref bK), .val (.ref bL), .val (.ref bH), .val (.int (7 : Int32)), .val (.int (p2.toInt16.toInt32)), .val (.int (p2.toInt16.toInt32)), .unset] [(.int (3 : Int32)), (.int (p2.toInt16.toInt32))]))
      by_cases hc261_77 : (3 : Int32) < (p2.toInt16.toInt32)
      · skip
        refine own_st (fun _ kS => XS.icmpNo X0.here hx rfl (hb hby at_261) rfl (tlt hc261_77).2.2.2 kS) ?_
        show own_G p.tables e below _ (T0.setTop (mkF m 264 #[.val (.int p1), .val (.int p2), .val (.ref bK), .val (.ref bL), .val (.ref bH), .val (.int (7 : Int32)), .val (.int (p2.toInt16.toInt32)), .val (.int (p2.toInt16.toInt32)), .unset] []))
        refine own_st (fun _ kS => XS.iconst X0.here hx rfl (hb hby at_264) kS) ?_
        show own_G p.tables e below _ (T0.setTop (mkF m 265 #[.val (.int p1), .val (.int p2), .val (.ref bK), .val (.ref bL), .val (.ref bH), .val (.int (7 : Int32)), .val (.int (p2.toInt16.toInt32)), .val (.int (p2.toInt16.toInt32)), .unset] [(.int (0 : Int32))]))
        refine own_st (fun _ kS => XS.istore X0.here hx rfl (hb hby at_265) rfl (l' := #[.val (.int p1), .val (.int p2), .val (.ref bK), .val (.ref bL), .val (.ref bH), .val (.int (7 : Int32)), .val (.int (p2.toInt16.toInt32)), .val (.int (p2.toInt16.toInt32)), .val (.int (0 : Int32))]) rfl kS) ?_
        show own_G p.tables e below _ (T0.setTop (mkF m 267 #[.val (.int p1), .val (.int p2), .val (.ref bK), .val (.ref bL), .val (.ref bH), .val (.int (7 : Int32)), .val (.int (p2.toInt16.toInt32)), .val (.int (p2.toInt16.toInt32)), .val (.int (0 : Int32))] []))
        refine own_st (fun _ kS => XS.goto X0.here hx rfl (pc0 := 267) (pc' := 273) rfl (hb hby at_267) (by decide) (by decide) kS) ?_
        show own_G p.tables e below _ (T0.setTop (mkF m 273 #[.val (.int p1), .val (.int p2), .val (.ref bK), .val (.ref bL), .val (.ref bH), .val (.int (7 : Int32)), .val (.int (p2.toInt16.toInt32)), .val (.int (p2.toInt16.toInt32)), .val (.int (0 : Int32))] []))
        refine own_st (fun _ kS => XS.aloadN X0.here hx rfl (hb hby at_273) rfl rfl kS) ?_
        show own_G p.tables e below _ (T0.setTop (mkF m 274 #[.val (.int p1), .val (.int p2), .val (.ref bK), .val (.ref bL), .val (.ref bH), .val (.int (7 : Int32)), .val (.int (p2.toInt16.toInt32)), .val (.int (p2.toInt16.toInt32)), .val (.int (0 : Int32))] [(.ref bK)]))
        refine own_st (fun _ kS => XS.iload X0.here hx rfl (hb hby at_274) rfl kS) ?_
        show own_G p.tables e below _ (T0.setTop (mkF m 276 #[.val (.int p1), .val (.int p2), .val (.ref bK), .val (.ref bL), .val (.ref bH), .val (.int (7 : Int32)), .val (.int (p2.toInt16.toInt32)), .val (.int (p2.toInt16.toInt32)), .val (.int (0 : Int32))] [(.int (7 : Int32)), (.ref bK)]))
        obtain ⟨cl78, Ar78, qa78, qs78, qn78, qh78, qg78⟩ := id R_K
        refine own_st (fun _ kS => X0.aaload hx (j := (7 : Int32)) (v := (.ref w_HEARTBEAT)) (by rw [e0]; exact Ar78.1) (State.isArrayOf_alike hZ.alike Ar78.2.1) rfl Ar78.2.2 (inb_of qs78 ⟨by decide, by decide⟩) (qh78.at (inb_of qs78 ⟨by decide, by decide⟩) rfl) (g := (mkF m 276 #[.val (.int p1), .val (.int p2), .val (.ref bK), .val (.ref bL), .val (.ref bH), .val (.int (7 : Int32)), .val (.int (p2.toInt16.toInt32)), .val (.int (p2.toInt16.toInt32)), .val (.int (0 : Int32))] [(.int (7 : Int32)), (.ref bK)])) rfl rfl (hb hby at_276) _ kS) ?_
        show own_G p.tables e below _ (T0.setTop (mkF m 277 #[.val (.int p1), .val (.int p2), .val (.ref bK), .val (.ref bL), .val (.ref bH), .val (.int (7 : Int32)), .val (.int (p2.toInt16.toInt32)), .val (.int (p2.toInt16.toInt32)), .val (.int (0 : Int32))] [(.ref w_HEARTBEAT)]))
        refine own_st (fun _ kS => XS.iload X0.here hx rfl (hb hby at_277) rfl kS) ?_
        show own_G p.tables e below _ (T0.setTop (mkF m 279 #[.val (.int p1), .val (.int p2), .val (.ref bK), .val (.ref bL), .val (.ref bH), .val (.int (7 : Int32)), .val (.int (p2.toInt16.toInt32)), .val (.int (p2.toInt16.toInt32)), .val (.int (0 : Int32))] [(.int (p2.toInt16.toInt32)), (.ref w_HEARTBEAT)]))
        obtain ⟨cq79, kq79, q79a, q79b, q79c⟩ := isOf hZ e0 (Exa.ext O0.2 E_HEARTBEAT)
        obtain ⟨_, _, ⟨T79, L79, k79, n79⟩, -, X79, ⟨Lc79, hQ79, l79, y79, z79⟩, st79⟩ := X0.virtualBack hx (y := (⟨"com/example/loose_grip/loosegrip/wire/ApiKey", "supports", "(S)Z"⟩ : MethodName)) (z := (⟨"com/example/loose_grip/loosegrip/wire/ApiKey", "supports", "(S)Z"⟩ : MethodName)) hown (mvT hZ (hw _ (List.mem_of_getElem? (i := 32) rfl))) (mvT hZ (hw _ (List.mem_of_getElem? (i := 33) rfl))) (notFace_of_selects (args := #[]) (mvT hZ (hw _ (List.mem_of_getElem? (i := 35) rfl)))) (mvT hZ (hw _ (List.mem_of_getElem? (i := 35) rfl))) (mvT hZ (hw _ (List.mem_of_getElem? (i := 34) rfl))) (by decide) (backOf (W := 0) (rm_sup_gt l Z a0 hw [] w_HEARTBEAT (p2.toInt16.toInt32) (0 : Int32) (3 : Int32) h0 n0 Z0 O0 F_HEARTBEAT_minVersion F_HEARTBEAT_maxVersion hc245_73 hc261_77) hZ (hw _ (List.mem_of_getElem? (i := 36) rfl)) (hw _ (List.mem_of_getElem? (i := 3) rfl)) (by decide) (by decide)) q79a q79c (g := (mkF m 279 #[.val (.int p1), .val (.int p2), .val (.ref bK), .val (.ref bL), .val (.ref bH), .val (.int (7 : Int32)), .val (.int (p2.toInt16.toInt32)), .val (.int (p2.toInt16.toInt32)), .val (.int (0 : Int32))] [(.int (p2.toInt16.toInt32)), (.ref w_HEARTBEAT)])) rfl (by rw [hml]; rfl) (Steps.refl _) (argsL := [(.int (p2.toInt16.toInt32))]) (rest := []) (lenOf own_pd0 rfl) rfl (by show 2 * 0 + _ ≤ _; exact Nat.le_of_eq rfl) (hb hby at_279) (fun _ _ => ⟨rfl, e0, (by decide : 3 + 0 ≤ _), (by decide : 39 + 0 ≤ _)⟩)
        dsimp only [Pt.U, Pt.locs, Pt.cells, Pt.slots] at X79 l79 y79 z79 st79 hQ79
        subst l79 y79 z79
        obtain ⟨rfl, Nq79, eq79⟩ := hQ79
        have N79 := Fr.app N0 Nq79
        refine own_tr st79 ?_
        show own_G p.tables e below _ (T79.setTop (mkF m 282 #[.val (.int p1), .val (.int p2), .val (.ref bK), .val (.ref bL), .val (.ref bH), .val (.int (7 : Int32)), .val (.int (p2.toInt16.toInt32)), .val (.int (p2.toInt16.toInt32)), .val (.int (0 : Int32))] [(.int (0 : Int32))]))
        refine own_st (fun _ kS => XS.iload X79.here hx rfl (hb hby at_282) rfl kS) ?_
        show own_G p.tables e below _ (T79.setTop (mkF m 284 #[.val (.int p1), .val (.int p2), .val (.ref bK), .val (.ref bL), .val (.ref bH), .val (.int (7 : Int32)), .val (.int (p2.toInt16.toInt32)), .val (.int (p2.toInt16.toInt32)), .val (.int (0 : Int32))] [(.int (0 : Int32)), (.int (0 : Int32))]))
        refine own_st (fun _ kS => XS.icmpNo X79.here hx rfl (hb hby at_284) rfl (teq (by decide : (0 : Int32) = (0 : Int32))).2 kS) ?_
        show own_G p.tables e below _ (T79.setTop (mkF m 287 #[.val (.int p1), .val (.int p2), .val (.ref bK), .val (.ref bL), .val (.ref bH), .val (.int (7 : Int32)), .val (.int (p2.toInt16.toInt32)), .val (.int (p2.toInt16.toInt32)), .val (.int (0 : Int32))] []))
        refine own_st (fun _ kS => XS.iconst X79.here hx rfl (hb hby at_287) kS) ?_
        show own_G p.tables e below _ (T79.setTop (mkF m 288 #[.val (.int p1), .val (.int p2), .val (.ref bK), .val (.ref bL), .val (.ref bH), .val (.int (7 : Int32)), .val (.int (p2.toInt16.toInt32)), .val (.int (p2.toInt16.toInt32)), .val (.int (0 : Int32))] [(.int (1 : Int32))]))
        refine own_st (fun _ kS => XS.goto X79.here hx rfl (pc0 := 288) (pc' := 292) rfl (hb hby at_288) (by decide) (by decide) kS) ?_
        show own_G p.tables e below _ (T79.setTop (mkF m 292 #[.val (.int p1), .val (.int p2), .val (.ref bK), .val (.ref bL), .val (.ref bH), .val (.int (7 : Int32)), .val (.int (p2.toInt16.toInt32)), .val (.int (p2.toInt16.toInt32)), .val (.int (0 : Int32))] [(.int (1 : Int32))]))
        exact own_retN X79 hx hlk (t := .boolean) hret (by simp) (hb hby at_292) (by decide) (by decide) (v' := (1 : Int32)) rfl (by rw [eq79]; exact ⟨rfl, N79⟩)
      · skip
        refine own_st (fun _ kS => XS.icmpYes X0.here hx rfl (pc0 := 261) (pc' := 270) rfl (hb hby at_261) rfl (flt hc261_77).2.2.2 (by decide) (by decide) kS) ?_
        show own_G p.tables e below _ (T0.setTop (mkF m 270 #[.val (.int p1), .val (.int p2), .val (.ref bK), .val (.ref bL), .val (.ref bH), .val (.int (7 : Int32)), .val (.int (p2.toInt16.toInt32)), .val (.int (p2.toInt16.toInt32)), .unset] []))
        refine own_st (fun _ kS => XS.iconst X0.here hx rfl (hb hby at_270) kS) ?_
        show own_G p.tables e below _ (T0.setTop (mkF m 271 #[.val (.int p1), .val (.int p2), .val (.ref bK), .val (.ref bL), .val (.ref bH), .val (.int (7 : Int32)), .val (.int (p2.toInt16.toInt32)), .val (.int (p2.toInt16.toInt32)), .unset] [(.int (1 : Int32))]))
        refine own_st (fun _ kS => XS.istore X0.here hx rfl (hb hby at_271) rfl (l' := #[.val (.int p1), .val (.int p2), .val (.ref bK), .val (.ref bL), .val (.ref bH), .val (.int (7 : Int32)), .val (.int (p2.toInt16.toInt32)), .val (.int (p2.toInt16.toInt32)), .val (.int (1 : Int32))]) rfl kS) ?_
        show own_G p.tables e below _ (T0.setTop (mkF m 273 #[.val (.int p1), .val (.int p2), .val (.ref bK), .val (.ref bL), .val (.ref bH), .val (.int (7 : Int32)), .val (.int (p2.toInt16.toInt32)), .val (.int (p2.toInt16.toInt32)), .val (.int (1 : Int32))] []))
        refine own_st (fun _ kS => XS.aloadN X0.here hx rfl (hb hby at_273) rfl rfl kS) ?_
        show own_G p.tables e below _ (T0.setTop (mkF m 274 #[.val (.int p1), .val (.int p2), .val (.ref bK), .val (.ref bL), .val (.ref bH), .val (.int (7 : Int32)), .val (.int (p2.toInt16.toInt32)), .val (.int (p2.toInt16.toInt32)), .val (.int (1 : Int32))] [(.ref bK)]))
        refine own_st (fun _ kS => XS.iload X0.here hx rfl (hb hby at_274) rfl kS) ?_
        show own_G p.tables e below _ (T0.setTop (mkF m 276 #[.val (.int p1), .val (.int p2), .val (.ref bK), .val (.ref bL), .val (.ref bH), .val (.int (7 : Int32)), .val (.int (p2.toInt16.toInt32)), .val (.int (p2.toInt16.toInt32)), .val (.int (1 : Int32))] [(.int (7 : Int32)), (.ref bK)]))
        obtain ⟨cl80, Ar80, qa80, qs80, qn80, qh80, qg80⟩ := id R_K
        refine own_st (fun _ kS => X0.aaload hx (j := (7 : Int32)) (v := (.ref w_HEARTBEAT)) (by rw [e0]; exact Ar80.1) (State.isArrayOf_alike hZ.alike Ar80.2.1) rfl Ar80.2.2 (inb_of qs80 ⟨by decide, by decide⟩) (qh80.at (inb_of qs80 ⟨by decide, by decide⟩) rfl) (g := (mkF m 276 #[.val (.int p1), .val (.int p2), .val (.ref bK), .val (.ref bL), .val (.ref bH), .val (.int (7 : Int32)), .val (.int (p2.toInt16.toInt32)), .val (.int (p2.toInt16.toInt32)), .val (.int (1 : Int32))] [(.int (7 : Int32)), (.ref bK)])) rfl rfl (hb hby at_276) _ kS) ?_
        show own_G p.tables e below _ (T0.setTop (mkF m 277 #[.val (.int p1), .val (.int p2), .val (.ref bK), .val (.ref bL), .val (.ref bH), .val (.int (7 : Int32)), .val (.int (p2.toInt16.toInt32)), .val (.int (p2.toInt16.toInt32)), .val (.int (1 : Int32))] [(.ref w_HEARTBEAT)]))
        refine own_st (fun _ kS => XS.iload X0.here hx rfl (hb hby at_277) rfl kS) ?_
        show own_G p.tables e below _ (T0.setTop (mkF m 279 #[.val (.int p1), .val (.int p2), .val (.ref bK), .val (.ref bL), .val (.ref bH), .val (.int (7 : Int32)), .val (.int (p2.toInt16.toInt32)), .val (.int (p2.toInt16.toInt32)), .val (.int (1 : Int32))] [(.int (p2.toInt16.toInt32)), (.ref w_HEARTBEAT)]))
        obtain ⟨cq81, kq81, q81a, q81b, q81c⟩ := isOf hZ e0 (Exa.ext O0.2 E_HEARTBEAT)
        obtain ⟨_, _, ⟨T81, L81, k81, n81⟩, -, X81, ⟨Lc81, hQ81, l81, y81, z81⟩, st81⟩ := X0.virtualBack hx (y := (⟨"com/example/loose_grip/loosegrip/wire/ApiKey", "supports", "(S)Z"⟩ : MethodName)) (z := (⟨"com/example/loose_grip/loosegrip/wire/ApiKey", "supports", "(S)Z"⟩ : MethodName)) hown (mvT hZ (hw _ (List.mem_of_getElem? (i := 32) rfl))) (mvT hZ (hw _ (List.mem_of_getElem? (i := 33) rfl))) (notFace_of_selects (args := #[]) (mvT hZ (hw _ (List.mem_of_getElem? (i := 35) rfl)))) (mvT hZ (hw _ (List.mem_of_getElem? (i := 35) rfl))) (mvT hZ (hw _ (List.mem_of_getElem? (i := 34) rfl))) (by decide) (backOf (W := 0) (rm_sup_in l Z a0 hw [] w_HEARTBEAT (p2.toInt16.toInt32) (0 : Int32) (3 : Int32) h0 n0 Z0 O0 F_HEARTBEAT_minVersion F_HEARTBEAT_maxVersion hc245_73 hc261_77) hZ (hw _ (List.mem_of_getElem? (i := 36) rfl)) (hw _ (List.mem_of_getElem? (i := 3) rfl)) (by decide) (by decide)) q81a q81c (g := (mkF m 279 #[.val (.int p1), .val (.int p2), .val (.ref bK), .val (.ref bL), .val (.ref bH), .val (.int (7 : Int32)), .val (.int (p2.toInt16.toInt32)), .val (.int (p2.toInt16.toInt32)), .val (.int (1 : Int32))] [(.int (p2.toInt16.toInt32)), (.ref w_HEARTBEAT)])) rfl (by rw [hml]; rfl) (Steps.refl _) (argsL := [(.int (p2.toInt16.toInt32))]) (rest := []) (lenOf own_pd0 rfl) rfl (by show 2 * 0 + _ ≤ _; exact Nat.le_of_eq rfl) (hb hby at_279) (fun _ _ => ⟨rfl, e0, (by decide : 3 + 0 ≤ _), (by decide : 39 + 0 ≤ _)⟩)
        dsimp only [Pt.U, Pt.locs, Pt.cells, Pt.slots] at X81 l81 y81 z81 st81 hQ81
        subst l81 y81 z81
        obtain ⟨rfl, Nq81, eq81⟩ := hQ81
        have N81 := Fr.app N0 Nq81
        refine own_tr st81 ?_
        show own_G p.tables e below _ (T81.setTop (mkF m 282 #[.val (.int p1), .val (.int p2), .val (.ref bK), .val (.ref bL), .val (.ref bH), .val (.int (7 : Int32)), .val (.int (p2.toInt16.toInt32)), .val (.int (p2.toInt16.toInt32)), .val (.int (1 : Int32))] [(.int (1 : Int32))]))
        refine own_st (fun _ kS => XS.iload X81.here hx rfl (hb hby at_282) rfl kS) ?_
        show own_G p.tables e below _ (T81.setTop (mkF m 284 #[.val (.int p1), .val (.int p2), .val (.ref bK), .val (.ref bL), .val (.ref bH), .val (.int (7 : Int32)), .val (.int (p2.toInt16.toInt32)), .val (.int (p2.toInt16.toInt32)), .val (.int (1 : Int32))] [(.int (1 : Int32)), (.int (1 : Int32))]))
        refine own_st (fun _ kS => XS.icmpNo X81.here hx rfl (hb hby at_284) rfl (teq (by decide : (1 : Int32) = (1 : Int32))).2 kS) ?_
        show own_G p.tables e below _ (T81.setTop (mkF m 287 #[.val (.int p1), .val (.int p2), .val (.ref bK), .val (.ref bL), .val (.ref bH), .val (.int (7 : Int32)), .val (.int (p2.toInt16.toInt32)), .val (.int (p2.toInt16.toInt32)), .val (.int (1 : Int32))] []))
        refine own_st (fun _ kS => XS.iconst X81.here hx rfl (hb hby at_287) kS) ?_
        show own_G p.tables e below _ (T81.setTop (mkF m 288 #[.val (.int p1), .val (.int p2), .val (.ref bK), .val (.ref bL), .val (.ref bH), .val (.int (7 : Int32)), .val (.int (p2.toInt16.toInt32)), .val (.int (p2.toInt16.toInt32)), .val (.int (1 : Int32))] [(.int (1 : Int32))]))
        refine own_st (fun _ kS => XS.goto X81.here hx rfl (pc0 := 288) (pc' := 292) rfl (hb hby at_288) (by decide) (by decide) kS) ?_
        show own_G p.tables e below _ (T81.setTop (mkF m 292 #[.val (.int p1), .val (.int p2), .val (.ref bK), .val (.ref bL), .val (.ref bH), .val (.int (7 : Int32)), .val (.int (p2.toInt16.toInt32)), .val (.int (p2.toInt16.toInt32)), .val (.int (1 : Int32))] [(.int (1 : Int32))]))
        exact own_retN X81 hx hlk (t := .boolean) hret (by simp) (hb hby at_292) (by decide) (by decide) (v' := (1 : Int32)) rfl (by rw [eq81]; exact ⟨rfl, N81⟩)
  · rw [hk1]
    show own_G p.tables e below _ (T0.setTop (mkF m 229 #[.val (.int p1), .val (.int p2), .val (.ref bK), .val (.ref bL), .val (.ref bH), .unset, .unset, .unset, .unset] [(.int (8 : Int32))]))
    refine own_st (fun _ kS => XS.istore X0.here hx rfl (hb hby at_229) rfl (l' := #[.val (.int p1), .val (.int p2), .val (.ref bK), .val (.ref bL), .val (.ref bH), .val (.int (8 : Int32)), .unset, .unset, .unset]) rfl kS) ?_
    show own_G p.tables e below _ (T0.setTop (mkF m 231 #[.val (.int p1), .val (.int p2), .val (.ref bK), .val (.ref bL), .val (.ref bH), .val (.int (8 : Int32)), .unset, .unset, .unset] []))
    refine own_st (fun _ kS => XS.iloadN X0.here hx rfl (hb hby at_231) rfl kS) ?_
    show own_G p.tables e below _ (T0.setTop (mkF m 232 #[.val (.int p1), .val (.int p2), .val (.ref bK), .val (.ref bL), .val (.ref bH), .val (.int (8 : Int32)), .unset, .unset, .unset] [(.int p2)]))
    refine own_st (fun _ kS => XT.i2s X0.here hx rfl (hb hby at_232) rfl kS) ?_
    show own_G p.tables e below _ (T0.setTop (mkF m 233 #[.val (.int p1), .val (.int p2), .val (.ref bK), .val (.ref bL), .val (.ref bH), .val (.int (8 : Int32)), .unset, .unset, .unset] [(.int (p2.toInt16.toInt32))]))
    refine own_st (fun _ kS => XS.istore X0.here hx rfl (hb hby at_233) rfl (l' := #[.val (.int p1), .val (.int p2), .val (.ref bK), .val (.ref bL), .val (.ref bH), .val (.int (8 : Int32)), .val (.int (p2.toInt16.toInt32)), .unset, .unset]) rfl kS) ?_
    show own_G p.tables e below _ (T0.setTop (mkF m 235 #[.val (.int p1), .val (.int p2), .val (.ref bK), .val (.ref bL), .val (.ref bH), .val (.int (8 : Int32)), .val (.int (p2.toInt16.toInt32)), .unset, .unset] []))
    refine own_st (fun _ kS => XS.iload X0.here hx rfl (hb hby at_235) rfl kS) ?_
    show own_G p.tables e below _ (T0.setTop (mkF m 237 #[.val (.int p1), .val (.int p2), .val (.ref bK), .val (.ref bL), .val (.ref bH), .val (.int (8 : Int32)), .val (.int (p2.toInt16.toInt32)), .unset, .unset] [(.int (p2.toInt16.toInt32))]))
    refine own_st (fun _ kS => XS.istore X0.here hx rfl (hb hby at_237) rfl (l' := #[.val (.int p1), .val (.int p2), .val (.ref bK), .val (.ref bL), .val (.ref bH), .val (.int (8 : Int32)), .val (.int (p2.toInt16.toInt32)), .val (.int (p2.toInt16.toInt32)), .unset]) rfl kS) ?_
    show own_G p.tables e below _ (T0.setTop (mkF m 239 #[.val (.int p1), .val (.int p2), .val (.ref bK), .val (.ref bL), .val (.ref bH), .val (.int (8 : Int32)), .val (.int (p2.toInt16.toInt32)), .val (.int (p2.toInt16.toInt32)), .unset] []))
    refine own_st (fun _ kS => XS.iload X0.here hx rfl (hb hby at_239) rfl kS) ?_
    show own_G p.tables e below _ (T0.setTop (mkF m 241 #[.val (.int p1), .val (.int p2), .val (.ref bK), .val (.ref bL), .val (.ref bH), .val (.int (8 : Int32)), .val (.int (p2.toInt16.toInt32)), .val (.int (p2.toInt16.toInt32)), .unset] [(.int (p2.toInt16.toInt32))]))
    refine own_st (fun _ kS => XS.aloadN X0.here hx rfl (hb hby at_241) rfl rfl kS) ?_
    show own_G p.tables e below _ (T0.setTop (mkF m 242 #[.val (.int p1), .val (.int p2), .val (.ref bK), .val (.ref bL), .val (.ref bH), .val (.int (8 : Int32)), .val (.int (p2.toInt16.toInt32)), .val (.int (p2.toInt16.toInt32)), .unset] [(.ref bL), (.int (p2.toInt16.toInt32))]))
    refine own_st (fun _ kS => XS.iload X0.here hx rfl (hb hby at_242) rfl kS) ?_
    show own_G p.tables e below _ (T0.setTop (mkF m 244 #[.val (.int p1), .val (.int p2), .val (.ref bK), .val (.ref bL), .val (.ref bH), .val (.int (8 : Int32)), .val (.int (p2.toInt16.toInt32)), .val (.int (p2.toInt16.toInt32)), .unset] [(.int (8 : Int32)), (.ref bL), (.int (p2.toInt16.toInt32))]))
    obtain ⟨cl82, Ar82, qa82, qs82, qn82, qh82, qg82⟩ := id R_L
    refine own_st (fun _ kS => X0.iaload hx (j := (8 : Int32)) (v := (.int (0 : Int32))) (by rw [e0]; exact Ar82.1) (State.isArrayOf_alike hZ.alike Ar82.2.1) Ar82.2.2 (inb_of qs82 ⟨by decide, by decide⟩) (qh82.at (inb_of qs82 ⟨by decide, by decide⟩) rfl) (g := (mkF m 244 #[.val (.int p1), .val (.int p2), .val (.ref bK), .val (.ref bL), .val (.ref bH), .val (.int (8 : Int32)), .val (.int (p2.toInt16.toInt32)), .val (.int (p2.toInt16.toInt32)), .unset] [(.int (8 : Int32)), (.ref bL), (.int (p2.toInt16.toInt32))])) rfl rfl (hb hby at_244) _ kS) ?_
    show own_G p.tables e below _ (T0.setTop (mkF m 245 #[.val (.int p1), .val (.int p2), .val (.ref bK), .val (.ref bL), .val (.ref bH), .val (.int (8 : Int32)), .val (.int (p2.toInt16.toInt32)), .val (.int (p2.toInt16.toInt32)), .unset] [(.int (0 : Int32)), (.int (p2.toInt16.toInt32))]))
    by_cases hc245_83 : (p2.toInt16.toInt32) < (0 : Int32)
    · skip
      refine own_st (fun _ kS => XS.icmpNo X0.here hx rfl (hb hby at_245) rfl (tlt hc245_83).2.1 kS) ?_
      show own_G p.tables e below _ (T0.setTop (mkF m 248 #[.val (.int p1), .val (.int p2), .val (.ref bK), .val (.ref bL), .val (.ref bH), .val (.int (8 : Int32)), .val (.int (p2.toInt16.toInt32)), .val (.int (p2.toInt16.toInt32)), .unset] []))
      refine own_st (fun _ kS => XS.iconst X0.here hx rfl (hb hby at_248) kS) ?_
      show own_G p.tables e below _ (T0.setTop (mkF m 249 #[.val (.int p1), .val (.int p2), .val (.ref bK), .val (.ref bL), .val (.ref bH), .val (.int (8 : Int32)), .val (.int (p2.toInt16.toInt32)), .val (.int (p2.toInt16.toInt32)), .unset] [(.int (0 : Int32))]))
      refine own_st (fun _ kS => XS.istore X0.here hx rfl (hb hby at_249) rfl (l' := #[.val (.int p1), .val (.int p2), .val (.ref bK), .val (.ref bL), .val (.ref bH), .val (.int (8 : Int32)), .val (.int (p2.toInt16.toInt32)), .val (.int (p2.toInt16.toInt32)), .val (.int (0 : Int32))]) rfl kS) ?_
      show own_G p.tables e below _ (T0.setTop (mkF m 251 #[.val (.int p1), .val (.int p2), .val (.ref bK), .val (.ref bL), .val (.ref bH), .val (.int (8 : Int32)), .val (.int (p2.toInt16.toInt32)), .val (.int (p2.toInt16.toInt32)), .val (.int (0 : Int32))] []))
      refine own_st (fun _ kS => XS.goto X0.here hx rfl (pc0 := 251) (pc' := 273) rfl (hb hby at_251) (by decide) (by decide) kS) ?_
      show own_G p.tables e below _ (T0.setTop (mkF m 273 #[.val (.int p1), .val (.int p2), .val (.ref bK), .val (.ref bL), .val (.ref bH), .val (.int (8 : Int32)), .val (.int (p2.toInt16.toInt32)), .val (.int (p2.toInt16.toInt32)), .val (.int (0 : Int32))] []))
      refine own_st (fun _ kS => XS.aloadN X0.here hx rfl (hb hby at_273) rfl rfl kS) ?_
      show own_G p.tables e below _ (T0.setTop (mkF m 274 #[.val (.int p1), .val (.int p2), .val (.ref bK), .val (.ref bL), .val (.ref bH), .val (.int (8 : Int32)), .val (.int (p2.toInt16.toInt32)), .val (.int (p2.toInt16.toInt32)), .val (.int (0 : Int32))] [(.ref bK)]))
      refine own_st (fun _ kS => XS.iload X0.here hx rfl (hb hby at_274) rfl kS) ?_
      show own_G p.tables e below _ (T0.setTop (mkF m 276 #[.val (.int p1), .val (.int p2), .val (.ref bK), .val (.ref bL), .val (.ref bH), .val (.int (8 : Int32)), .val (.int (p2.toInt16.toInt32)), .val (.int (p2.toInt16.toInt32)), .val (.int (0 : Int32))] [(.int (8 : Int32)), (.ref bK)]))
      obtain ⟨cl84, Ar84, qa84, qs84, qn84, qh84, qg84⟩ := id R_K
      refine own_st (fun _ kS => X0.aaload hx (j := (8 : Int32)) (v := (.ref w_LEAVE_GROUP)) (by rw [e0]; exact Ar84.1) (State.isArrayOf_alike hZ.alike Ar84.2.1) rfl Ar84.2.2 (inb_of qs84 ⟨by decide, by decide⟩) (qh84.at (inb_of qs84 ⟨by decide, by decide⟩) rfl) (g := (mkF m 276 #[.val (.int p1), .val (.int p2), .val (.ref bK), .val (.ref bL), .val (.ref bH), .val (.int (8 : Int32)), .val (.int (p2.toInt16.toInt32)), .val (.int (p2.toInt16.toInt32)), .val (.int (0 : Int32))] [(.int (8 : Int32)), (.ref bK)])) rfl rfl (hb hby at_276) _ kS) ?_
      show own_G p.tables e below _ (T0.setTop (mkF m 277 #[.val (.int p1), .val (.int p2), .val (.ref bK), .val (.ref bL), .val (.ref bH), .val (.int (8 : Int32)), .val (.int (p2.toInt16.toInt32)), .val (.int (p2.toInt16.toInt32)), .val (.int (0 : Int32))] [(.ref w_LEAVE_GROUP)]))
      refine own_st (fun _ kS => XS.iload X0.here hx rfl (hb hby at_277) rfl kS) ?_
      show own_G p.tables e below _ (T0.setTop (mkF m 279 #[.val (.int p1), .val (.int p2), .val (.ref bK), .val (.ref bL), .val (.ref bH), .val (.int (8 : Int32)), .val (.int (p2.toInt16.toInt32)), .val (.int (p2.toInt16.toInt32)), .val (.int (0 : Int32))] [(.int (p2.toInt16.toInt32)), (.ref w_LEAVE_GROUP)]))
      obtain ⟨cq85, kq85, q85a, q85b, q85c⟩ := isOf hZ e0 (Exa.ext O0.2 E_LEAVE_GROUP)
      obtain ⟨_, _, ⟨T85, L85, k85, n85⟩, -, X85, ⟨Lc85, hQ85, l85, y85, z85⟩, st85⟩ := X0.virtualBack hx (y := (⟨"com/example/loose_grip/loosegrip/wire/ApiKey", "supports", "(S)Z"⟩ : MethodName)) (z := (⟨"com/example/loose_grip/loosegrip/wire/ApiKey", "supports", "(S)Z"⟩ : MethodName)) hown (mvT hZ (hw _ (List.mem_of_getElem? (i := 32) rfl))) (mvT hZ (hw _ (List.mem_of_getElem? (i := 33) rfl))) (notFace_of_selects (args := #[]) (mvT hZ (hw _ (List.mem_of_getElem? (i := 35) rfl)))) (mvT hZ (hw _ (List.mem_of_getElem? (i := 35) rfl))) (mvT hZ (hw _ (List.mem_of_getElem? (i := 34) rfl))) (by decide) (backOf (W := 0) (rm_sup_lt l Z a0 hw [] w_LEAVE_GROUP (p2.toInt16.toInt32) (0 : Int32) h0 n0 Z0 O0 F_LEAVE_GROUP_minVersion hc245_83) hZ (hw _ (List.mem_of_getElem? (i := 36) rfl)) (hw _ (List.mem_of_getElem? (i := 3) rfl)) (by decide) (by decide)) q85a q85c (g := (mkF m 279 #[.val (.int p1), .val (.int p2), .val (.ref bK), .val (.ref bL), .val (.ref bH), .val (.int (8 : Int32)), .val (.int (p2.toInt16.toInt32)), .val (.int (p2.toInt16.toInt32)), .val (.int (0 : Int32))] [(.int (p2.toInt16.toInt32)), (.ref w_LEAVE_GROUP)])) rfl (by rw [hml]; rfl) (Steps.refl _) (argsL := [(.int (p2.toInt16.toInt32))]) (rest := []) (lenOf own_pd0 rfl) rfl (by show 2 * 0 + _ ≤ _; exact Nat.le_of_eq rfl) (hb hby at_279) (fun _ _ => ⟨rfl, e0, (by decide : 3 + 0 ≤ _), (by decide : 39 + 0 ≤ _)⟩)
      dsimp only [Pt.U, Pt.locs, Pt.cells, Pt.slots] at X85 l85 y85 z85 st85 hQ85
      subst l85 y85 z85
      obtain ⟨rfl, Nq85, eq85⟩ := hQ85
      have N85 := Fr.app N0 Nq85
      refine own_tr st85 ?_
      show own_G p.tables e below _ (T85.setTop (mkF m 282 #[.val (.int p1), .val (.int p2), .val (.ref bK), .val (.ref bL), .val (.ref bH), .val (.int (8 : Int32)), .val (.int (p2.toInt16.toInt32)), .val (.int (p2.toInt16.toInt32)), .val (.int (0 : Int32))] [(.int (0 : Int32))]))
      refine own_st (fun _ kS => XS.iload X85.here hx rfl (hb hby at_282) rfl kS) ?_
      show own_G p.tables e below _ (T85.setTop (mkF m 284 #[.val (.int p1), .val (.int p2), .val (.ref bK), .val (.ref bL), .val (.ref bH), .val (.int (8 : Int32)), .val (.int (p2.toInt16.toInt32)), .val (.int (p2.toInt16.toInt32)), .val (.int (0 : Int32))] [(.int (0 : Int32)), (.int (0 : Int32))]))
      refine own_st (fun _ kS => XS.icmpNo X85.here hx rfl (hb hby at_284) rfl (teq (by decide : (0 : Int32) = (0 : Int32))).2 kS) ?_
      show own_G p.tables e below _ (T85.setTop (mkF m 287 #[.val (.int p1), .val (.int p2), .val (.ref bK), .val (.ref bL), .val (.ref bH), .val (.int (8 : Int32)), .val (.int (p2.toInt16.toInt32)), .val (.int (p2.toInt16.toInt32)), .val (.int (0 : Int32))] []))
      refine own_st (fun _ kS => XS.iconst X85.here hx rfl (hb hby at_287) kS) ?_
      show own_G p.tables e below _ (T85.setTop (mkF m 288 #[.val (.int p1), .val (.int p2), .val (.ref bK), .val (.ref bL), .val (.ref bH), .val (.int (8 : Int32)), .val (.int (p2.toInt16.toInt32)), .val (.int (p2.toInt16.toInt32)), .val (.int (0 : Int32))] [(.int (1 : Int32))]))
      refine own_st (fun _ kS => XS.goto X85.here hx rfl (pc0 := 288) (pc' := 292) rfl (hb hby at_288) (by decide) (by decide) kS) ?_
      show own_G p.tables e below _ (T85.setTop (mkF m 292 #[.val (.int p1), .val (.int p2), .val (.ref bK), .val (.ref bL), .val (.ref bH), .val (.int (8 : Int32)), .val (.int (p2.toInt16.toInt32)), .val (.int (p2.toInt16.toInt32)), .val (.int (0 : Int32))] [(.int (1 : Int32))]))
      exact own_retN X85 hx hlk (t := .boolean) hret (by simp) (hb hby at_292) (by decide) (by decide) (v' := (1 : Int32)) rfl (by rw [eq85]; exact ⟨rfl, N85⟩)
    · skip
      refine own_st (fun _ kS => XS.icmpYes X0.here hx rfl (pc0 := 245) (pc' := 254) rfl (hb hby at_245) rfl (flt hc245_83).2.1 (by decide) (by decide) kS) ?_
      show own_G p.tables e below _ (T0.setTop (mkF m 254 #[.val (.int p1), .val (.int p2), .val (.ref bK), .val (.ref bL), .val (.ref bH), .val (.int (8 : Int32)), .val (.int (p2.toInt16.toInt32)), .val (.int (p2.toInt16.toInt32)), .unset] []))
      refine own_st (fun _ kS => XS.iload X0.here hx rfl (hb hby at_254) rfl kS) ?_
      show own_G p.tables e below _ (T0.setTop (mkF m 256 #[.val (.int p1), .val (.int p2), .val (.ref bK), .val (.ref bL), .val (.ref bH), .val (.int (8 : Int32)), .val (.int (p2.toInt16.toInt32)), .val (.int (p2.toInt16.toInt32)), .unset] [(.int (p2.toInt16.toInt32))]))
      refine own_st (fun _ kS => XS.aload X0.here hx rfl (hb hby at_256) rfl rfl kS) ?_
      show own_G p.tables e below _ (T0.setTop (mkF m 258 #[.val (.int p1), .val (.int p2), .val (.ref bK), .val (.ref bL), .val (.ref bH), .val (.int (8 : Int32)), .val (.int (p2.toInt16.toInt32)), .val (.int (p2.toInt16.toInt32)), .unset] [(.ref bH), (.int (p2.toInt16.toInt32))]))
      refine own_st (fun _ kS => XS.iload X0.here hx rfl (hb hby at_258) rfl kS) ?_
      show own_G p.tables e below _ (T0.setTop (mkF m 260 #[.val (.int p1), .val (.int p2), .val (.ref bK), .val (.ref bL), .val (.ref bH), .val (.int (8 : Int32)), .val (.int (p2.toInt16.toInt32)), .val (.int (p2.toInt16.toInt32)), .unset] [(.int (8 : Int32)), (.ref bH), (.int (p2.toInt16.toInt32))]))
      obtain ⟨cl86, Ar86, qa86, qs86, qn86, qh86, qg86⟩ := id R_H
      refine own_st (fun _ kS => X0.iaload hx (j := (8 : Int32)) (v := (.int (3 : Int32))) (by rw [e0]; exact Ar86.1) (State.isArrayOf_alike hZ.alike Ar86.2.1) Ar86.2.2 (inb_of qs86 ⟨by decide, by decide⟩) (qh86.at (inb_of qs86 ⟨by decide, by decide⟩) rfl) (g := (mkF m 260 #[.val (.int p1), .val (.int p2), .val (.ref bK), .val (.ref bL), .val (.ref bH), .val (.int (8 : Int32)), .val (.int (p2.toInt16.toInt32)), .val (.int (p2.toInt16.toInt32)), .unset] [(.int (8 : Int32)), (.ref bH), (.int (p2.toInt16.toInt32))])) rfl rfl (hb hby at_260) _ kS) ?_
      show own_G p.tables e below _ (T0.setTop (mkF m 261 #[.val (.int p1), .val (.int p2), .val (.ref bK), .val (.ref bL), .val (.ref bH), .val (.int (8 : Int32)), .val (.int (p2.toInt16.toInt32)), .val (.int (p2.toInt16.toInt32)), .unset] [(.int (3 : Int32)), (.int (p2.toInt16.toInt32))]))
      by_cases hc261_87 : (3 : Int32) < (p2.toInt16.toInt32)
      · skip
        refine own_st (fun _ kS => XS.icmpNo X0.here hx rfl (hb hby at_261) rfl (tlt hc261_87).2.2.2 kS) ?_
        show own_G p.tables e below _ (T0.setTop (mkF m 264 #[.val (.int p1), .val (.int p2), .val (.ref bK), .val (.ref bL), .val (.ref bH), .val (.int (8 : Int32)), .val (.int (p2.toInt16.toInt32)), .val (.int (p2.toInt16.toInt32)), .unset] []))
        refine own_st (fun _ kS => XS.iconst X0.here hx rfl (hb hby at_264) kS) ?_
        show own_G p.tables e below _ (T0.setTop (mkF m 265 #[.val (.int p1), .val (.int p2), .val (.ref bK), .val (.ref bL), .val (.ref bH), .val (.int (8 : Int32)), .val (.int (p2.toInt16.toInt32)), .val (.int (p2.toInt16.toInt32)), .unset] [(.int (0 : Int32))]))
        refine own_st (fun _ kS => XS.istore X0.here hx rfl (hb hby at_265) rfl (l' := #[.val (.int p1), .val (.int p2), .val (.ref bK), .val (.ref bL), .val (.ref bH), .val (.int (8 : Int32)), .val (.int (p2.toInt16.toInt32)), .val (.int (p2.toInt16.toInt32)), .val (.int (0 : Int32))]) rfl kS) ?_
        show own_G p.tables e below _ (T0.setTop (mkF m 267 #[.val (.int p1), .val (.int p2), .val (.ref bK), .val (.ref bL), .val (.ref bH), .val (.int (8 : Int32)), .val (.int (p2.toInt16.toInt32)), .val (.int (p2.toInt16.toInt32)), .val (.int (0 : Int32))] []))
        refine own_st (fun _ kS => XS.goto X0.here hx rfl (pc0 := 267) (pc' := 273) rfl (hb hby at_267) (by decide) (by decide) kS) ?_
        show own_G p.tables e below _ (T0.setTop (mkF m 273 #[.val (.int p1), .val (.int p2), .val (.ref bK), .val (.ref bL), .val (.ref bH), .val (.int (8 : Int32)), .val (.int (p2.toInt16.toInt32)), .val (.int (p2.toInt16.toInt32)), .val (.int (0 : Int32))] []))
        refine own_st (fun _ kS => XS.aloadN X0.here hx rfl (hb hby at_273) rfl rfl kS) ?_
        show own_G p.tables e below _ (T0.setTop (mkF m 274 #[.val (.int p1), .val (.int p2), .val (.ref bK), .val (.ref bL), .val (.ref bH), .val (.int (8 : Int32)), .val (.int (p2.toInt16.toInt32)), .val (.int (p2.toInt16.toInt32)), .val (.int (0 : Int32))] [(.ref bK)]))
        refine own_st (fun _ kS => XS.iload X0.here hx rfl (hb hby at_274) rfl kS) ?_
        show own_G p.tables e below _ (T0.setTop (mkF m 276 #[.val (.int p1), .val (.int p2), .val (.ref bK), .val (.ref bL), .val (.ref bH), .val (.int (8 : Int32)), .val (.int (p2.toInt16.toInt32)), .val (.int (p2.toInt16.toInt32)), .val (.int (0 : Int32))] [(.int (8 : Int32)), (.ref bK)]))
        obtain ⟨cl88, Ar88, qa88, qs88, qn88, qh88, qg88⟩ := id R_K
        refine own_st (fun _ kS => X0.aaload hx (j := (8 : Int32)) (v := (.ref w_LEAVE_GROUP)) (by rw [e0]; exact Ar88.1) (State.isArrayOf_alike hZ.alike Ar88.2.1) rfl Ar88.2.2 (inb_of qs88 ⟨by decide, by decide⟩) (qh88.at (inb_of qs88 ⟨by decide, by decide⟩) rfl) (g := (mkF m 276 #[.val (.int p1), .val (.int p2), .val (.ref bK), .val (.ref bL), .val (.ref bH), .val (.int (8 : Int32)), .val (.int (p2.toInt16.toInt32)), .val (.int (p2.toInt16.toInt32)), .val (.int (0 : Int32))] [(.int (8 : Int32)), (.ref bK)])) rfl rfl (hb hby at_276) _ kS) ?_
        show own_G p.tables e below _ (T0.setTop (mkF m 277 #[.val (.int p1), .val (.int p2), .val (.ref bK), .val (.ref bL), .val (.ref bH), .val (.int (8 : Int32)), .val (.int (p2.toInt16.toInt32)), .val (.int (p2.toInt16.toInt32)), .val (.int (0 : Int32))] [(.ref w_LEAVE_GROUP)]))
        refine own_st (fun _ kS => XS.iload X0.here hx rfl (hb hby at_277) rfl kS) ?_
        show own_G p.tables e below _ (T0.setTop (mkF m 279 #[.val (.int p1), .val (.int p2), .val (.ref bK), .val (.ref bL), .val (.ref bH), .val (.int (8 : Int32)), .val (.int (p2.toInt16.toInt32)), .val (.int (p2.toInt16.toInt32)), .val (.int (0 : Int32))] [(.int (p2.toInt16.toInt32)), (.ref w_LEAVE_GROUP)]))
        obtain ⟨cq89, kq89, q89a, q89b, q89c⟩ := isOf hZ e0 (Exa.ext O0.2 E_LEAVE_GROUP)
        obtain ⟨_, _, ⟨T89, L89, k89, n89⟩, -, X89, ⟨Lc89, hQ89, l89, y89, z89⟩, st89⟩ := X0.virtualBack hx (y := (⟨"com/example/loose_grip/loosegrip/wire/ApiKey", "supports", "(S)Z"⟩ : MethodName)) (z := (⟨"com/example/loose_grip/loosegrip/wire/ApiKey", "supports", "(S)Z"⟩ : MethodName)) hown (mvT hZ (hw _ (List.mem_of_getElem? (i := 32) rfl))) (mvT hZ (hw _ (List.mem_of_getElem? (i := 33) rfl))) (notFace_of_selects (args := #[]) (mvT hZ (hw _ (List.mem_of_getElem? (i := 35) rfl)))) (mvT hZ (hw _ (List.mem_of_getElem? (i := 35) rfl))) (mvT hZ (hw _ (List.mem_of_getElem? (i := 34) rfl))) (by decide) (backOf (W := 0) (rm_sup_gt l Z a0 hw [] w_LEAVE_GROUP (p2.toInt16.toInt32) (0 : Int32) (3 : Int32) h0 n0 Z0 O0 F_LEAVE_GROUP_minVersion F_LEAVE_GROUP_maxVersion hc245_83 hc261_87) hZ (hw _ (List.mem_of_getElem? (i := 36) rfl)) (hw _ (List.mem_of_getElem? (i := 3) rfl)) (by decide) (by decide)) q89a q89c (g := (mkF m 279 #[.val (.int p1), .val (.int p2), .val (.ref bK), .val (.ref bL), .val (.ref bH), .val (.int (8 : Int32)), .val (.int (p2.toInt16.toInt32)), .val (.int (p2.toInt16.toInt32)), .val (.int (0 : Int32))] [(.int (p2.toInt16.toInt32)), (.ref w_LEAVE_GROUP)])) rfl (by rw [hml]; rfl) (Steps.refl _) (argsL := [(.int (p2.toInt16.toInt32))]) (rest := []) (lenOf own_pd0 rfl) rfl (by show 2 * 0 + _ ≤ _; exact Nat.le_of_eq rfl) (hb hby at_279) (fun _ _ => ⟨rfl, e0, (by decide : 3 + 0 ≤ _), (by decide : 39 + 0 ≤ _)⟩)
        dsimp only [Pt.U, Pt.locs, Pt.cells, Pt.slots] at X89 l89 y89 z89 st89 hQ89
        subst l89 y89 z89
        obtain ⟨rfl, Nq89, eq89⟩ := hQ89
        have N89 := Fr.app N0 Nq89
        refine own_tr st89 ?_
        show own_G p.tables e below _ (T89.setTop (mkF m 282 #[.val (.int p1), .val (.int p2), .val (.ref bK), .val (.ref bL), .val (.ref bH), .val (.int (8 : Int32)), .val (.int (p2.toInt16.toInt32)), .val (.int (p2.toInt16.toInt32)), .val (.int (0 : Int32))] [(.int (0 : Int32))]))
        refine own_st (fun _ kS => XS.iload X89.here hx rfl (hb hby at_282) rfl kS) ?_
        show own_G p.tables e below _ (T89.setTop (mkF m 284 #[.val (.int p1), .val (.int p2), .val (.ref bK), .val (.ref bL), .val (.ref bH), .val (.int (8 : Int32)), .val (.int (p2.toInt16.toInt32)), .val (.int (p2.toInt16.toInt32)), .val (.int (0 : Int32))] [(.int (0 : Int32)), (.int (0 : Int32))]))
        refine own_st (fun _ kS => XS.icmpNo X89.here hx rfl (hb hby at_284) rfl (teq (by decide : (0 : Int32) = (0 : Int32))).2 kS) ?_
        show own_G p.tables e below _ (T89.setTop (mkF m 287 #[.val (.int p1), .val (.int p2), .val (.ref bK), .val (.ref bL), .val (.ref bH), .val (.int (8 : Int32)), .val (.int (p2.toInt16.toInt32)), .val (.int (p2.toInt16.toInt32)), .val (.int (0 : Int32))] []))
        refine own_st (fun _ kS => XS.iconst X89.here hx rfl (hb hby at_287) kS) ?_
        show own_G p.tables e below _ (T89.setTop (mkF m 288 #[.val (.int p1), .val (.int p2), .val (.ref bK), .val (.ref bL), .val (.ref bH), .val (.int (8 : Int32)), .val (.int (p2.toInt16.toInt32)), .val (.int (p2.toInt16.toInt32)), .val (.int (0 : Int32))] [(.int (1 : Int32))]))
        refine own_st (fun _ kS => XS.goto X89.here hx rfl (pc0 := 288) (pc' := 292) rfl (hb hby at_288) (by decide) (by decide) kS) ?_
        show own_G p.tables e below _ (T89.setTop (mkF m 292 #[.val (.int p1), .val (.int p2), .val (.ref bK), .val (.ref bL), .val (.ref bH), .val (.int (8 : Int32)), .val (.int (p2.toInt16.toInt32)), .val (.int (p2.toInt16.toInt32)), .val (.int (0 : Int32))] [(.int (1 : Int32))]))
        exact own_retN X89 hx hlk (t := .boolean) hret (by simp) (hb hby at_292) (by decide) (by decide) (v' := (1 : Int32)) rfl (by rw [eq89]; exact ⟨rfl, N89⟩)
      · skip
        refine own_st (fun _ kS => XS.icmpYes X0.here hx rfl (pc0 := 261) (pc' := 270) rfl (hb hby at_261) rfl (flt hc261_87).2.2.2 (by decide) (by decide) kS) ?_
        show own_G p.tables e below _ (T0.setTop (mkF m 270 #[.val (.int p1), .val (.int p2), .val (.ref bK), .val (.ref bL), .val (.ref bH), .val (.int (8 : Int32)), .val (.int (p2.toInt16.toInt32)), .val (.int (p2.toInt16.toInt32)), .unset] []))
        refine own_st (fun _ kS => XS.iconst X0.here hx rfl (hb hby at_270) kS) ?_
        show own_G p.tables e below _ (T0.setTop (mkF m 271 #[.val (.int p1), .val (.int p2), .val (.ref bK), .val (.ref bL), .val (.ref bH), .val (.int (8 : Int32)), .val (.int (p2.toInt16.toInt32)), .val (.int (p2.toInt16.toInt32)), .unset] [(.int (1 : Int32))]))
        refine own_st (fun _ kS => XS.istore X0.here hx rfl (hb hby at_271) rfl (l' := #[.val (.int p1), .val (.int p2), .val (.ref bK), .val (.ref bL), .val (.ref bH), .val (.int (8 : Int32)), .val (.int (p2.toInt16.toInt32)), .val (.int (p2.toInt16.toInt32)), .val (.int (1 : Int32))]) rfl kS) ?_
        show own_G p.tables e below _ (T0.setTop (mkF m 273 #[.val (.int p1), .val (.int p2), .val (.ref bK), .val (.ref bL), .val (.ref bH), .val (.int (8 : Int32)), .val (.int (p2.toInt16.toInt32)), .val (.int (p2.toInt16.toInt32)), .val (.int (1 : Int32))] []))
        refine own_st (fun _ kS => XS.aloadN X0.here hx rfl (hb hby at_273) rfl rfl kS) ?_
        show own_G p.tables e below _ (T0.setTop (mkF m 274 #[.val (.int p1), .val (.int p2), .val (.ref bK), .val (.ref bL), .val (.ref bH), .val (.int (8 : Int32)), .val (.int (p2.toInt16.toInt32)), .val (.int (p2.toInt16.toInt32)), .val (.int (1 : Int32))] [(.ref bK)]))
        refine own_st (fun _ kS => XS.iload X0.here hx rfl (hb hby at_274) rfl kS) ?_
        show own_G p.tables e below _ (T0.setTop (mkF m 276 #[.val (.int p1), .val (.int p2), .val (.ref bK), .val (.ref bL), .val (.ref bH), .val (.int (8 : Int32)), .val (.int (p2.toInt16.toInt32)), .val (.int (p2.toInt16.toInt32)), .val (.int (1 : Int32))] [(.int (8 : Int32)), (.ref bK)]))
        obtain ⟨cl90, Ar90, qa90, qs90, qn90, qh90, qg90⟩ := id R_K
        refine own_st (fun _ kS => X0.aaload hx (j := (8 : Int32)) (v := (.ref w_LEAVE_GROUP)) (by rw [e0]; exact Ar90.1) (State.isArrayOf_alike hZ.alike Ar90.2.1) rfl Ar90.2.2 (inb_of qs90 ⟨by decide, by decide⟩) (qh90.at (inb_of qs90 ⟨by decide, by decide⟩) rfl) (g := (mkF m 276 #[.val (.int p1), .val (.int p2), .val (.ref bK), .val (.ref bL), .val (.ref bH), .val (.int (8 : Int32)), .val (.int (p2.toInt16.toInt32)), .val (.int (p2.toInt16.toInt32)), .val (.int (1 : Int32))] [(.int (8 : Int32)), (.ref bK)])) rfl rfl (hb hby at_276) _ kS) ?_
        show own_G p.tables e below _ (T0.setTop (mkF m 277 #[.val (.int p1), .val (.int p2), .val (.ref bK), .val (.ref bL), .val (.ref bH), .val (.int (8 : Int32)), .val (.int (p2.toInt16.toInt32)), .val (.int (p2.toInt16.toInt32)), .val (.int (1 : Int32))] [(.ref w_LEAVE_GROUP)]))
        refine own_st (fun _ kS => XS.iload X0.here hx rfl (hb hby at_277) rfl kS) ?_
        show own_G p.tables e below _ (T0.setTop (mkF m 279 #[.val (.int p1), .val (.int p2), .val (.ref bK), .val (.ref bL), .val (.ref bH), .val (.int (8 : Int32)), .val (.int (p2.toInt16.toInt32)), .val (.int (p2.toInt16.toInt32)), .val (.int (1 : Int32))] [(.int (p2.toInt16.toInt32)), (.ref w_LEAVE_GROUP)]))
        obtain ⟨cq91, kq91, q91a, q91b, q91c⟩ := isOf hZ e0 (Exa.ext O0.2 E_LEAVE_GROUP)
        obtain ⟨_, _, ⟨T91, L91, k91, n91⟩, -, X91, ⟨Lc91, hQ91, l91, y91, z91⟩, st91⟩ := X0.virtualBack hx (y := (⟨"com/example/loose_grip/loosegrip/wire/ApiKey", "supports", "(S)Z"⟩ : MethodName)) (z := (⟨"com/example/loose_grip/loosegrip/wire/ApiKey", "supports", "(S)Z"⟩ : MethodName)) hown (mvT hZ (hw _ (List.mem_of_getElem? (i := 32) rfl))) (mvT hZ (hw _ (List.mem_of_getElem? (i := 33) rfl))) (notFace_of_selects (args := #[]) (mvT hZ (hw _ (List.mem_of_getElem? (i := 35) rfl)))) (mvT hZ (hw _ (List.mem_of_getElem? (i := 35) rfl))) (mvT hZ (hw _ (List.mem_of_getElem? (i := 34) rfl))) (by decide) (backOf (W := 0) (rm_sup_in l Z a0 hw [] w_LEAVE_GROUP (p2.toInt16.toInt32) (0 : Int32) (3 : Int32) h0 n0 Z0 O0 F_LEAVE_GROUP_minVersion F_LEAVE_GROUP_maxVersion hc245_83 hc261_87) hZ (hw _ (List.mem_of_getElem? (i := 36) rfl)) (hw _ (List.mem_of_getElem? (i := 3) rfl)) (by decide) (by decide)) q91a q91c (g := (mkF m 279 #[.val (.int p1), .val (.int p2), .val (.ref bK), .val (.ref bL), .val (.ref bH), .val (.int (8 : Int32)), .val (.int (p2.toInt16.toInt32)), .val (.int (p2.toInt16.toInt32)), .val (.int (1 : Int32))] [(.int (p2.toInt16.toInt32)), (.ref w_LEAVE_GROUP)])) rfl (by rw [hml]; rfl) (Steps.refl _) (argsL := [(.int (p2.toInt16.toInt32))]) (rest := []) (lenOf own_pd0 rfl) rfl (by show 2 * 0 + _ ≤ _; exact Nat.le_of_eq rfl) (hb hby at_279) (fun _ _ => ⟨rfl, e0, (by decide : 3 + 0 ≤ _), (by decide : 39 + 0 ≤ _)⟩)
        dsimp only [Pt.U, Pt.locs, Pt.cells, Pt.slots] at X91 l91 y91 z91 st91 hQ91
        subst l91 y91 z91
        obtain ⟨rfl, Nq91, eq91⟩ := hQ91
        have N91 := Fr.app N0 Nq91
        refine own_tr st91 ?_
        show own_G p.tables e below _ (T91.setTop (mkF m 282 #[.val (.int p1), .val (.int p2), .val (.ref bK), .val (.ref bL), .val (.ref bH), .val (.int (8 : Int32)), .val (.int (p2.toInt16.toInt32)), .val (.int (p2.toInt16.toInt32)), .val (.int (1 : Int32))] [(.int (1 : Int32))]))
        refine own_st (fun _ kS => XS.iload X91.here hx rfl (hb hby at_282) rfl kS) ?_
        show own_G p.tables e below _ (T91.setTop (mkF m 284 #[.val (.int p1), .val (.int p2), .val (.ref bK), .val (.ref bL), .val (.ref bH), .val (.int (8 : Int32)), .val (.int (p2.toInt16.toInt32)), .val (.int (p2.toInt16.toInt32)), .val (.int (1 : Int32))] [(.int (1 : Int32)), (.int (1 : Int32))]))
        refine own_st (fun _ kS => XS.icmpNo X91.here hx rfl (hb hby at_284) rfl (teq (by decide : (1 : Int32) = (1 : Int32))).2 kS) ?_
        show own_G p.tables e below _ (T91.setTop (mkF m 287 #[.val (.int p1), .val (.int p2), .val (.ref bK), .val (.ref bL), .val (.ref bH), .val (.int (8 : Int32)), .val (.int (p2.toInt16.toInt32)), .val (.int (p2.toInt16.toInt32)), .val (.int (1 : Int32))] []))
        refine own_st (fun _ kS => XS.iconst X91.here hx rfl (hb hby at_287) kS) ?_
        show own_G p.tables e below _ (T91.setTop (mkF m 288 #[.val (.int p1), .val (.int p2), .val (.ref bK), .val (.ref bL), .val (.ref bH), .val (.int (8 : Int32)), .val (.int (p2.toInt16.toInt32)), .val (.int (p2.toInt16.toInt32)), .val (.int (1 : Int32))] [(.int (1 : Int32))]))
        refine own_st (fun _ kS => XS.goto X91.here hx rfl (pc0 := 288) (pc' := 292) rfl (hb hby at_288) (by decide) (by decide) kS) ?_
        show own_G p.tables e below _ (T91.setTop (mkF m 292 #[.val (.int p1), .val (.int p2), .val (.ref bK), .val (.ref bL), .val (.ref bH), .val (.int (8 : Int32)), .val (.int (p2.toInt16.toInt32)), .val (.int (p2.toInt16.toInt32)), .val (.int (1 : Int32))] [(.int (1 : Int32))]))
        exact own_retN X91 hx hlk (t := .boolean) hret (by simp) (hb hby at_292) (by decide) (by decide) (v' := (1 : Int32)) rfl (by rw [eq91]; exact ⟨rfl, N91⟩)
  · rw [hk1]
    show own_G p.tables e below _ (T0.setTop (mkF m 229 #[.val (.int p1), .val (.int p2), .val (.ref bK), .val (.ref bL), .val (.ref bH), .unset, .unset, .unset, .unset] [(.int (9 : Int32))]))
    refine own_st (fun _ kS => XS.istore X0.here hx rfl (hb hby at_229) rfl (l' := #[.val (.int p1), .val (.int p2), .val (.ref bK), .val (.ref bL), .val (.ref bH), .val (.int (9 : Int32)), .unset, .unset, .unset]) rfl kS) ?_
    show own_G p.tables e below _ (T0.setTop (mkF m 231 #[.val (.int p1), .val (.int p2), .val (.ref bK), .val (.ref bL), .val (.ref bH), .val (.int (9 : Int32)), .unset, .unset, .unset] []))
    refine own_st (fun _ kS => XS.iloadN X0.here hx rfl (hb hby at_231) rfl kS) ?_
    show own_G p.tables e below _ (T0.setTop (mkF m 232 #[.val (.int p1), .val (.int p2), .val (.ref bK), .val (.ref bL), .val (.ref bH), .val (.int (9 : Int32)), .unset, .unset, .unset] [(.int p2)]))
    refine own_st (fun _ kS => XT.i2s X0.here hx rfl (hb hby at_232) rfl kS) ?_
    show own_G p.tables e below _ (T0.setTop (mkF m 233 #[.val (.int p1), .val (.int p2), .val (.ref bK), .val (.ref bL), .val (.ref bH), .val (.int (9 : Int32)), .unset, .unset, .unset] [(.int (p2.toInt16.toInt32))]))
    refine own_st (fun _ kS => XS.istore X0.here hx rfl (hb hby at_233) rfl (l' := #[.val (.int p1), .val (.int p2), .val (.ref bK), .val (.ref bL), .val (.ref bH), .val (.int (9 : Int32)), .val (.int (p2.toInt16.toInt32)), .unset, .unset]) rfl kS) ?_
    show own_G p.tables e below _ (T0.setTop (mkF m 235 #[.val (.int p1), .val (.int p2), .val (.ref bK), .val (.ref bL), .val (.ref bH), .val (.int (9 : Int32)), .val (.int (p2.toInt16.toInt32)), .unset, .unset] []))
    refine own_st (fun _ kS => XS.iload X0.here hx rfl (hb hby at_235) rfl kS) ?_
    show own_G p.tables e below _ (T0.setTop (mkF m 237 #[.val (.int p1), .val (.int p2), .val (.ref bK), .val (.ref bL), .val (.ref bH), .val (.int (9 : Int32)), .val (.int (p2.toInt16.toInt32)), .unset, .unset] [(.int (p2.toInt16.toInt32))]))
    refine own_st (fun _ kS => XS.istore X0.here hx rfl (hb hby at_237) rfl (l' := #[.val (.int p1), .val (.int p2), .val (.ref bK), .val (.ref bL), .val (.ref bH), .val (.int (9 : Int32)), .val (.int (p2.toInt16.toInt32)), .val (.int (p2.toInt16.toInt32)), .unset]) rfl kS) ?_
    show own_G p.tables e below _ (T0.setTop (mkF m 239 #[.val (.int p1), .val (.int p2), .val (.ref bK), .val (.ref bL), .val (.ref bH), .val (.int (9 : Int32)), .val (.int (p2.toInt16.toInt32)), .val (.int (p2.toInt16.toInt32)), .unset] []))
    refine own_st (fun _ kS => XS.iload X0.here hx rfl (hb hby at_239) rfl kS) ?_
    show own_G p.tables e below _ (T0.setTop (mkF m 241 #[.val (.int p1), .val (.int p2), .val (.ref bK), .val (.ref bL), .val (.ref bH), .val (.int (9 : Int32)), .val (.int (p2.toInt16.toInt32)), .val (.int (p2.toInt16.toInt32)), .unset] [(.int (p2.toInt16.toInt32))]))
    refine own_st (fun _ kS => XS.aloadN X0.here hx rfl (hb hby at_241) rfl rfl kS) ?_
    show own_G p.tables e below _ (T0.setTop (mkF m 242 #[.val (.int p1), .val (.int p2), .val (.ref bK), .val (.ref bL), .val (.ref bH), .val (.int (9 : Int32)), .val (.int (p2.toInt16.toInt32)), .val (.int (p2.toInt16.toInt32)), .unset] [(.ref bL), (.int (p2.toInt16.toInt32))]))
    refine own_st (fun _ kS => XS.iload X0.here hx rfl (hb hby at_242) rfl kS) ?_
    show own_G p.tables e below _ (T0.setTop (mkF m 244 #[.val (.int p1), .val (.int p2), .val (.ref bK), .val (.ref bL), .val (.ref bH), .val (.int (9 : Int32)), .val (.int (p2.toInt16.toInt32)), .val (.int (p2.toInt16.toInt32)), .unset] [(.int (9 : Int32)), (.ref bL), (.int (p2.toInt16.toInt32))]))
    obtain ⟨cl92, Ar92, qa92, qs92, qn92, qh92, qg92⟩ := id R_L
    refine own_st (fun _ kS => X0.iaload hx (j := (9 : Int32)) (v := (.int (0 : Int32))) (by rw [e0]; exact Ar92.1) (State.isArrayOf_alike hZ.alike Ar92.2.1) Ar92.2.2 (inb_of qs92 ⟨by decide, by decide⟩) (qh92.at (inb_of qs92 ⟨by decide, by decide⟩) rfl) (g := (mkF m 244 #[.val (.int p1), .val (.int p2), .val (.ref bK), .val (.ref bL), .val (.ref bH), .val (.int (9 : Int32)), .val (.int (p2.toInt16.toInt32)), .val (.int (p2.toInt16.toInt32)), .unset] [(.int (9 : Int32)), (.ref bL), (.int (p2.toInt16.toInt32))])) rfl rfl (hb hby at_244) _ kS) ?_
    show own_G p.tables e below _ (T0.setTop (mkF m 245 #[.val (.int p1), .val (.int p2), .val (.ref bK), .val (.ref bL), .val (.ref bH), .val (.int (9 : Int32)), .val (.int (p2.toInt16.toInt32)), .val (.int (p2.toInt16.toInt32)), .unset] [(.int (0 : Int32)), (.int (p2.toInt16.toInt32))]))
    by_cases hc245_93 : (p2.toInt16.toInt32) < (0 : Int32)
    · skip
      refine own_st (fun _ kS => XS.icmpNo X0.here hx rfl (hb hby at_245) rfl (tlt hc245_93).2.1 kS) ?_
      show own_G p.tables e below _ (T0.setTop (mkF m 248 #[.val (.int p1), .val (.int p2), .val (.ref bK), .val (.ref bL), .val (.ref bH), .val (.int (9 : Int32)), .val (.int (p2.toInt16.toInt32)), .val (.int (p2.toInt16.toInt32)), .unset] []))
      refine own_st (fun _ kS => XS.iconst X0.here hx rfl (hb hby at_248) kS) ?_
      show own_G p.tables e below _ (T0.setTop (mkF m 249 #[.val (.int p1), .val (.int p2), .val (.ref bK), .val (.ref bL), .val (.ref bH), .val (.int (9 : Int32)), .val (.int (p2.toInt16.toInt32)), .val (.int (p2.toInt16.toInt32)), .unset] [(.int (0 : Int32))]))
      refine own_st (fun _ kS => XS.istore X0.here hx rfl (hb hby at_249) rfl (l' := #[.val (.int p1), .val (.int p2), .val (.ref bK), .val (.ref bL), .val (.ref bH), .val (.int (9 : Int32)), .val (.int (p2.toInt16.toInt32)), .val (.int (p2.toInt16.toInt32)), .val (.int (0 : Int32))]) rfl kS) ?_
      show own_G p.tables e below _ (T0.setTop (mkF m 251 #[.val (.int p1), .val (.int p2), .val (.ref bK), .val (.ref bL), .val (.ref bH), .val (.int (9 : Int32)), .val (.int (p2.toInt16.toInt32)), .val (.int (p2.toInt16.toInt32)), .val (.int (0 : Int32))] []))
      refine own_st (fun _ kS => XS.goto X0.here hx rfl (pc0 := 251) (pc' := 273) rfl (hb hby at_251) (by decide) (by decide) kS) ?_
      show own_G p.tables e below _ (T0.setTop (mkF m 273 #[.val (.int p1), .val (.int p2), .val (.ref bK), .val (.ref bL), .val (.ref bH), .val (.int (9 : Int32)), .val (.int (p2.toInt16.toInt32)), .val (.int (p2.toInt16.toInt32)), .val (.int (0 : Int32))] []))
      refine own_st (fun _ kS => XS.aloadN X0.here hx rfl (hb hby at_273) rfl rfl kS) ?_
      show own_G p.tables e below _ (T0.setTop (mkF m 274 #[.val (.int p1), .val (.int p2), .val (.ref bK), .val (.ref bL), .val (.ref bH), .val (.int (9 : Int32)), .val (.int (p2.toInt16.toInt32)), .val (.int (p2.toInt16.toInt32)), .val (.int (0 : Int32))] [(.ref bK)]))
      refine own_st (fun _ kS => XS.iload X0.here hx rfl (hb hby at_274) rfl kS) ?_
      show own_G p.tables e below _ (T0.setTop (mkF m 276 #[.val (.int p1), .val (.int p2), .val (.ref bK), .val (.ref bL), .val (.ref bH), .val (.int (9 : Int32)), .val (.int (p2.toInt16.toInt32)), .val (.int (p2.toInt16.toInt32)), .val (.int (0 : Int32))] [(.int (9 : Int32)), (.ref bK)]))
      obtain ⟨cl94, Ar94, qa94, qs94, qn94, qh94, qg94⟩ := id R_K
      refine own_st (fun _ kS => X0.aaload hx (j := (9 : Int32)) (v := (.ref w_SYNC_GROUP)) (by rw [e0]; exact Ar94.1) (State.isArrayOf_alike hZ.alike Ar94.2.1) rfl Ar94.2.2 (inb_of qs94 ⟨by decide, by decide⟩) (qh94.at (inb_of qs94 ⟨by decide, by decide⟩) rfl) (g := (mkF m 276 #[.val (.int p1), .val (.int p2), .val (.ref bK), .val (.ref bL), .val (.ref bH), .val (.int (9 : Int32)), .val (.int (p2.toInt16.toInt32)), .val (.int (p2.toInt16.toInt32)), .val (.int (0 : Int32))] [(.int (9 : Int32)), (.ref bK)])) rfl rfl (hb hby at_276) _ kS) ?_
      show own_G p.tables e below _ (T0.setTop (mkF m 277 #[.val (.int p1), .val (.int p2), .val (.ref bK), .val (.ref bL), .val (.ref bH), .val (.int (9 : Int32)), .val (.int (p2.toInt16.toInt32)), .val (.int (p2.toInt16.toInt32)), .val (.int (0 : Int32))] [(.ref w_SYNC_GROUP)]))
      refine own_st (fun _ kS => XS.iload X0.here hx rfl (hb hby at_277) rfl kS) ?_
      show own_G p.tables e below _ (T0.setTop (mkF m 279 #[.val (.int p1), .val (.int p2), .val (.ref bK), .val (.ref bL), .val (.ref bH), .val (.int (9 : Int32)), .val (.int (p2.toInt16.toInt32)), .val (.int (p2.toInt16.toInt32)), .val (.int (0 : Int32))] [(.int (p2.toInt16.toInt32)), (.ref w_SYNC_GROUP)]))
      obtain ⟨cq95, kq95, q95a, q95b, q95c⟩ := isOf hZ e0 (Exa.ext O0.2 E_SYNC_GROUP)
      obtain ⟨_, _, ⟨T95, L95, k95, n95⟩, -, X95, ⟨Lc95, hQ95, l95, y95, z95⟩, st95⟩ := X0.virtualBack hx (y := (⟨"com/example/loose_grip/loosegrip/wire/ApiKey", "supports", "(S)Z"⟩ : MethodName)) (z := (⟨"com/example/loose_grip/loosegrip/wire/ApiKey", "supports", "(S)Z"⟩ : MethodName)) hown (mvT hZ (hw _ (List.mem_of_getElem? (i := 32) rfl))) (mvT hZ (hw _ (List.mem_of_getElem? (i := 33) rfl))) (notFace_of_selects (args := #[]) (mvT hZ (hw _ (List.mem_of_getElem? (i := 35) rfl)))) (mvT hZ (hw _ (List.mem_of_getElem? (i := 35) rfl))) (mvT hZ (hw _ (List.mem_of_getElem? (i := 34) rfl))) (by decide) (backOf (W := 0) (rm_sup_lt l Z a0 hw [] w_SYNC_GROUP (p2.toInt16.toInt32) (0 : Int32) h0 n0 Z0 O0 F_SYNC_GROUP_minVersion hc245_93) hZ (hw _ (List.mem_of_getElem? (i := 36) rfl)) (hw _ (List.mem_of_getElem? (i := 3) rfl)) (by decide) (by decide)) q95a q95c (g := (mkF m 279 #[.val (.int p1), .val (.int p2), .val (.ref bK), .val (.ref bL), .val (.ref bH), .val (.int (9 : Int32)), .val (.int (p2.toInt16.toInt32)), .val (.int (p2.toInt16.toInt32)), .val (.int (0 : Int32))] [(.int (p2.toInt16.toInt32)), (.ref w_SYNC_GROUP)])) rfl (by rw [hml]; rfl) (Steps.refl _) (argsL := [(.int (p2.toInt16.toInt32))]) (rest := []) (lenOf own_pd0 rfl) rfl (by show 2 * 0 + _ ≤ _; exact Nat.le_of_eq rfl) (hb hby at_279) (fun _ _ => ⟨rfl, e0, (by decide : 3 + 0 ≤ _), (by decide : 39 + 0 ≤ _)⟩)
      dsimp only [Pt.U, Pt.locs, Pt.cells, Pt.slots] at X95 l95 y95 z95 st95 hQ95
      subst l95 y95 z95
      obtain ⟨rfl, Nq95, eq95⟩ := hQ95
      have N95 := Fr.app N0 Nq95
      refine own_tr st95 ?_
      show own_G p.tables e below _ (T95.setTop (mkF m 282 #[.val (.int p1), .val (.int p2), .val (.ref bK), .val (.ref bL), .val (.ref bH), .val (.int (9 : Int32)), .val (.int (p2.toInt16.toInt32)), .val (.int (p2.toInt16.toInt32)), .val (.int (0 : Int32))] [(.int (0 : Int32))]))
      refine own_st (fun _ kS => XS.iload X95.here hx rfl (hb hby at_282) rfl kS) ?_
      show own_G p.tables e below _ (T95.setTop (mkF m 284 #[.val (.int p1), .val (.int p2), .val (.ref bK), .val (.ref bL), .val (.ref bH), .val (.int (9 : Int32)), .val (.int (p2.toInt16.toInt32)), .val (.int (p2.toInt16.toInt32)), .val (.int (0 : Int32))] [(.int (0 : Int32)), (.int (0 : Int32))]))
      refine own_st (fun _ kS => XS.icmpNo X95.here hx rfl (hb hby at_284) rfl (teq (by decide : (0 : Int32) = (0 : Int32))).2 kS) ?_
      show own_G p.tables e below _ (T95.setTop (mkF m 287 #[.val (.int p1), .val (.int p2), .val (.ref bK), .val (.ref bL), .val (.ref bH), .val (.int (9 : Int32)), .val (.int (p2.toInt16.toInt32)), .val (.int (p2.toInt16.toInt32)), .val (.int (0 : Int32))] []))
      refine own_st (fun _ kS => XS.iconst X95.here hx rfl (hb hby at_287) kS) ?_
      show own_G p.tables e below _ (T95.setTop (mkF m 288 #[.val (.int p1), .val (.int p2), .val (.ref bK), .val (.ref bL), .val (.ref bH), .val (.int (9 : Int32)), .val (.int (p2.toInt16.toInt32)), .val (.int (p2.toInt16.toInt32)), .val (.int (0 : Int32))] [(.int (1 : Int32))]))
      refine own_st (fun _ kS => XS.goto X95.here hx rfl (pc0 := 288) (pc' := 292) rfl (hb hby at_288) (by decide) (by decide) kS) ?_
      show own_G p.tables e below _ (T95.setTop (mkF m 292 #[.val (.int p1), .val (.int p2), .val (.ref bK), .val (.ref bL), .val (.ref bH), .val (.int (9 : Int32)), .val (.int (p2.toInt16.toInt32)), .val (.int (p2.toInt16.toInt32)), .val (.int (0 : Int32))] [(.int (1 : Int32))]))
      exact own_retN X95 hx hlk (t := .boolean) hret (by simp) (hb hby at_292) (by decide) (by decide) (v' := (1 : Int32)) rfl (by rw [eq95]; exact ⟨rfl, N95⟩)
    · skip
      refine own_st (fun _ kS => XS.icmpYes X0.here hx rfl (pc0 := 245) (pc' := 254) rfl (hb hby at_245) rfl (flt hc245_93).2.1 (by decide) (by decide) kS) ?_
      show own_G p.tables e below _ (T0.setTop (mkF m 254 #[.val (.int p1), .val (.int p2), .val (.ref bK), .val (.ref bL), .val (.ref bH), .val (.int (9 : Int32)), .val (.int (p2.toInt16.toInt32)), .val (.int (p2.toInt16.toInt32)), .unset] []))
      refine own_st (fun _ kS => XS.iload X0.here hx rfl (hb hby at_254) rfl kS) ?_
      show own_G p.tables e below _ (T0.setTop (mkF m 256 #[.val (.int p1), .val (.int p2), .val (.ref bK), .val (.ref bL), .val (.ref bH), .val (.int (9 : Int32)), .val (.int (p2.toInt16.toInt32)), .val (.int (p2.toInt16.toInt32)), .unset] [(.int (p2.toInt16.toInt32))]))
      refine own_st (fun _ kS => XS.aload X0.here hx rfl (hb hby at_256) rfl rfl kS) ?_
      show own_G p.tables e below _ (T0.setTop (mkF m 258 #[.val (.int p1), .val (.int p2), .val (.ref bK), .val (.ref bL), .val (.ref bH), .val (.int (9 : Int32)), .val (.int (p2.toInt16.toInt32)), .val (.int (p2.toInt16.toInt32)), .unset] [(.ref bH), (.int (p2.toInt16.toInt32))]))
      refine own_st (fun _ kS => XS.iload X0.here hx rfl (hb hby at_258) rfl kS) ?_
      show own_G p.tables e below _ (T0.setTop (mkF m 260 #[.val (.int p1), .val (.int p2), .val (.ref bK), .val (.ref bL), .val (.ref bH), .val (.int (9 : Int32)), .val (.int (p2.toInt16.toInt32)), .val (.int (p2.toInt16.toInt32)), .unset] [(.int (9 : Int32)), (.ref bH), (.int (p2.toInt16.toInt32))]))
      obtain ⟨cl96, Ar96, qa96, qs96, qn96, qh96, qg96⟩ := id R_H
      refine own_st (fun _ kS => X0.iaload hx (j := (9 : Int32)) (v := (.int (3 : Int32))) (by rw [e0]; exact Ar96.1) (State.isArrayOf_alike hZ.alike Ar96.2.1) Ar96.2.2 (inb_of qs96 ⟨by decide, by decide⟩) (qh96.at (inb_of qs96 ⟨by decide, by decide⟩) rfl) (g := (mkF m 260 #[.val (.int p1), .val (.int p2), .val (.ref bK), .val (.ref bL), .val (.ref bH), .val (.int (9 : Int32)), .val (.int (p2.toInt16.toInt32)), .val (.int (p2.toInt16.toInt32)), .unset] [(.int (9 : Int32)), (.ref bH), (.int (p2.toInt16.toInt32))])) rfl rfl (hb hby at_260) _ kS) ?_
      show own_G p.tables e below _ (T0.setTop (mkF m 261 #[.val (.int p1), .val (.int p2), .val (.ref bK), .val (.ref bL), .val (.ref bH), .val (.int (9 : Int32)), .val (.int (p2.toInt16.toInt32)), .val (.int (p2.toInt16.toInt32)), .unset] [(.int (3 : Int32)), (.int (p2.toInt16.toInt32))]))
      by_cases hc261_97 : (3 : Int32) < (p2.toInt16.toInt32)
      · skip
        refine own_st (fun _ kS => XS.icmpNo X0.here hx rfl (hb hby at_261) rfl (tlt hc261_97).2.2.2 kS) ?_
        show own_G p.tables e below _ (T0.setTop (mkF m 264 #[.val (.int p1), .val (.int p2), .val (.ref bK), .val (.ref bL), .val (.ref bH), .val (.int (9 : Int32)), .val (.int (p2.toInt16.toInt32)), .val (.int (p2.toInt16.toInt32)), .unset] []))
        refine own_st (fun _ kS => XS.iconst X0.here hx rfl (hb hby at_264) kS) ?_
        show own_G p.tables e below _ (T0.setTop (mkF m 265 #[.val (.int p1), .val (.int p2), .val (.ref bK), .val (.ref bL), .val (.ref bH), .val (.int (9 : Int32)), .val (.int (p2.toInt16.toInt32)), .val (.int (p2.toInt16.toInt32)), .unset] [(.int (0 : Int32))]))
        refine own_st (fun _ kS => XS.istore X0.here hx rfl (hb hby at_265) rfl (l' := #[.val (.int p1), .val (.int p2), .val (.ref bK), .val (.ref bL), .val (.ref bH), .val (.int (9 : Int32)), .val (.int (p2.toInt16.toInt32)), .val (.int (p2.toInt16.toInt32)), .val (.int (0 : Int32))]) rfl kS) ?_
        show own_G p.tables e below _ (T0.setTop (mkF m 267 #[.val (.int p1), .val (.int p2), .val (.ref bK), .val (.ref bL), .val (.ref bH), .val (.int (9 : Int32)), .val (.int (p2.toInt16.toInt32)), .val (.int (p2.toInt16.toInt32)), .val (.int (0 : Int32))] []))
        refine own_st (fun _ kS => XS.goto X0.here hx rfl (pc0 := 267) (pc' := 273) rfl (hb hby at_267) (by decide) (by decide) kS) ?_
        show own_G p.tables e below _ (T0.setTop (mkF m 273 #[.val (.int p1), .val (.int p2), .val (.ref bK), .val (.ref bL), .val (.ref bH), .val (.int (9 : Int32)), .val (.int (p2.toInt16.toInt32)), .val (.int (p2.toInt16.toInt32)), .val (.int (0 : Int32))] []))
        refine own_st (fun _ kS => XS.aloadN X0.here hx rfl (hb hby at_273) rfl rfl kS) ?_
        show own_G p.tables e below _ (T0.setTop (mkF m 274 #[.val (.int p1), .val (.int p2), .val (.ref bK), .val (.ref bL), .val (.ref bH), .val (.int (9 : Int32)), .val (.int (p2.toInt16.toInt32)), .val (.int (p2.toInt16.toInt32)), .val (.int (0 : Int32))] [(.ref bK)]))
        refine own_st (fun _ kS => XS.iload X0.here hx rfl (hb hby at_274) rfl kS) ?_
        show own_G p.tables e below _ (T0.setTop (mkF m 276 #[.val (.int p1), .val (.int p2), .val (.ref bK), .val (.ref bL), .val (.ref bH), .val (.int (9 : Int32)), .val (.int (p2.toInt16.toInt32)), .val (.int (p2.toInt16.toInt32)), .val (.int (0 : Int32))] [(.int (9 : Int32)), (.ref bK)]))
        obtain ⟨cl98, Ar98, qa98, qs98, qn98, qh98, qg98⟩ := id R_K
        refine own_st (fun _ kS => X0.aaload hx (j := (9 : Int32)) (v := (.ref w_SYNC_GROUP)) (by rw [e0]; exact Ar98.1) (State.isArrayOf_alike hZ.alike Ar98.2.1) rfl Ar98.2.2 (inb_of qs98 ⟨by decide, by decide⟩) (qh98.at (inb_of qs98 ⟨by decide, by decide⟩) rfl) (g := (mkF m 276 #[.val (.int p1), .val (.int p2), .val (.ref bK), .val (.ref bL), .val (.ref bH), .val (.int (9 : Int32)), .val (.int (p2.toInt16.toInt32)), .val (.int (p2.toInt16.toInt32)), .val (.int (0 : Int32))] [(.int (9 : Int32)), (.ref bK)])) rfl rfl (hb hby at_276) _ kS) ?_
        show own_G p.tables e below _ (T0.setTop (mkF m 277 #[.val (.int p1), .val (.int p2), .val (.ref bK), .val (.ref bL), .val (.ref bH), .val (.int (9 : Int32)), .val (.int (p2.toInt16.toInt32)), .val (.int (p2.toInt16.toInt32)), .val (.int (0 : Int32))] [(.ref w_SYNC_GROUP)]))
        refine own_st (fun _ kS => XS.iload X0.here hx rfl (hb hby at_277) rfl kS) ?_
        show own_G p.tables e below _ (T0.setTop (mkF m 279 #[.val (.int p1), .val (.int p2), .val (.ref bK), .val (.ref bL), .val (.ref bH), .val (.int (9 : Int32)), .val (.int (p2.toInt16.toInt32)), .val (.int (p2.toInt16.toInt32)), .val (.int (0 : Int32))] [(.int (p2.toInt16.toInt32)), (.ref w_SYNC_GROUP)]))
        obtain ⟨cq99, kq99, q99a, q99b, q99c⟩ := isOf hZ e0 (Exa.ext O0.2 E_SYNC_GROUP)
        obtain ⟨_, _, ⟨T99, L99, k99, n99⟩, -, X99, ⟨Lc99, hQ99, l99, y99, z99⟩, st99⟩ := X0.virtualBack hx (y := (⟨"com/example/loose_grip/loosegrip/wire/ApiKey", "supports", "(S)Z"⟩ : MethodName)) (z := (⟨"com/example/loose_grip/loosegrip/wire/ApiKey", "supports", "(S)Z"⟩ : MethodName)) hown (mvT hZ (hw _ (List.mem_of_getElem? (i := 32) rfl))) (mvT hZ (hw _ (List.mem_of_getElem? (i := 33) rfl))) (notFace_of_selects (args := #[]) (mvT hZ (hw _ (List.mem_of_getElem? (i := 35) rfl)))) (mvT hZ (hw _ (List.mem_of_getElem? (i := 35) rfl))) (mvT hZ (hw _ (List.mem_of_getElem? (i := 34) rfl))) (by decide) (backOf (W := 0) (rm_sup_gt l Z a0 hw [] w_SYNC_GROUP (p2.toInt16.toInt32) (0 : Int32) (3 : Int32) h0 n0 Z0 O0 F_SYNC_GROUP_minVersion F_SYNC_GROUP_maxVersion hc245_93 hc261_97) hZ (hw _ (List.mem_of_getElem? (i := 36) rfl)) (hw _ (List.mem_of_getElem? (i := 3) rfl)) (by decide) (by decide)) q99a q99c (g := (mkF m 279 #[.val (.int p1), .val (.int p2), .val (.ref bK), .val (.ref bL), .val (.ref bH), .val (.int (9 : Int32)), .val (.int (p2.toInt16.toInt32)), .val (.int (p2.toInt16.toInt32)), .val (.int (0 : Int32))] [(.int (p2.toInt16.toInt32)), (.ref w_SYNC_GROUP)])) rfl (by rw [hml]; rfl) (Steps.refl _) (argsL := [(.int (p2.toInt16.toInt32))]) (rest := []) (lenOf own_pd0 rfl) rfl (by show 2 * 0 + _ ≤ _; exact Nat.le_of_eq rfl) (hb hby at_279) (fun _ _ => ⟨rfl, e0, (by decide : 3 + 0 ≤ _), (by decide : 39 + 0 ≤ _)⟩)
        dsimp only [Pt.U, Pt.locs, Pt.cells, Pt.slots] at X99 l99 y99 z99 st99 hQ99
        subst l99 y99 z99
        obtain ⟨rfl, Nq99, eq99⟩ := hQ99
        have N99 := Fr.app N0 Nq99
        refine own_tr st99 ?_
        show own_G p.tables e below _ (T99.setTop (mkF m 282 #[.val (.int p1), .val (.int p2), .val (.ref bK), .val (.ref bL), .val (.ref bH), .val (.int (9 : Int32)), .val (.int (p2.toInt16.toInt32)), .val (.int (p2.toInt16.toInt32)), .val (.int (0 : Int32))] [(.int (0 : Int32))]))
        refine own_st (fun _ kS => XS.iload X99.here hx rfl (hb hby at_282) rfl kS) ?_
        show own_G p.tables e below _ (T99.setTop (mkF m 284 #[.val (.int p1), .val (.int p2), .val (.ref bK), .val (.ref bL), .val (.ref bH), .val (.int (9 : Int32)), .val (.int (p2.toInt16.toInt32)), .val (.int (p2.toInt16.toInt32)), .val (.int (0 : Int32))] [(.int (0 : Int32)), (.int (0 : Int32))]))
        refine own_st (fun _ kS => XS.icmpNo X99.here hx rfl (hb hby at_284) rfl (teq (by decide : (0 : Int32) = (0 : Int32))).2 kS) ?_
        show own_G p.tables e below _ (T99.setTop (mkF m 287 #[.val (.int p1), .val (.int p2), .val (.ref bK), .val (.ref bL), .val (.ref bH), .val (.int (9 : Int32)), .val (.int (p2.toInt16.toInt32)), .val (.int (p2.toInt16.toInt32)), .val (.int (0 : Int32))] []))
        refine own_st (fun _ kS => XS.iconst X99.here hx rfl (hb hby at_287) kS) ?_
        show own_G p.tables e below _ (T99.setTop (mkF m 288 #[.val (.int p1), .val (.int p2), .val (.ref bK), .val (.ref bL), .val (.ref bH), .val (.int (9 : Int32)), .val (.int (p2.toInt16.toInt32)), .val (.int (p2.toInt16.toInt32)), .val (.int (0 : Int32))] [(.int (1 : Int32))]))
        refine own_st (fun _ kS => XS.goto X99.here hx rfl (pc0 := 288) (pc' := 292) rfl (hb hby at_288) (by decide) (by decide) kS) ?_
        show own_G p.tables e below _ (T99.setTop (mkF m 292 #[.val (.int p1), .val (.int p2), .val (.ref bK), .val (.ref bL), .val (.ref bH), .val (.int (9 : Int32)), .val (.int (p2.toInt16.toInt32)), .val (.int (p2.toInt16.toInt32)), .val (.int (0 : Int32))] [(.int (1 : Int32))]))
        exact own_retN X99 hx hlk (t := .boolean) hret (by simp) (hb hby at_292) (by decide) (by decide) (v' := (1 : Int32)) rfl (by rw [eq99]; exact ⟨rfl, N99⟩)
      · skip
        refine own_st (fun _ kS => XS.icmpYes X0.here hx rfl (pc0 := 261) (pc' := 270) rfl (hb hby at_261) rfl (flt hc261_97).2.2.2 (by decide) (by decide) kS) ?_
        show own_G p.tables e below _ (T0.setTop (mkF m 270 #[.val (.int p1), .val (.int p2), .val (.ref bK), .val (.ref bL), .val (.ref bH), .val (.int (9 : Int32)), .val (.int (p2.toInt16.toInt32)), .val (.int (p2.toInt16.toInt32)), .unset] []))
        refine own_st (fun _ kS => XS.iconst X0.here hx rfl (hb hby at_270) kS) ?_
        show own_G p.tables e below _ (T0.setTop (mkF m 271 #[.val (.int p1), .val (.int p2), .val (.ref bK), .val (.ref bL), .val (.ref bH), .val (.int (9 : Int32)), .val (.int (p2.toInt16.toInt32)), .val (.int (p2.toInt16.toInt32)), .unset] [(.int (1 : Int32))]))
        refine own_st (fun _ kS => XS.istore X0.here hx rfl (hb hby at_271) rfl (l' := #[.val (.int p1), .val (.int p2), .val (.ref bK), .val (.ref bL), .val (.ref bH), .val (.int (9 : Int32)), .val (.int (p2.toInt16.toInt32)), .val (.int (p2.toInt16.toInt32)), .val (.int (1 : Int32))]) rfl kS) ?_
        show own_G p.tables e below _ (T0.setTop (mkF m 273 #[.val (.int p1), .val (.int p2), .val (.ref bK), .val (.ref bL), .val (.ref bH), .val (.int (9 : Int32)), .val (.int (p2.toInt16.toInt32)), .val (.int (p2.toInt16.toInt32)), .val (.int (1 : Int32))] []))
        refine own_st (fun _ kS => XS.aloadN X0.here hx rfl (hb hby at_273) rfl rfl kS) ?_
        show own_G p.tables e below _ (T0.setTop (mkF m 274 #[.val (.int p1), .val (.int p2), .val (.ref bK), .val (.ref bL), .val (.ref bH), .val (.int (9 : Int32)), .val (.int (p2.toInt16.toInt32)), .val (.int (p2.toInt16.toInt32)), .val (.int (1 : Int32))] [(.ref bK)]))
        refine own_st (fun _ kS => XS.iload X0.here hx rfl (hb hby at_274) rfl kS) ?_
        show own_G p.tables e below _ (T0.setTop (mkF m 276 #[.val (.int p1), .val (.int p2), .val (.ref bK), .val (.ref bL), .val (.ref bH), .val (.int (9 : Int32)), .val (.int (p2.toInt16.toInt32)), .val (.int (p2.toInt16.toInt32)), .val (.int (1 : Int32))] [(.int (9 : Int32)), (.ref bK)]))
        obtain ⟨cl100, Ar100, qa100, qs100, qn100, qh100, qg100⟩ := id R_K
        refine own_st (fun _ kS => X0.aaload hx (j := (9 : Int32)) (v := (.ref w_SYNC_GROUP)) (by rw [e0]; exact Ar100.1) (State.isArrayOf_alike hZ.alike Ar100.2.1) rfl Ar100.2.2 (inb_of qs100 ⟨by decide, by decide⟩) (qh100.at (inb_of qs100 ⟨by decide, by decide⟩) rfl) (g := (mkF m 276 #[.val (.int p1), .val (.int p2), .val (.ref bK), .val (.ref bL), .val (.ref bH), .val (.int (9 : Int32)), .val (.int (p2.toInt16.toInt32)), .val (.int (p2.toInt16.toInt32)), .val (.int (1 : Int32))] [(.int (9 : Int32)), (.ref bK)])) rfl rfl (hb hby at_276) _ kS) ?_
        show own_G p.tables e below _ (T0.setTop (mkF m 277 #[.val (.int p1), .val (.int p2), .val (.ref bK), .val (.ref bL), .val (.ref bH), .val (.int (9 : Int32)), .val (.int (p2.toInt16.toInt32)), .val (.int (p2.toInt16.toInt32)), .val (.int (1 : Int32))] [(.ref w_SYNC_GROUP)]))
        refine own_st (fun _ kS => XS.iload X0.here hx rfl (hb hby at_277) rfl kS) ?_
        show own_G p.tables e below _ (T0.setTop (mkF m 279 #[.val (.int p1), .val (.int p2), .val (.ref bK), .val (.ref bL), .val (.ref bH), .val (.int (9 : Int32)), .val (.int (p2.toInt16.toInt32)), .val (.int (p2.toInt16.toInt32)), .val (.int (1 : Int32))] [(.int (p2.toInt16.toInt32)), (.ref w_SYNC_GROUP)]))
        obtain ⟨cq101, kq101, q101a, q101b, q101c⟩ := isOf hZ e0 (Exa.ext O0.2 E_SYNC_GROUP)
        obtain ⟨_, _, ⟨T101, L101, k101, n101⟩, -, X101, ⟨Lc101, hQ101, l101, y101, z101⟩, st101⟩ := X0.virtualBack hx (y := (⟨"com/example/loose_grip/loosegrip/wire/ApiKey", "supports", "(S)Z"⟩ : MethodName)) (z := (⟨"com/example/loose_grip/loosegrip/wire/ApiKey", "supports", "(S)Z"⟩ : MethodName)) hown (mvT hZ (hw _ (List.mem_of_getElem? (i := 32) rfl))) (mvT hZ (hw _ (List.mem_of_getElem? (i := 33) rfl))) (notFace_of_selects (args := #[]) (mvT hZ (hw _ (List.mem_of_getElem? (i := 35) rfl)))) (mvT hZ (hw _ (List.mem_of_getElem? (i := 35) rfl))) (mvT hZ (hw _ (List.mem_of_getElem? (i := 34) rfl))) (by decide) (backOf (W := 0) (rm_sup_in l Z a0 hw [] w_SYNC_GROUP (p2.toInt16.toInt32) (0 : Int32) (3 : Int32) h0 n0 Z0 O0 F_SYNC_GROUP_minVersion F_SYNC_GROUP_maxVersion hc245_93 hc261_97) hZ (hw _ (List.mem_of_getElem? (i := 36) rfl)) (hw _ (List.mem_of_getElem? (i := 3) rfl)) (by decide) (by decide)) q101a q101c (g := (mkF m 279 #[.val (.int p1), .val (.int p2), .val (.ref bK), .val (.ref bL), .val (.ref bH), .val (.int (9 : Int32)), .val (.int (p2.toInt16.toInt32)), .val (.int (p2.toInt16.toInt32)), .val (.int (1 : Int32))] [(.int (p2.toInt16.toInt32)), (.ref w_SYNC_GROUP)])) rfl (by rw [hml]; rfl) (Steps.refl _) (argsL := [(.int (p2.toInt16.toInt32))]) (rest := []) (lenOf own_pd0 rfl) rfl (by show 2 * 0 + _ ≤ _; exact Nat.le_of_eq rfl) (hb hby at_279) (fun _ _ => ⟨rfl, e0, (by decide : 3 + 0 ≤ _), (by decide : 39 + 0 ≤ _)⟩)
        dsimp only [Pt.U, Pt.locs, Pt.cells, Pt.slots] at X101 l101 y101 z101 st101 hQ101
        subst l101 y101 z101
        obtain ⟨rfl, Nq101, eq101⟩ := hQ101
        have N101 := Fr.app N0 Nq101
        refine own_tr st101 ?_
        show own_G p.tables e below _ (T101.setTop (mkF m 282 #[.val (.int p1), .val (.int p2), .val (.ref bK), .val (.ref bL), .val (.ref bH), .val (.int (9 : Int32)), .val (.int (p2.toInt16.toInt32)), .val (.int (p2.toInt16.toInt32)), .val (.int (1 : Int32))] [(.int (1 : Int32))]))
        refine own_st (fun _ kS => XS.iload X101.here hx rfl (hb hby at_282) rfl kS) ?_
        show own_G p.tables e below _ (T101.setTop (mkF m 284 #[.val (.int p1), .val (.int p2), .val (.ref bK), .val (.ref bL), .val (.ref bH), .val (.int (9 : Int32)), .val (.int (p2.toInt16.toInt32)), .val (.int (p2.toInt16.toInt32)), .val (.int (1 : Int32))] [(.int (1 : Int32)), (.int (1 : Int32))]))
        refine own_st (fun _ kS => XS.icmpNo X101.here hx rfl (hb hby at_284) rfl (teq (by decide : (1 : Int32) = (1 : Int32))).2 kS) ?_
        show own_G p.tables e below _ (T101.setTop (mkF m 287 #[.val (.int p1), .val (.int p2), .val (.ref bK), .val (.ref bL), .val (.ref bH), .val (.int (9 : Int32)), .val (.int (p2.toInt16.toInt32)), .val (.int (p2.toInt16.toInt32)), .val (.int (1 : Int32))] []))
        refine own_st (fun _ kS => XS.iconst X101.here hx rfl (hb hby at_287) kS) ?_
        show own_G p.tables e below _ (T101.setTop (mkF m 288 #[.val (.int p1), .val (.int p2), .val (.ref bK), .val (.ref bL), .val (.ref bH), .val (.int (9 : Int32)), .val (.int (p2.toInt16.toInt32)), .val (.int (p2.toInt16.toInt32)), .val (.int (1 : Int32))] [(.int (1 : Int32))]))
        refine own_st (fun _ kS => XS.goto X101.here hx rfl (pc0 := 288) (pc' := 292) rfl (hb hby at_288) (by decide) (by decide) kS) ?_
        show own_G p.tables e below _ (T101.setTop (mkF m 292 #[.val (.int p1), .val (.int p2), .val (.ref bK), .val (.ref bL), .val (.ref bH), .val (.int (9 : Int32)), .val (.int (p2.toInt16.toInt32)), .val (.int (p2.toInt16.toInt32)), .val (.int (1 : Int32))] [(.int (1 : Int32))]))
        exact own_retN X101 hx hlk (t := .boolean) hret (by simp) (hb hby at_292) (by decide) (by decide) (v' := (1 : Int32)) rfl (by rw [eq101]; exact ⟨rfl, N101⟩)
  · rw [hk1]
    show own_G p.tables e below _ (T0.setTop (mkF m 229 #[.val (.int p1), .val (.int p2), .val (.ref bK), .val (.ref bL), .val (.ref bH), .unset, .unset, .unset, .unset] [(.int (10 : Int32))]))
    refine own_st (fun _ kS => XS.istore X0.here hx rfl (hb hby at_229) rfl (l' := #[.val (.int p1), .val (.int p2), .val (.ref bK), .val (.ref bL), .val (.ref bH), .val (.int (10 : Int32)), .unset, .unset, .unset]) rfl kS) ?_
    show own_G p.tables e below _ (T0.setTop (mkF m 231 #[.val (.int p1), .val (.int p2), .val (.ref bK), .val (.ref bL), .val (.ref bH), .val (.int (10 : Int32)), .unset, .unset, .unset] []))
    refine own_st (fun _ kS => XS.iloadN X0.here hx rfl (hb hby at_231) rfl kS) ?_
    show own_G p.tables e below _ (T0.setTop (mkF m 232 #[.val (.int p1), .val (.int p2), .val (.ref bK), .val (.ref bL), .val (.ref bH), .val (.int (10 : Int32)), .unset, .unset, .unset] [(.int p2)]))
    refine own_st (fun _ kS => XT.i2s X0.here hx rfl (hb hby at_232) rfl kS) ?_
    show own_G p.tables e below _ (T0.setTop (mkF m 233 #[.val (.int p1), .val (.int p2), .val (.ref bK), .val (.ref bL), .val (.ref bH), .val (.int (10 : Int32)), .unset, .unset, .unset] [(.int (p2.toInt16.toInt32))]))
    refine own_st (fun _ kS => XS.istore X0.here hx rfl (hb hby at_233) rfl (l' := #[.val (.int p1), .val (.int p2), .val (.ref bK), .val (.ref bL), .val (.ref bH), .val (.int (10 : Int32)), .val (.int (p2.toInt16.toInt32)), .unset, .unset]) rfl kS) ?_
    show own_G p.tables e below _ (T0.setTop (mkF m 235 #[.val (.int p1), .val (.int p2), .val (.ref bK), .val (.ref bL), .val (.ref bH), .val (.int (10 : Int32)), .val (.int (p2.toInt16.toInt32)), .unset, .unset] []))
    refine own_st (fun _ kS => XS.iload X0.here hx rfl (hb hby at_235) rfl kS) ?_
    show own_G p.tables e below _ (T0.setTop (mkF m 237 #[.val (.int p1), .val (.int p2), .val (.ref bK), .val (.ref bL), .val (.ref bH), .val (.int (10 : Int32)), .val (.int (p2.toInt16.toInt32)), .unset, .unset] [(.int (p2.toInt16.toInt32))]))
    refine own_st (fun _ kS => XS.istore X0.here hx rfl (hb hby at_237) rfl (l' := #[.val (.int p1), .val (.int p2), .val (.ref bK), .val (.ref bL), .val (.ref bH), .val (.int (10 : Int32)), .val (.int (p2.toInt16.toInt32)), .val (.int (p2.toInt16.toInt32)), .unset]) rfl kS) ?_
    show own_G p.tables e below _ (T0.setTop (mkF m 239 #[.val (.int p1), .val (.int p2), .val (.ref bK), .val (.ref bL), .val (.ref bH), .val (.int (10 : Int32)), .val (.int (p2.toInt16.toInt32)), .val (.int (p2.toInt16.toInt32)), .unset] []))
    refine own_st (fun _ kS => XS.iload X0.here hx rfl (hb hby at_239) rfl kS) ?_
    show own_G p.tables e below _ (T0.setTop (mkF m 241 #[.val (.int p1), .val (.int p2), .val (.ref bK), .val (.ref bL), .val (.ref bH), .val (.int (10 : Int32)), .val (.int (p2.toInt16.toInt32)), .val (.int (p2.toInt16.toInt32)), .unset] [(.int (p2.toInt16.toInt32))]))
    refine own_st (fun _ kS => XS.aloadN X0.here hx rfl (hb hby at_241) rfl rfl kS) ?_
    show own_G p.tables e below _ (T0.setTop (mkF m 242 #[.val (.int p1), .val (.int p2), .val (.ref bK), .val (.ref bL), .val (.ref bH), .val (.int (10 : Int32)), .val (.int (p2.toInt16.toInt32)), .val (.int (p2.toInt16.toInt32)), .unset] [(.ref bL), (.int (p2.toInt16.toInt32))]))
    refine own_st (fun _ kS => XS.iload X0.here hx rfl (hb hby at_242) rfl kS) ?_
    show own_G p.tables e below _ (T0.setTop (mkF m 244 #[.val (.int p1), .val (.int p2), .val (.ref bK), .val (.ref bL), .val (.ref bH), .val (.int (10 : Int32)), .val (.int (p2.toInt16.toInt32)), .val (.int (p2.toInt16.toInt32)), .unset] [(.int (10 : Int32)), (.ref bL), (.int (p2.toInt16.toInt32))]))
    obtain ⟨cl102, Ar102, qa102, qs102, qn102, qh102, qg102⟩ := id R_L
    refine own_st (fun _ kS => X0.iaload hx (j := (10 : Int32)) (v := (.int (0 : Int32))) (by rw [e0]; exact Ar102.1) (State.isArrayOf_alike hZ.alike Ar102.2.1) Ar102.2.2 (inb_of qs102 ⟨by decide, by decide⟩) (qh102.at (inb_of qs102 ⟨by decide, by decide⟩) rfl) (g := (mkF m 244 #[.val (.int p1), .val (.int p2), .val (.ref bK), .val (.ref bL), .val (.ref bH), .val (.int (10 : Int32)), .val (.int (p2.toInt16.toInt32)), .val (.int (p2.toInt16.toInt32)), .unset] [(.int (10 : Int32)), (.ref bL), (.int (p2.toInt16.toInt32))])) rfl rfl (hb hby at_244) _ kS) ?_
    show own_G p.tables e below _ (T0.setTop (mkF m 245 #[.val (.int p1), .val (.int p2), .val (.ref bK), .val (.ref bL), .val (.ref bH), .val (.int (10 : Int32)), .val (.int (p2.toInt16.toInt32)), .val (.int (p2.toInt16.toInt32)), .unset] [(.int (0 : Int32)), (.int (p2.toInt16.toInt32))]))
    by_cases hc245_103 : (p2.toInt16.toInt32) < (0 : Int32)
    · skip
      refine own_st (fun _ kS => XS.icmpNo X0.here hx rfl (hb hby at_245) rfl (tlt hc245_103).2.1 kS) ?_
      show own_G p.tables e below _ (T0.setTop (mkF m 248 #[.val (.int p1), .val (.int p2), .val (.ref bK), .val (.ref bL), .val (.ref bH), .val (.int (10 : Int32)), .val (.int (p2.toInt16.toInt32)), .val (.int (p2.toInt16.toInt32)), .unset] []))
      refine own_st (fun _ kS => XS.iconst X0.here hx rfl (hb hby at_248) kS) ?_
      show own_G p.tables e below _ (T0.setTop (mkF m 249 #[.val (.int p1), .val (.int p2), .val (.ref bK), .val (.ref bL), .val (.ref bH), .val (.int (10 : Int32)), .val (.int (p2.toInt16.toInt32)), .val (.int (p2.toInt16.toInt32)), .unset] [(.int (0 : Int32))]))
      refine own_st (fun _ kS => XS.istore X0.here hx rfl (hb hby at_249) rfl (l' := #[.val (.int p1), .val (.int p2), .val (.ref bK), .val (.ref bL), .val (.ref bH), .val (.int (10 : Int32)), .val (.int (p2.toInt16.toInt32)), .val (.int (p2.toInt16.toInt32)), .val (.int (0 : Int32))]) rfl kS) ?_
      show own_G p.tables e below _ (T0.setTop (mkF m 251 #[.val (.int p1), .val (.int p2), .val (.ref bK), .val (.ref bL), .val (.ref bH), .val (.int (10 : Int32)), .val (.int (p2.toInt16.toInt32)), .val (.int (p2.toInt16.toInt32)), .val (.int (0 : Int32))] []))
      refine own_st (fun _ kS => XS.goto X0.here hx rfl (pc0 := 251) (pc' := 273) rfl (hb hby at_251) (by decide) (by decide) kS) ?_
      show own_G p.tables e below _ (T0.setTop (mkF m 273 #[.val (.int p1), .val (.int p2), .val (.ref bK), .val (.ref bL), .val (.ref bH), .val (.int (10 : Int32)), .val (.int (p2.toInt16.toInt32)), .val (.int (p2.toInt16.toInt32)), .val (.int (0 : Int32))] []))
      refine own_st (fun _ kS => XS.aloadN X0.here hx rfl (hb hby at_273) rfl rfl kS) ?_
      show own_G p.tables e below _ (T0.setTop (mkF m 274 #[.val (.int p1), .val (.int p2), .val (.ref bK), .val (.ref bL), .val (.ref bH), .val (.int (10 : Int32)), .val (.int (p2.toInt16.toInt32)), .val (.int (p2.toInt16.toInt32)), .val (.int (0 : Int32))] [(.ref bK)]))
      refine own_st (fun _ kS => XS.iload X0.here hx rfl (hb hby at_274) rfl kS) ?_
      show own_G p.tables e below _ (T0.setTop (mkF m 276 #[.val (.int p1), .val (.int p2), .val (.ref bK), .val (.ref bL), .val (.ref bH), .val (.int (10 : Int32)), .val (.int (p2.toInt16.toInt32)), .val (.int (p2.toInt16.toInt32)), .val (.int (0 : Int32))] [(.int (10 : Int32)), (.ref bK)]))
      obtain ⟨cl104, Ar104, qa104, qs104, qn104, qh104, qg104⟩ := id R_K
      refine own_st (fun _ kS => X0.aaload hx (j := (10 : Int32)) (v := (.ref w_DESCRIBE_GROUPS)) (by rw [e0]; exact Ar104.1) (State.isArrayOf_alike hZ.alike Ar104.2.1) rfl Ar104.2.2 (inb_of qs104 ⟨by decide, by decide⟩) (qh104.at (inb_of qs104 ⟨by decide, by decide⟩) rfl) (g := (mkF m 276 #[.val (.int p1), .val (.int p2), .val (.ref bK), .val (.ref bL), .val (.ref bH), .val (.int (10 : Int32)), .val (.int (p2.toInt16.toInt32)), .val (.int (p2.toInt16.toInt32)), .val (.int (0 : Int32))] [(.int (10 : Int32)), (.ref bK)])) rfl rfl (hb hby at_276) _ kS) ?_
      show own_G p.tables e below _ (T0.setTop (mkF m 277 #[.val (.int p1), .val (.int p2), .val (.ref bK), .val (.ref bL), .val (.ref bH), .val (.int (10 : Int32)), .val (.int (p2.toInt16.toInt32)), .val (.int (p2.toInt16.toInt32)), .val (.int (0 : Int32))] [(.ref w_DESCRIBE_GROUPS)]))
      refine own_st (fun _ kS => XS.iload X0.here hx rfl (hb hby at_277) rfl kS) ?_
      show own_G p.tables e below _ (T0.setTop (mkF m 279 #[.val (.int p1), .val (.int p2), .val (.ref bK), .val (.ref bL), .val (.ref bH), .val (.int (10 : Int32)), .val (.int (p2.toInt16.toInt32)), .val (.int (p2.toInt16.toInt32)), .val (.int (0 : Int32))] [(.int (p2.toInt16.toInt32)), (.ref w_DESCRIBE_GROUPS)]))
      obtain ⟨cq105, kq105, q105a, q105b, q105c⟩ := isOf hZ e0 (Exa.ext O0.2 E_DESCRIBE_GROUPS)
      obtain ⟨_, _, ⟨T105, L105, k105, n105⟩, -, X105, ⟨Lc105, hQ105, l105, y105, z105⟩, st105⟩ := X0.virtualBack hx (y := (⟨"com/example/loose_grip/loosegrip/wire/ApiKey", "supports", "(S)Z"⟩ : MethodName)) (z := (⟨"com/example/loose_grip/loosegrip/wire/ApiKey", "supports", "(S)Z"⟩ : MethodName)) hown (mvT hZ (hw _ (List.mem_of_getElem? (i := 32) rfl))) (mvT hZ (hw _ (List.mem_of_getElem? (i := 33) rfl))) (notFace_of_selects (args := #[]) (mvT hZ (hw _ (List.mem_of_getElem? (i := 35) rfl)))) (mvT hZ (hw _ (List.mem_of_getElem? (i := 35) rfl))) (mvT hZ (hw _ (List.mem_of_getElem? (i := 34) rfl))) (by decide) (backOf (W := 0) (rm_sup_lt l Z a0 hw [] w_DESCRIBE_GROUPS (p2.toInt16.toInt32) (0 : Int32) h0 n0 Z0 O0 F_DESCRIBE_GROUPS_minVersion hc245_103) hZ (hw _ (List.mem_of_getElem? (i := 36) rfl)) (hw _ (List.mem_of_getElem? (i := 3) rfl)) (by decide) (by decide)) q105a q105c (g := (mkF m 279 #[.val (.int p1), .val (.int p2), .val (.ref bK), .val (.ref bL), .val (.ref bH), .val (.int (10 : Int32)), .val (.int (p2.toInt16.toInt32)), .val (.int (p2.toInt16.toInt32)), .val (.int (0 : Int32))] [(.int (p2.toInt16.toInt32)), (.ref w_DESCRIBE_GROUPS)])) rfl (by rw [hml]; rfl) (Steps.refl _) (argsL := [(.int (p2.toInt16.toInt32))]) (rest := []) (lenOf own_pd0 rfl) rfl (by show 2 * 0 + _ ≤ _; exact Nat.le_of_eq rfl) (hb hby at_279) (fun _ _ => ⟨rfl, e0, (by decide : 3 + 0 ≤ _), (by decide : 39 + 0 ≤ _)⟩)
      dsimp only [Pt.U, Pt.locs, Pt.cells, Pt.slots] at X105 l105 y105 z105 st105 hQ105
      subst l105 y105 z105
      obtain ⟨rfl, Nq105, eq105⟩ := hQ105
      have N105 := Fr.app N0 Nq105
      refine own_tr st105 ?_
      show own_G p.tables e below _ (T105.setTop (mkF m 282 #[.val (.int p1), .val (.int p2), .val (.ref bK), .val (.ref bL), .val (.ref bH), .val (.int (10 : Int32)), .val (.int (p2.toInt16.toInt32)), .val (.int (p2.toInt16.toInt32)), .val (.int (0 : Int32))] [(.int (0 : Int32))]))
      refine own_st (fun _ kS => XS.iload X105.here hx rfl (hb hby at_282) rfl kS) ?_
      show own_G p.tables e below _ (T105.setTop (mkF m 284 #[.val (.int p1), .val (.int p2), .val (.ref bK), .val (.ref bL), .val (.ref bH), .val (.int (10 : Int32)), .val (.int (p2.toInt16.toInt32)), .val (.int (p2.toInt16.toInt32)), .val (.int (0 : Int32))] [(.int (0 : Int32)), (.int (0 : Int32))]))
      refine own_st (fun _ kS => XS.icmpNo X105.here hx rfl (hb hby at_284) rfl (teq (by decide : (0 : Int32) = (0 : Int32))).2 kS) ?_
      show own_G p.tables e below _ (T105.setTop (mkF m 287 #[.val (.int p1), .val (.int p2), .val (.ref bK), .val (.ref bL), .val (.ref bH), .val (.int (10 : Int32)), .val (.int (p2.toInt16.toInt32)), .val (.int (p2.toInt16.toInt32)), .val (.int (0 : Int32))] []))
      refine own_st (fun _ kS => XS.iconst X105.here hx rfl (hb hby at_287) kS) ?_
      show own_G p.tables e below _ (T105.setTop (mkF m 288 #[.val (.int p1), .val (.int p2), .val (.ref bK), .val (.ref bL), .val (.ref bH), .val (.int (10 : Int32)), .val (.int (p2.toInt16.toInt32)), .val (.int (p2.toInt16.toInt32)), .val (.int (0 : Int32))] [(.int (1 : Int32))]))
      refine own_st (fun _ kS => XS.goto X105.here hx rfl (pc0 := 288) (pc' := 292) rfl (hb hby at_288) (by decide) (by decide) kS) ?_
      show own_G p.tables e below _ (T105.setTop (mkF m 292 #[.val (.int p1), .val (.int p2), .val (.ref bK), .val (.ref bL), .val (.ref bH), .val (.int (10 : Int32)), .val (.int (p2.toInt16.toInt32)), .val (.int (p2.toInt16.toInt32)), .val (.int (0 : Int32))] [(.int (1 : Int32))]))
      exact own_retN X105 hx hlk (t := .boolean) hret (by simp) (hb hby at_292) (by decide) (by decide) (v' := (1 : Int32)) rfl (by rw [eq105]; exact ⟨rfl, N105⟩)
    · skip
      refine own_st (fun _ kS => XS.icmpYes X0.here hx rfl (pc0 := 245) (pc' := 254) rfl (hb hby at_245) rfl (flt hc245_103).2.1 (by decide) (by decide) kS) ?_
      show own_G p.tables e below _ (T0.setTop (mkF m 254 #[.val (.int p1), .val (.int p2), .val (.ref bK), .val (.ref bL), .val (.ref bH), .val (.int (10 : Int32)), .val (.int (p2.toInt16.toInt32)), .val (.int (p2.toInt16.toInt32)), .unset] []))
      refine own_st (fun _ kS => XS.iload X0.here hx rfl (hb hby at_254) rfl kS) ?_
      show own_G p.tables e below _ (T0.setTop (mkF m 256 #[.val (.int p1), .val (.int p2), .val (.ref bK), .val (.ref bL), .val (.ref bH), .val (.int (10 : Int32)), .val (.int (p2.toInt16.toInt32)), .val (.int (p2.toInt16.toInt32)), .unset] [(.int (p2.toInt16.toInt32))]))
      refine own_st (fun _ kS => XS.aload X0.here hx rfl (hb hby at_256) rfl rfl kS) ?_
      show own_G p.tables e below _ (T0.setTop (mkF m 258 #[.val (.int p1), .val (.int p2), .val (.ref bK), .val (.ref bL), .val (.ref bH), .val (.int (10 : Int32)), .val (.int (p2.toInt16.toInt32)), .val (.int (p2.toInt16.toInt32)), .unset] [(.ref bH), (.int (p2.toInt16.toInt32))]))
      refine own_st (fun _ kS => XS.iload X0.here hx rfl (hb hby at_258) rfl kS) ?_
      show own_G p.tables e below _ (T0.setTop (mkF m 260 #[.val (.int p1), .val (.int p2), .val (.ref bK), .val (.ref bL), .val (.ref bH), .val (.int (10 : Int32)), .val (.int (p2.toInt16.toInt32)), .val (.int (p2.toInt16.toInt32)), .unset] [(.int (10 : Int32)), (.ref bH), (.int (p2.toInt16.toInt32))]))
      obtain ⟨cl106, Ar106, qa106, qs106, qn106, qh106, qg106⟩ := id R_H
      refine own_st (fun _ kS => X0.iaload hx (j := (10 : Int32)) (v := (.int (4 : Int32))) (by rw [e0]; exact Ar106.1) (State.isArrayOf_alike hZ.alike Ar106.2.1) Ar106.2.2 (inb_of qs106 ⟨by decide, by decide⟩) (qh106.at (inb_of qs106 ⟨by decide, by decide⟩) rfl) (g := (mkF m 260 #[.val (.int p1), .val (.int p2), .val (.ref bK), .val (.ref bL), .val (.ref bH), .val (.int (10 : Int32)), .val (.int (p2.toInt16.toInt32)), .val (.int (p2.toInt16.toInt32)), .unset] [(.int (10 : Int32)), (.ref bH), (.int (p2.toInt16.toInt32))])) rfl rfl (hb hby at_260) _ kS) ?_
      show own_G p.tables e below _ (T0.setTop (mkF m 261 #[.val (.int p1), .val (.int p2), .val (.ref bK), .val (.ref bL), .val (.ref bH), .val (.int (10 : Int32)), .val (.int (p2.toInt16.toInt32)), .val (.int (p2.toInt16.toInt32)), .unset] [(.int (4 : Int32)), (.int (p2.toInt16.toInt32))]))
      by_cases hc261_107 : (4 : Int32) < (p2.toInt16.toInt32)
      · skip
        refine own_st (fun _ kS => XS.icmpNo X0.here hx rfl (hb hby at_261) rfl (tlt hc261_107).2.2.2 kS) ?_
        show own_G p.tables e below _ (T0.setTop (mkF m 264 #[.val (.int p1), .val (.int p2), .val (.ref bK), .val (.ref bL), .val (.ref bH), .val (.int (10 : Int32)), .val (.int (p2.toInt16.toInt32)), .val (.int (p2.toInt16.toInt32)), .unset] []))
        refine own_st (fun _ kS => XS.iconst X0.here hx rfl (hb hby at_264) kS) ?_
        show own_G p.tables e below _ (T0.setTop (mkF m 265 #[.val (.int p1), .val (.int p2), .val (.ref bK), .val (.ref bL), .val (.ref bH), .val (.int (10 : Int32)), .val (.int (p2.toInt16.toInt32)), .val (.int (p2.toInt16.toInt32)), .unset] [(.int (0 : Int32))]))
        refine own_st (fun _ kS => XS.istore X0.here hx rfl (hb hby at_265) rfl (l' := #[.val (.int p1), .val (.int p2), .val (.ref bK), .val (.ref bL), .val (.ref bH), .val (.int (10 : Int32)), .val (.int (p2.toInt16.toInt32)), .val (.int (p2.toInt16.toInt32)), .val (.int (0 : Int32))]) rfl kS) ?_
        show own_G p.tables e below _ (T0.setTop (mkF m 267 #[.val (.int p1), .val (.int p2), .val (.ref bK), .val (.ref bL), .val (.ref bH), .val (.int (10 : Int32)), .val (.int (p2.toInt16.toInt32)), .val (.int (p2.toInt16.toInt32)), .val (.int (0 : Int32))] []))
        refine own_st (fun _ kS => XS.goto X0.here hx rfl (pc0 := 267) (pc' := 273) rfl (hb hby at_267) (by decide) (by decide) kS) ?_
        show own_G p.tables e below _ (T0.setTop (mkF m 273 #[.val (.int p1), .val (.int p2), .val (.ref bK), .val (.ref bL), .val (.ref bH), .val (.int (10 : Int32)), .val (.int (p2.toInt16.toInt32)), .val (.int (p2.toInt16.toInt32)), .val (.int (0 : Int32))] []))
        refine own_st (fun _ kS => XS.aloadN X0.here hx rfl (hb hby at_273) rfl rfl kS) ?_
        show own_G p.tables e below _ (T0.setTop (mkF m 274 #[.val (.int p1), .val (.int p2), .val (.ref bK), .val (.ref bL), .val (.ref bH), .val (.int (10 : Int32)), .val (.int (p2.toInt16.toInt32)), .val (.int (p2.toInt16.toInt32)), .val (.int (0 : Int32))] [(.ref bK)]))
        refine own_st (fun _ kS => XS.iload X0.here hx rfl (hb hby at_274) rfl kS) ?_
        show own_G p.tables e below _ (T0.setTop (mkF m 276 #[.val (.int p1), .val (.int p2), .val (.ref bK), .val (.ref bL), .val (.ref bH), .val (.int (10 : Int32)), .val (.int (p2.toInt16.toInt32)), .val (.int (p2.toInt16.toInt32)), .val (.int (0 : Int32))] [(.int (10 : Int32)), (.ref bK)]))
        obtain ⟨cl108, Ar108, qa108, qs108, qn108, qh108, qg108⟩ := id R_K
        refine own_st (fun _ kS => X0.aaload hx (j := (10 : Int32)) (v := (.ref w_DESCRIBE_GROUPS)) (by rw [e0]; exact Ar108.1) (State.isArrayOf_alike hZ.alike Ar108.2.1) rfl Ar108.2.2 (inb_of qs108 ⟨by decide, by decide⟩) (qh108.at (inb_of qs108 ⟨by decide, by decide⟩) rfl) (g := (mkF m 276 #[.val (.int p1), .val (.int p2), .val (.ref bK), .val (.ref bL), .val (.ref bH), .val (.int (10 : Int32)), .val (.int (p2.toInt16.toInt32)), .val (.int (p2.toInt16.toInt32)), .val (.int (0 : Int32))] [(.int (10 : Int32)), (.ref bK)])) rfl rfl (hb hby at_276) _ kS) ?_
        show own_G p.tables e below _ (T0.setTop (mkF m 277 #[.val (.int p1), .val (.int p2), .val (.ref bK), .val (.ref bL), .val (.ref bH), .val (.int (10 : Int32)), .val (.int (p2.toInt16.toInt32)), .val (.int (p2.toInt16.toInt32)), .val (.int (0 : Int32))] [(.ref w_DESCRIBE_GROUPS)]))
        refine own_st (fun _ kS => XS.iload X0.here hx rfl (hb hby at_277) rfl kS) ?_
        show own_G p.tables e below _ (T0.setTop (mkF m 279 #[.val (.int p1), .val (.int p2), .val (.ref bK), .val (.ref bL), .val (.ref bH), .val (.int (10 : Int32)), .val (.int (p2.toInt16.toInt32)), .val (.int (p2.toInt16.toInt32)), .val (.int (0 : Int32))] [(.int (p2.toInt16.toInt32)), (.ref w_DESCRIBE_GROUPS)]))
        obtain ⟨cq109, kq109, q109a, q109b, q109c⟩ := isOf hZ e0 (Exa.ext O0.2 E_DESCRIBE_GROUPS)
        obtain ⟨_, _, ⟨T109, L109, k109, n109⟩, -, X109, ⟨Lc109, hQ109, l109, y109, z109⟩, st109⟩ := X0.virtualBack hx (y := (⟨"com/example/loose_grip/loosegrip/wire/ApiKey", "supports", "(S)Z"⟩ : MethodName)) (z := (⟨"com/example/loose_grip/loosegrip/wire/ApiKey", "supports", "(S)Z"⟩ : MethodName)) hown (mvT hZ (hw _ (List.mem_of_getElem? (i := 32) rfl))) (mvT hZ (hw _ (List.mem_of_getElem? (i := 33) rfl))) (notFace_of_selects (args := #[]) (mvT hZ (hw _ (List.mem_of_getElem? (i := 35) rfl)))) (mvT hZ (hw _ (List.mem_of_getElem? (i := 35) rfl))) (mvT hZ (hw _ (List.mem_of_getElem? (i := 34) rfl))) (by decide) (backOf (W := 0) (rm_sup_gt l Z a0 hw [] w_DESCRIBE_GROUPS (p2.toInt16.toInt32) (0 : Int32) (4 : Int32) h0 n0 Z0 O0 F_DESCRIBE_GROUPS_minVersion F_DESCRIBE_GROUPS_maxVersion hc245_103 hc261_107) hZ (hw _ (List.mem_of_getElem? (i := 36) rfl)) (hw _ (List.mem_of_getElem? (i := 3) rfl)) (by decide) (by decide)) q109a q109c (g := (mkF m 279 #[.val (.int p1), .val (.int p2), .val (.ref bK), .val (.ref bL), .val (.ref bH), .val (.int (10 : Int32)), .val (.int (p2.toInt16.toInt32)), .val (.int (p2.toInt16.toInt32)), .val (.int (0 : Int32))] [(.int (p2.toInt16.toInt32)), (.ref w_DESCRIBE_GROUPS)])) rfl (by rw [hml]; rfl) (Steps.refl _) (argsL := [(.int (p2.toInt16.toInt32))]) (rest := []) (lenOf own_pd0 rfl) rfl (by show 2 * 0 + _ ≤ _; exact Nat.le_of_eq rfl) (hb hby at_279) (fun _ _ => ⟨rfl, e0, (by decide : 3 + 0 ≤ _), (by decide : 39 + 0 ≤ _)⟩)
        dsimp only [Pt.U, Pt.locs, Pt.cells, Pt.slots] at X109 l109 y109 z109 st109 hQ109
        subst l109 y109 z109
        obtain ⟨rfl, Nq109, eq109⟩ := hQ109
        have N109 := Fr.app N0 Nq109
        refine own_tr st109 ?_
        show own_G p.tables e below _ (T109.setTop (mkF m 282 #[.val (.int p1), .val (.int p2), .val (.ref bK), .val (.ref bL), .val (.ref bH), .val (.int (10 : Int32)), .val (.int (p2.toInt16.toInt32)), .val (.int (p2.toInt16.toInt32)), .val (.int (0 : Int32))] [(.int (0 : Int32))]))
        refine own_st (fun _ kS => XS.iload X109.here hx rfl (hb hby at_282) rfl kS) ?_
        show own_G p.tables e below _ (T109.setTop (mkF m 284 #[.val (.int p1), .val (.int p2), .val (.ref bK), .val (.ref bL), .val (.ref bH), .val (.int (10 : Int32)), .val (.int (p2.toInt16.toInt32)), .val (.int (p2.toInt16.toInt32)), .val (.int (0 : Int32))] [(.int (0 : Int32)), (.int (0 : Int32))]))
        refine own_st (fun _ kS => XS.icmpNo X109.here hx rfl (hb hby at_284) rfl (teq (by decide : (0 : Int32) = (0 : Int32))).2 kS) ?_
        show own_G p.tables e below _ (T109.setTop (mkF m 287 #[.val (.int p1), .val (.int p2), .val (.ref bK), .val (.ref bL), .val (.ref bH), .val (.int (10 : Int32)), .val (.int (p2.toInt16.toInt32)), .val (.int (p2.toInt16.toInt32)), .val (.int (0 : Int32))] []))
        refine own_st (fun _ kS => XS.iconst X109.here hx rfl (hb hby at_287) kS) ?_
        show own_G p.tables e below _ (T109.setTop (mkF m 288 #[.val (.int p1), .val (.int p2), .val (.ref bK), .val (.ref bL), .val (.ref bH), .val (.int (10 : Int32)), .val (.int (p2.toInt16.toInt32)), .val (.int (p2.toInt16.toInt32)), .val (.int (0 : Int32))] [(.int (1 : Int32))]))
        refine own_st (fun _ kS => XS.goto X109.here hx rfl (pc0 := 288) (pc' := 292) rfl (hb hby at_288) (by decide) (by decide) kS) ?_
        show own_G p.tables e below _ (T109.setTop (mkF m 292 #[.val (.int p1), .val (.int p2), .val (.ref bK), .val (.ref bL), .val (.ref bH), .val (.int (10 : Int32)), .val (.int (p2.toInt16.toInt32)), .val (.int (p2.toInt16.toInt32)), .val (.int (0 : Int32))] [(.int (1 : Int32))]))
        exact own_retN X109 hx hlk (t := .boolean) hret (by simp) (hb hby at_292) (by decide) (by decide) (v' := (1 : Int32)) rfl (by rw [eq109]; exact ⟨rfl, N109⟩)
      · skip
        refine own_st (fun _ kS => XS.icmpYes X0.here hx rfl (pc0 := 261) (pc' := 270) rfl (hb hby at_261) rfl (flt hc261_107).2.2.2 (by decide) (by decide) kS) ?_
        show own_G p.tables e below _ (T0.setTop (mkF m 270 #[.val (.int p1), .val (.int p2), .val (.ref bK), .val (.ref bL), .val (.ref bH), .val (.int (10 : Int32)), .val (.int (p2.toInt16.toInt32)), .val (.int (p2.toInt16.toInt32)), .unset] []))
        refine own_st (fun _ kS => XS.iconst X0.here hx rfl (hb hby at_270) kS) ?_
        show own_G p.tables e below _ (T0.setTop (mkF m 271 #[.val (.int p1), .val (.int p2), .val (.ref bK), .val (.ref bL), .val (.ref bH), .val (.int (10 : Int32)), .val (.int (p2.toInt16.toInt32)), .val (.int (p2.toInt16.toInt32)), .unset] [(.int (1 : Int32))]))
        refine own_st (fun _ kS => XS.istore X0.here hx rfl (hb hby at_271) rfl (l' := #[.val (.int p1), .val (.int p2), .val (.ref bK), .val (.ref bL), .val (.ref bH), .val (.int (10 : Int32)), .val (.int (p2.toInt16.toInt32)), .val (.int (p2.toInt16.toInt32)), .val (.int (1 : Int32))]) rfl kS) ?_
        show own_G p.tables e below _ (T0.setTop (mkF m 273 #[.val (.int p1), .val (.int p2), .val (.ref bK), .val (.ref bL), .val (.ref bH), .val (.int (10 : Int32)), .val (.int (p2.toInt16.toInt32)), .val (.int (p2.toInt16.toInt32)), .val (.int (1 : Int32))] []))
        refine own_st (fun _ kS => XS.aloadN X0.here hx rfl (hb hby at_273) rfl rfl kS) ?_
        show own_G p.tables e below _ (T0.setTop (mkF m 274 #[.val (.int p1), .val (.int p2), .val (.ref bK), .val (.ref bL), .val (.ref bH), .val (.int (10 : Int32)), .val (.int (p2.toInt16.toInt32)), .val (.int (p2.toInt16.toInt32)), .val (.int (1 : Int32))] [(.ref bK)]))
        refine own_st (fun _ kS => XS.iload X0.here hx rfl (hb hby at_274) rfl kS) ?_
        show own_G p.tables e below _ (T0.setTop (mkF m 276 #[.val (.int p1), .val (.int p2), .val (.ref bK), .val (.ref bL), .val (.ref bH), .val (.int (10 : Int32)), .val (.int (p2.toInt16.toInt32)), .val (.int (p2.toInt16.toInt32)), .val (.int (1 : Int32))] [(.int (10 : Int32)), (.ref bK)]))
        obtain ⟨cl110, Ar110, qa110, qs110, qn110, qh110, qg110⟩ := id R_K
        refine own_st (fun _ kS => X0.aaload hx (j := (10 : Int32)) (v := (.ref w_DESCRIBE_GROUPS)) (by rw [e0]; exact Ar110.1) (State.isArrayOf_alike hZ.alike Ar110.2.1) rfl Ar110.2.2 (inb_of qs110 ⟨by decide, by decide⟩) (qh110.at (inb_of qs110 ⟨by decide, by decide⟩) rfl) (g := (mkF m 276 #[.val (.int p1), .val (.int p2), .val (.ref bK), .val (.ref bL), .val (.ref bH), .val (.int (10 : Int32)), .val (.int (p2.toInt16.toInt32)), .val (.int (p2.toInt16.toInt32)), .val (.int (1 : Int32))] [(.int (10 : Int32)), (.ref bK)])) rfl rfl (hb hby at_276) _ kS) ?_
        show own_G p.tables e below _ (T0.setTop (mkF m 277 #[.val (.int p1), .val (.int p2), .val (.ref bK), .val (.ref bL), .val (.ref bH), .val (.int (10 : Int32)), .val (.int (p2.toInt16.toInt32)), .val (.int (p2.toInt16.toInt32)), .val (.int (1 : Int32))] [(.ref w_DESCRIBE_GROUPS)]))
        refine own_st (fun _ kS => XS.iload X0.here hx rfl (hb hby at_277) rfl kS) ?_
        show own_G p.tables e below _ (T0.setTop (mkF m 279 #[.val (.int p1), .val (.int p2), .val (.ref bK), .val (.ref bL), .val (.ref bH), .val (.int (10 : Int32)), .val (.int (p2.toInt16.toInt32)), .val (.int (p2.toInt16.toInt32)), .val (.int (1 : Int32))] [(.int (p2.toInt16.toInt32)), (.ref w_DESCRIBE_GROUPS)]))
        obtain ⟨cq111, kq111, q111a, q111b, q111c⟩ := isOf hZ e0 (Exa.ext O0.2 E_DESCRIBE_GROUPS)
        obtain ⟨_, _, ⟨T111, L111, k111, n111⟩, -, X111, ⟨Lc111, hQ111, l111, y111, z111⟩, st111⟩ := X0.virtualBack hx (y := (⟨"com/example/loose_grip/loosegrip/wire/ApiKey", "supports", "(S)Z"⟩ : MethodName)) (z := (⟨"com/example/loose_grip/loosegrip/wire/ApiKey", "supports", "(S)Z"⟩ : MethodName)) hown (mvT hZ (hw _ (List.mem_of_getElem? (i := 32) rfl))) (mvT hZ (hw _ (List.mem_of_getElem? (i := 33) rfl))) (notFace_of_selects (args := #[]) (mvT hZ (hw _ (List.mem_of_getElem? (i := 35) rfl)))) (mvT hZ (hw _ (List.mem_of_getElem? (i := 35) rfl))) (mvT hZ (hw _ (List.mem_of_getElem? (i := 34) rfl))) (by decide) (backOf (W := 0) (rm_sup_in l Z a0 hw [] w_DESCRIBE_GROUPS (p2.toInt16.toInt32) (0 : Int32) (4 : Int32) h0 n0 Z0 O0 F_DESCRIBE_GROUPS_minVersion F_DESCRIBE_GROUPS_maxVersion hc245_103 hc261_107) hZ (hw _ (List.mem_of_getElem? (i := 36) rfl)) (hw _ (List.mem_of_getElem? (i := 3) rfl)) (by decide) (by decide)) q111a q111c (g := (mkF m 279 #[.val (.int p1), .val (.int p2), .val (.ref bK), .val (.ref bL), .val (.ref bH), .val (.int (10 : Int32)), .val (.int (p2.toInt16.toInt32)), .val (.int (p2.toInt16.toInt32)), .val (.int (1 : Int32))] [(.int (p2.toInt16.toInt32)), (.ref w_DESCRIBE_GROUPS)])) rfl (by rw [hml]; rfl) (Steps.refl _) (argsL := [(.int (p2.toInt16.toInt32))]) (rest := []) (lenOf own_pd0 rfl) rfl (by show 2 * 0 + _ ≤ _; exact Nat.le_of_eq rfl) (hb hby at_279) (fun _ _ => ⟨rfl, e0, (by decide : 3 + 0 ≤ _), (by decide : 39 + 0 ≤ _)⟩)
        dsimp only [Pt.U, Pt.locs, Pt.cells, Pt.slots] at X111 l111 y111 z111 st111 hQ111
        subst l111 y111 z111
        obtain ⟨rfl, Nq111, eq111⟩ := hQ111
        have N111 := Fr.app N0 Nq111
        refine own_tr st111 ?_
        show own_G p.tables e below _ (T111.setTop (mkF m 282 #[.val (.int p1), .val (.int p2), .val (.ref bK), .val (.ref bL), .val (.ref bH), .val (.int (10 : Int32)), .val (.int (p2.toInt16.toInt32)), .val (.int (p2.toInt16.toInt32)), .val (.int (1 : Int32))] [(.int (1 : Int32))]))
        refine own_st (fun _ kS => XS.iload X111.here hx rfl (hb hby at_282) rfl kS) ?_
        show own_G p.tables e below _ (T111.setTop (mkF m 284 #[.val (.int p1), .val (.int p2), .val (.ref bK), .val (.ref bL), .val (.ref bH), .val (.int (10 : Int32)), .val (.int (p2.toInt16.toInt32)), .val (.int (p2.toInt16.toInt32)), .val (.int (1 : Int32))] [(.int (1 : Int32)), (.int (1 : Int32))]))
        refine own_st (fun _ kS => XS.icmpNo X111.here hx rfl (hb hby at_284) rfl (teq (by decide : (1 : Int32) = (1 : Int32))).2 kS) ?_
        show own_G p.tables e below _ (T111.setTop (mkF m 287 #[.val (.int p1), .val (.int p2), .val (.ref bK), .val (.ref bL), .val (.ref bH), .val (.int (10 : Int32)), .val (.int (p2.toInt16.toInt32)), .val (.int (p2.toInt16.toInt32)), .val (.int (1 : Int32))] []))
        refine own_st (fun _ kS => XS.iconst X111.here hx rfl (hb hby at_287) kS) ?_
        show own_G p.tables e below _ (T111.setTop (mkF m 288 #[.val (.int p1), .val (.int p2), .val (.ref bK), .val (.ref bL), .val (.ref bH), .val (.int (10 : Int32)), .val (.int (p2.toInt16.toInt32)), .val (.int (p2.toInt16.toInt32)), .val (.int (1 : Int32))] [(.int (1 : Int32))]))
        refine own_st (fun _ kS => XS.goto X111.here hx rfl (pc0 := 288) (pc' := 292) rfl (hb hby at_288) (by decide) (by decide) kS) ?_
        show own_G p.tables e below _ (T111.setTop (mkF m 292 #[.val (.int p1), .val (.int p2), .val (.ref bK), .val (.ref bL), .val (.ref bH), .val (.int (10 : Int32)), .val (.int (p2.toInt16.toInt32)), .val (.int (p2.toInt16.toInt32)), .val (.int (1 : Int32))] [(.int (1 : Int32))]))
        exact own_retN X111 hx hlk (t := .boolean) hret (by simp) (hb hby at_292) (by decide) (by decide) (v' := (1 : Int32)) rfl (by rw [eq111]; exact ⟨rfl, N111⟩)
  · rw [hk1]
    show own_G p.tables e below _ (T0.setTop (mkF m 229 #[.val (.int p1), .val (.int p2), .val (.ref bK), .val (.ref bL), .val (.ref bH), .unset, .unset, .unset, .unset] [(.int (11 : Int32))]))
    refine own_st (fun _ kS => XS.istore X0.here hx rfl (hb hby at_229) rfl (l' := #[.val (.int p1), .val (.int p2), .val (.ref bK), .val (.ref bL), .val (.ref bH), .val (.int (11 : Int32)), .unset, .unset, .unset]) rfl kS) ?_
    show own_G p.tables e below _ (T0.setTop (mkF m 231 #[.val (.int p1), .val (.int p2), .val (.ref bK), .val (.ref bL), .val (.ref bH), .val (.int (11 : Int32)), .unset, .unset, .unset] []))
    refine own_st (fun _ kS => XS.iloadN X0.here hx rfl (hb hby at_231) rfl kS) ?_
    show own_G p.tables e below _ (T0.setTop (mkF m 232 #[.val (.int p1), .val (.int p2), .val (.ref bK), .val (.ref bL), .val (.ref bH), .val (.int (11 : Int32)), .unset, .unset, .unset] [(.int p2)]))
    refine own_st (fun _ kS => XT.i2s X0.here hx rfl (hb hby at_232) rfl kS) ?_
    show own_G p.tables e below _ (T0.setTop (mkF m 233 #[.val (.int p1), .val (.int p2), .val (.ref bK), .val (.ref bL), .val (.ref bH), .val (.int (11 : Int32)), .unset, .unset, .unset] [(.int (p2.toInt16.toInt32))]))
    refine own_st (fun _ kS => XS.istore X0.here hx rfl (hb hby at_233) rfl (l' := #[.val (.int p1), .val (.int p2), .val (.ref bK), .val (.ref bL), .val (.ref bH), .val (.int (11 : Int32)), .val (.int (p2.toInt16.toInt32)), .unset, .unset]) rfl kS) ?_
    show own_G p.tables e below _ (T0.setTop (mkF m 235 #[.val (.int p1), .val (.int p2), .val (.ref bK), .val (.ref bL), .val (.ref bH), .val (.int (11 : Int32)), .val (.int (p2.toInt16.toInt32)), .unset, .unset] []))
    refine own_st (fun _ kS => XS.iload X0.here hx rfl (hb hby at_235) rfl kS) ?_
    show own_G p.tables e below _ (T0.setTop (mkF m 237 #[.val (.int p1), .val (.int p2), .val (.ref bK), .val (.ref bL), .val (.ref bH), .val (.int (11 : Int32)), .val (.int (p2.toInt16.toInt32)), .unset, .unset] [(.int (p2.toInt16.toInt32))]))
    refine own_st (fun _ kS => XS.istore X0.here hx rfl (hb hby at_237) rfl (l' := #[.val (.int p1), .val (.int p2), .val (.ref bK), .val (.ref bL), .val (.ref bH), .val (.int (11 : Int32)), .val (.int (p2.toInt16.toInt32)), .val (.int (p2.toInt16.toInt32)), .unset]) rfl kS) ?_
    show own_G p.tables e below _ (T0.setTop (mkF m 239 #[.val (.int p1), .val (.int p2), .val (.ref bK), .val (.ref bL), .val (.ref bH), .val (.int (11 : Int32)), .val (.int (p2.toInt16.toInt32)), .val (.int (p2.toInt16.toInt32)), .unset] []))
    refine own_st (fun _ kS => XS.iload X0.here hx rfl (hb hby at_239) rfl kS) ?_
    show own_G p.tables e below _ (T0.setTop (mkF m 241 #[.val (.int p1), .val (.int p2), .val (.ref bK), .val (.ref bL), .val (.ref bH), .val (.int (11 : Int32)), .val (.int (p2.toInt16.toInt32)), .val (.int (p2.toInt16.toInt32)), .unset] [(.int (p2.toInt16.toInt32))]))
    refine own_st (fun _ kS => XS.aloadN X0.here hx rfl (hb hby at_241) rfl rfl kS) ?_
    show own_G p.tables e below _ (T0.setTop (mkF m 242 #[.val (.int p1), .val (.int p2), .val (.ref bK), .val (.ref bL), .val (.ref bH), .val (.int (11 : Int32)), .val (.int (p2.toInt16.toInt32)), .val (.int (p2.toInt16.toInt32)), .unset] [(.ref bL), (.int (p2.toInt16.toInt32))]))
    refine own_st (fun _ kS => XS.iload X0.here hx rfl (hb hby at_242) rfl kS) ?_
    show own_G p.tables e below _ (T0.setTop (mkF m 244 #[.val (.int p1), .val (.int p2), .val (.ref bK), .val (.ref bL), .val (.ref bH), .val (.int (11 : Int32)), .val (.int (p2.toInt16.toInt32)), .val (.int (p2.toInt16.toInt32)), .unset] [(.int (11 : Int32)), (.ref bL), (.int (p2.toInt16.toInt32))]))
    obtain ⟨cl112, Ar112, qa112, qs112, qn112, qh112, qg112⟩ := id R_L
    refine own_st (fun _ kS => X0.iaload hx (j := (11 : Int32)) (v := (.int (0 : Int32))) (by rw [e0]; exact Ar112.1) (State.isArrayOf_alike hZ.alike Ar112.2.1) Ar112.2.2 (inb_of qs112 ⟨by decide, by decide⟩) (qh112.at (inb_of qs112 ⟨by decide, by decide⟩) rfl) (g := (mkF m 244 #[.val (.int p1), .val (.int p2), .val (.ref bK), .val (.ref bL), .val (.ref bH), .val (.int (11 : Int32)), .val (.int (p2.toInt16.toInt32)), .val (.int (p2.toInt16.toInt32)), .unset] [(.int (11 : Int32)), (.ref bL), (.int (p2.toInt16.toInt32))])) rfl rfl (hb hby at_244) _ kS) ?_
    show own_G p.tables e below _ (T0.setTop (mkF m 245 #[.val (.int p1), .val (.int p2), .val (.ref bK), .val (.ref bL), .val (.ref bH), .val (.int (11 : Int32)), .val (.int (p2.toInt16.toInt32)), .val (.int (p2.toInt16.toInt32)), .unset] [(.int (0 : Int32)), (.int (p2.toInt16.toInt32))]))
    by_cases hc245_113 : (p2.toInt16.toInt32) < (0 : Int32)
    · skip
      refine own_st (fun _ kS => XS.icmpNo X0.here hx rfl (hb hby at_245) rfl (tlt hc245_113).2.1 kS) ?_
      show own_G p.tables e below _ (T0.setTop (mkF m 248 #[.val (.int p1), .val (.int p2), .val (.ref bK), .val (.ref bL), .val (.ref bH), .val (.int (11 : Int32)), .val (.int (p2.toInt16.toInt32)), .val (.int (p2.toInt16.toInt32)), .unset] []))
      refine own_st (fun _ kS => XS.iconst X0.here hx rfl (hb hby at_248) kS) ?_
      show own_G p.tables e below _ (T0.setTop (mkF m 249 #[.val (.int p1), .val (.int p2), .val (.ref bK), .val (.ref bL), .val (.ref bH), .val (.int (11 : Int32)), .val (.int (p2.toInt16.toInt32)), .val (.int (p2.toInt16.toInt32)), .unset] [(.int (0 : Int32))]))
      refine own_st (fun _ kS => XS.istore X0.here hx rfl (hb hby at_249) rfl (l' := #[.val (.int p1), .val (.int p2), .val (.ref bK), .val (.ref bL), .val (.ref bH), .val (.int (11 : Int32)), .val (.int (p2.toInt16.toInt32)), .val (.int (p2.toInt16.toInt32)), .val (.int (0 : Int32))]) rfl kS) ?_
      show own_G p.tables e below _ (T0.setTop (mkF m 251 #[.val (.int p1), .val (.int p2), .val (.ref bK), .val (.ref bL), .val (.ref bH), .val (.int (11 : Int32)), .val (.int (p2.toInt16.toInt32)), .val (.int (p2.toInt16.toInt32)), .val (.int (0 : Int32))] []))
      refine own_st (fun _ kS => XS.goto X0.here hx rfl (pc0 := 251) (pc' := 273) rfl (hb hby at_251) (by decide) (by decide) kS) ?_
      show own_G p.tables e below _ (T0.setTop (mkF m 273 #[.val (.int p1), .val (.int p2), .val (.ref bK), .val (.ref bL), .val (.ref bH), .val (.int (11 : Int32)), .val (.int (p2.toInt16.toInt32)), .val (.int (p2.toInt16.toInt32)), .val (.int (0 : Int32))] []))
      refine own_st (fun _ kS => XS.aloadN X0.here hx rfl (hb hby at_273) rfl rfl kS) ?_
      show own_G p.tables e below _ (T0.setTop (mkF m 274 #[.val (.int p1), .val (.int p2), .val (.ref bK), .val (.ref bL), .val (.ref bH), .val (.int (11 : Int32)), .val (.int (p2.toInt16.toInt32)), .val (.int (p2.toInt16.toInt32)), .val (.int (0 : Int32))] [(.ref bK)]))
      refine own_st (fun _ kS => XS.iload X0.here hx rfl (hb hby at_274) rfl kS) ?_
      show own_G p.tables e below _ (T0.setTop (mkF m 276 #[.val (.int p1), .val (.int p2), .val (.ref bK), .val (.ref bL), .val (.ref bH), .val (.int (11 : Int32)), .val (.int (p2.toInt16.toInt32)), .val (.int (p2.toInt16.toInt32)), .val (.int (0 : Int32))] [(.int (11 : Int32)), (.ref bK)]))
      obtain ⟨cl114, Ar114, qa114, qs114, qn114, qh114, qg114⟩ := id R_K
      refine own_st (fun _ kS => X0.aaload hx (j := (11 : Int32)) (v := (.ref w_LIST_GROUPS)) (by rw [e0]; exact Ar114.1) (State.isArrayOf_alike hZ.alike Ar114.2.1) rfl Ar114.2.2 (inb_of qs114 ⟨by decide, by decide⟩) (qh114.at (inb_of qs114 ⟨by decide, by decide⟩) rfl) (g := (mkF m 276 #[.val (.int p1), .val (.int p2), .val (.ref bK), .val (.ref bL), .val (.ref bH), .val (.int (11 : Int32)), .val (.int (p2.toInt16.toInt32)), .val (.int (p2.toInt16.toInt32)), .val (.int (0 : Int32))] [(.int (11 : Int32)), (.ref bK)])) rfl rfl (hb hby at_276) _ kS) ?_
      show own_G p.tables e below _ (T0.setTop (mkF m 277 #[.val (.int p1), .val (.int p2), .val (.ref bK), .val (.ref bL), .val (.ref bH), .val (.int (11 : Int32)), .val (.int (p2.toInt16.toInt32)), .val (.int (p2.toInt16.toInt32)), .val (.int (0 : Int32))] [(.ref w_LIST_GROUPS)]))
      refine own_st (fun _ kS => XS.iload X0.here hx rfl (hb hby at_277) rfl kS) ?_
      show own_G p.tables e below _ (T0.setTop (mkF m 279 #[.val (.int p1), .val (.int p2), .val (.ref bK), .val (.ref bL), .val (.ref bH), .val (.int (11 : Int32)), .val (.int (p2.toInt16.toInt32)), .val (.int (p2.toInt16.toInt32)), .val (.int (0 : Int32))] [(.int (p2.toInt16.toInt32)), (.ref w_LIST_GROUPS)]))
      obtain ⟨cq115, kq115, q115a, q115b, q115c⟩ := isOf hZ e0 (Exa.ext O0.2 E_LIST_GROUPS)
      obtain ⟨_, _, ⟨T115, L115, k115, n115⟩, -, X115, ⟨Lc115, hQ115, l115, y115, z115⟩, st115⟩ := X0.virtualBack hx (y := (⟨"com/example/loose_grip/loosegrip/wire/ApiKey", "supports", "(S)Z"⟩ : MethodName)) (z := (⟨"com/example/loose_grip/loosegrip/wire/ApiKey", "supports", "(S)Z"⟩ : MethodName)) hown (mvT hZ (hw _ (List.mem_of_getElem? (i := 32) rfl))) (mvT hZ (hw _ (List.mem_of_getElem? (i := 33) rfl))) (notFace_of_selects (args := #[]) (mvT hZ (hw _ (List.mem_of_getElem? (i := 35) rfl)))) (mvT hZ (hw _ (List.mem_of_getElem? (i := 35) rfl))) (mvT hZ (hw _ (List.mem_of_getElem? (i := 34) rfl))) (by decide) (backOf (W := 0) (rm_sup_lt l Z a0 hw [] w_LIST_GROUPS (p2.toInt16.toInt32) (0 : Int32) h0 n0 Z0 O0 F_LIST_GROUPS_minVersion hc245_113) hZ (hw _ (List.mem_of_getElem? (i := 36) rfl)) (hw _ (List.mem_of_getElem? (i := 3) rfl)) (by decide) (by decide)) q115a q115c (g := (mkF m 279 #[.val (.int p1), .val (.int p2), .val (.ref bK), .val (.ref bL), .val (.ref bH), .val (.int (11 : Int32)), .val (.int (p2.toInt16.toInt32)), .val (.int (p2.toInt16.toInt32)), .val (.int (0 : Int32))] [(.int (p2.toInt16.toInt32)), (.ref w_LIST_GROUPS)])) rfl (by rw [hml]; rfl) (Steps.refl _) (argsL := [(.int (p2.toInt16.toInt32))]) (rest := []) (lenOf own_pd0 rfl) rfl (by show 2 * 0 + _ ≤ _; exact Nat.le_of_eq rfl) (hb hby at_279) (fun _ _ => ⟨rfl, e0, (by decide : 3 + 0 ≤ _), (by decide : 39 + 0 ≤ _)⟩)
      dsimp only [Pt.U, Pt.locs, Pt.cells, Pt.slots] at X115 l115 y115 z115 st115 hQ115
      subst l115 y115 z115
      obtain ⟨rfl, Nq115, eq115⟩ := hQ115
      have N115 := Fr.app N0 Nq115
      refine own_tr st115 ?_
      show own_G p.tables e below _ (T115.setTop (mkF m 282 #[.val (.int p1), .val (.int p2), .val (.ref bK), .val (.ref bL), .val (.ref bH), .val (.int (11 : Int32)), .val (.int (p2.toInt16.toInt32)), .val (.int (p2.toInt16.toInt32)), .val (.int (0 : Int32))] [(.int (0 : Int32))]))
      refine own_st (fun _ kS => XS.iload X115.here hx rfl (hb hby at_282) rfl kS) ?_
      show own_G p.tables e below _ (T115.setTop (mkF m 284 #[.val (.int p1), .val (.int p2), .val (.ref bK), .val (.ref bL), .val (.ref bH), .val (.int (11 : Int32)), .val (.int (p2.toInt16.toInt32)), .val (.int (p2.toInt16.toInt32)), .val (.int (0 : Int32))] [(.int (0 : Int32)), (.int (0 : Int32))]))
      refine own_st (fun _ kS => XS.icmpNo X115.here hx rfl (hb hby at_284) rfl (teq (by decide : (0 : Int32) = (0 : Int32))).2 kS) ?_
      show own_G p.tables e below _ (T115.setTop (mkF m 287 #[.val (.int p1), .val (.int p2), .val (.ref bK), .val (.ref bL), .val (.ref bH), .val (.int (11 : Int32)), .val (.int (p2.toInt16.toInt32)), .val (.int (p2.toInt16.toInt32)), .val (.int (0 : Int32))] []))
      refine own_st (fun _ kS => XS.iconst X115.here hx rfl (hb hby at_287) kS) ?_
      show own_G p.tables e below _ (T115.setTop (mkF m 288 #[.val (.int p1), .val (.int p2), .val (.ref bK), .val (.ref bL), .val (.ref bH), .val (.int (11 : Int32)), .val (.int (p2.toInt16.toInt32)), .val (.int (p2.toInt16.toInt32)), .val (.int (0 : Int32))] [(.int (1 : Int32))]))
      refine own_st (fun _ kS => XS.goto X115.here hx rfl (pc0 := 288) (pc' := 292) rfl (hb hby at_288) (by decide) (by decide) kS) ?_
      show own_G p.tables e below _ (T115.setTop (mkF m 292 #[.val (.int p1), .val (.int p2), .val (.ref bK), .val (.ref bL), .val (.ref bH), .val (.int (11 : Int32)), .val (.int (p2.toInt16.toInt32)), .val (.int (p2.toInt16.toInt32)), .val (.int (0 : Int32))] [(.int (1 : Int32))]))
      exact own_retN X115 hx hlk (t := .boolean) hret (by simp) (hb hby at_292) (by decide) (by decide) (v' := (1 : Int32)) rfl (by rw [eq115]; exact ⟨rfl, N115⟩)
    · skip
      refine own_st (fun _ kS => XS.icmpYes X0.here hx rfl (pc0 := 245) (pc' := 254) rfl (hb hby at_245) rfl (flt hc245_113).2.1 (by decide) (by decide) kS) ?_
      show own_G p.tables e below _ (T0.setTop (mkF m 254 #[.val (.int p1), .val (.int p2), .val (.ref bK), .val (.ref bL), .val (.ref bH), .val (.int (11 : Int32)), .val (.int (p2.toInt16.toInt32)), .val (.int (p2.toInt16.toInt32)), .unset] []))
      refine own_st (fun _ kS => XS.iload X0.here hx rfl (hb hby at_254) rfl kS) ?_
      show own_G p.tables e below _ (T0.setTop (mkF m 256 #[.val (.int p1), .val (.int p2), .val (.ref bK), .val (.ref bL), .val (.ref bH), .val (.int (11 : Int32)), .val (.int (p2.toInt16.toInt32)), .val (.int (p2.toInt16.toInt32)), .unset] [(.int (p2.toInt16.toInt32))]))
      refine own_st (fun _ kS => XS.aload X0.here hx rfl (hb hby at_256) rfl rfl kS) ?_
      show own_G p.tables e below _ (T0.setTop (mkF m 258 #[.val (.int p1), .val (.int p2), .val (.ref bK), .val (.ref bL), .val (.ref bH), .val (.int (11 : Int32)), .val (.int (p2.toInt16.toInt32)), .val (.int (p2.toInt16.toInt32)), .unset] [(.ref bH), (.int (p2.toInt16.toInt32))]))
      refine own_st (fun _ kS => XS.iload X0.here hx rfl (hb hby at_258) rfl kS) ?_
      show own_G p.tables e below _ (T0.setTop (mkF m 260 #[.val (.int p1), .val (.int p2), .val (.ref bK), .val (.ref bL), .val (.ref bH), .val (.int (11 : Int32)), .val (.int (p2.toInt16.toInt32)), .val (.int (p2.toInt16.toInt32)), .unset] [(.int (11 : Int32)), (.ref bH), (.int (p2.toInt16.toInt32))]))
      obtain ⟨cl116, Ar116, qa116, qs116, qn116, qh116, qg116⟩ := id R_H
      refine own_st (fun _ kS => X0.iaload hx (j := (11 : Int32)) (v := (.int (2 : Int32))) (by rw [e0]; exact Ar116.1) (State.isArrayOf_alike hZ.alike Ar116.2.1) Ar116.2.2 (inb_of qs116 ⟨by decide, by decide⟩) (qh116.at (inb_of qs116 ⟨by decide, by decide⟩) rfl) (g := (mkF m 260 #[.val (.int p1), .val (.int p2), .val (.ref bK), .val (.ref bL), .val (.ref bH), .val (.int (11 : Int32)), .val (.int (p2.toInt16.toInt32)), .val (.int (p2.toInt16.toInt32)), .unset] [(.int (11 : Int32)), (.ref bH), (.int (p2.toInt16.toInt32))])) rfl rfl (hb hby at_260) _ kS) ?_
      show own_G p.tables e below _ (T0.setTop (mkF m 261 #[.val (.int p1), .val (.int p2), .val (.ref bK), .val (.ref bL), .val (.ref bH), .val (.int (11 : Int32)), .val (.int (p2.toInt16.toInt32)), .val (.int (p2.toInt16.toInt32)), .unset] [(.int (2 : Int32)), (.int (p2.toInt16.toInt32))]))
      by_cases hc261_117 : (2 : Int32) < (p2.toInt16.toInt32)
      · skip
        refine own_st (fun _ kS => XS.icmpNo X0.here hx rfl (hb hby at_261) rfl (tlt hc261_117).2.2.2 kS) ?_
        show own_G p.tables e below _ (T0.setTop (mkF m 264 #[.val (.int p1), .val (.int p2), .val (.ref bK), .val (.ref bL), .val (.ref bH), .val (.int (11 : Int32)), .val (.int (p2.toInt16.toInt32)), .val (.int (p2.toInt16.toInt32)), .unset] []))
        refine own_st (fun _ kS => XS.iconst X0.here hx rfl (hb hby at_264) kS) ?_
        show own_G p.tables e below _ (T0.setTop (mkF m 265 #[.val (.int p1), .val (.int p2), .val (.ref bK), .val (.ref bL), .val (.ref bH), .val (.int (11 : Int32)), .val (.int (p2.toInt16.toInt32)), .val (.int (p2.toInt16.toInt32)), .unset] [(.int (0 : Int32))]))
        refine own_st (fun _ kS => XS.istore X0.here hx rfl (hb hby at_265) rfl (l' := #[.val (.int p1), .val (.int p2), .val (.ref bK), .val (.ref bL), .val (.ref bH), .val (.int (11 : Int32)), .val (.int (p2.toInt16.toInt32)), .val (.int (p2.toInt16.toInt32)), .val (.int (0 : Int32))]) rfl kS) ?_
        show own_G p.tables e below _ (T0.setTop (mkF m 267 #[.val (.int p1), .val (.int p2), .val (.ref bK), .val (.ref bL), .val (.ref bH), .val (.int (11 : Int32)), .val (.int (p2.toInt16.toInt32)), .val (.int (p2.toInt16.toInt32)), .val (.int (0 : Int32))] []))
        refine own_st (fun _ kS => XS.goto X0.here hx rfl (pc0 := 267) (pc' := 273) rfl (hb hby at_267) (by decide) (by decide) kS) ?_
        show own_G p.tables e below _ (T0.setTop (mkF m 273 #[.val (.int p1), .val (.int p2), .val (.ref bK), .val (.ref bL), .val (.ref bH), .val (.int (11 : Int32)), .val (.int (p2.toInt16.toInt32)), .val (.int (p2.toInt16.toInt32)), .val (.int (0 : Int32))] []))
        refine own_st (fun _ kS => XS.aloadN X0.here hx rfl (hb hby at_273) rfl rfl kS) ?_
        show own_G p.tables e below _ (T0.setTop (mkF m 274 #[.val (.int p1), .val (.int p2), .val (.ref bK), .val (.ref bL), .val (.ref bH), .val (.int (11 : Int32)), .val (.int (p2.toInt16.toInt32)), .val (.int (p2.toInt16.toInt32)), .val (.int (0 : Int32))] [(.ref bK)]))
        refine own_st (fun _ kS => XS.iload X0.here hx rfl (hb hby at_274) rfl kS) ?_
        show own_G p.tables e below _ (T0.setTop (mkF m 276 #[.val (.int p1), .val (.int p2), .val (.ref bK), .val (.ref bL), .val (.ref bH), .val (.int (11 : Int32)), .val (.int (p2.toInt16.toInt32)), .val (.int (p2.toInt16.toInt32)), .val (.int (0 : Int32))] [(.int (11 : Int32)), (.ref bK)]))
        obtain ⟨cl118, Ar118, qa118, qs118, qn118, qh118, qg118⟩ := id R_K
        refine own_st (fun _ kS => X0.aaload hx (j := (11 : Int32)) (v := (.ref w_LIST_GROUPS)) (by rw [e0]; exact Ar118.1) (State.isArrayOf_alike hZ.alike Ar118.2.1) rfl Ar118.2.2 (inb_of qs118 ⟨by decide, by decide⟩) (qh118.at (inb_of qs118 ⟨by decide, by decide⟩) rfl) (g := (mkF m 276 #[.val (.int p1), .val (.int p2), .val (.ref bK), .val (.ref bL), .val (.ref bH), .val (.int (11 : Int32)), .val (.int (p2.toInt16.toInt32)), .val (.int (p2.toInt16.toInt32)), .val (.int (0 : Int32))] [(.int (11 : Int32)), (.ref bK)])) rfl rfl (hb hby at_276) _ kS) ?_
        show own_G p.tables e below _ (T0.setTop (mkF m 277 #[.val (.int p1), .val (.int p2), .val (.ref bK), .val (.ref bL), .val (.ref bH), .val (.int (11 : Int32)), .val (.int (p2.toInt16.toInt32)), .val (.int (p2.toInt16.toInt32)), .val (.int (0 : Int32))] [(.ref w_LIST_GROUPS)]))
        refine own_st (fun _ kS => XS.iload X0.here hx rfl (hb hby at_277) rfl kS) ?_
        show own_G p.tables e below _ (T0.setTop (mkF m 279 #[.val (.int p1), .val (.int p2), .val (.ref bK), .val (.ref bL), .val (.ref bH), .val (.int (11 : Int32)), .val (.int (p2.toInt16.toInt32)), .val (.int (p2.toInt16.toInt32)), .val (.int (0 : Int32))] [(.int (p2.toInt16.toInt32)), (.ref w_LIST_GROUPS)]))
        obtain ⟨cq119, kq119, q119a, q119b, q119c⟩ := isOf hZ e0 (Exa.ext O0.2 E_LIST_GROUPS)
        obtain ⟨_, _, ⟨T119, L119, k119, n119⟩, -, X119, ⟨Lc119, hQ119, l119, y119, z119⟩, st119⟩ := X0.virtualBack hx (y := (⟨"com/example/loose_grip/loosegrip/wire/ApiKey", "supports", "(S)Z"⟩ : MethodName)) (z := (⟨"com/example/loose_grip/loosegrip/wire/ApiKey", "supports", "(S)Z"⟩ : MethodName)) hown (mvT hZ (hw _ (List.mem_of_getElem? (i := 32) rfl))) (mvT hZ (hw _ (List.mem_of_getElem? (i := 33) rfl))) (notFace_of_selects (args := #[]) (mvT hZ (hw _ (List.mem_of_getElem? (i := 35) rfl)))) (mvT hZ (hw _ (List.mem_of_getElem? (i := 35) rfl))) (mvT hZ (hw _ (List.mem_of_getElem? (i := 34) rfl))) (by decide) (backOf (W := 0) (rm_sup_gt l Z a0 hw [] w_LIST_GROUPS (p2.toInt16.toInt32) (0 : Int32) (2 : Int32) h0 n0 Z0 O0 F_LIST_GROUPS_minVersion F_LIST_GROUPS_maxVersion hc245_113 hc261_117) hZ (hw _ (List.mem_of_getElem? (i := 36) rfl)) (hw _ (List.mem_of_getElem? (i := 3) rfl)) (by decide) (by decide)) q119a q119c (g := (mkF m 279 #[.val (.int p1), .val (.int p2), .val (.ref bK), .val (.ref bL), .val (.ref bH), .val (.int (11 : Int32)), .val (.int (p2.toInt16.toInt32)), .val (.int (p2.toInt16.toInt32)), .val (.int (0 : Int32))] [(.int (p2.toInt16.toInt32)), (.ref w_LIST_GROUPS)])) rfl (by rw [hml]; rfl) (Steps.refl _) (argsL := [(.int (p2.toInt16.toInt32))]) (rest := []) (lenOf own_pd0 rfl) rfl (by show 2 * 0 + _ ≤ _; exact Nat.le_of_eq rfl) (hb hby at_279) (fun _ _ => ⟨rfl, e0, (by decide : 3 + 0 ≤ _), (by decide : 39 + 0 ≤ _)⟩)
        dsimp only [Pt.U, Pt.locs, Pt.cells, Pt.slots] at X119 l119 y119 z119 st119 hQ119
        subst l119 y119 z119
        obtain ⟨rfl, Nq119, eq119⟩ := hQ119
        have N119 := Fr.app N0 Nq119
        refine own_tr st119 ?_
        show own_G p.tables e below _ (T119.setTop (mkF m 282 #[.val (.int p1), .val (.int p2), .val (.ref bK), .val (.ref bL), .val (.ref bH), .val (.int (11 : Int32)), .val (.int (p2.toInt16.toInt32)), .val (.int (p2.toInt16.toInt32)), .val (.int (0 : Int32))] [(.int (0 : Int32))]))
        refine own_st (fun _ kS => XS.iload X119.here hx rfl (hb hby at_282) rfl kS) ?_
        show own_G p.tables e below _ (T119.setTop (mkF m 284 #[.val (.int p1), .val (.int p2), .val (.ref bK), .val (.ref bL), .val (.ref bH), .val (.int (11 : Int32)), .val (.int (p2.toInt16.toInt32)), .val (.int (p2.toInt16.toInt32)), .val (.int (0 : Int32))] [(.int (0 : Int32)), (.int (0 : Int32))]))
        refine own_st (fun _ kS => XS.icmpNo X119.here hx rfl (hb hby at_284) rfl (teq (by decide : (0 : Int32) = (0 : Int32))).2 kS) ?_
        show own_G p.tables e below _ (T119.setTop (mkF m 287 #[.val (.int p1), .val (.int p2), .val (.ref bK), .val (.ref bL), .val (.ref bH), .val (.int (11 : Int32)), .val (.int (p2.toInt16.toInt32)), .val (.int (p2.toInt16.toInt32)), .val (.int (0 : Int32))] []))
        refine own_st (fun _ kS => XS.iconst X119.here hx rfl (hb hby at_287) kS) ?_
        show own_G p.tables e below _ (T119.setTop (mkF m 288 #[.val (.int p1), .val (.int p2), .val (.ref bK), .val (.ref bL), .val (.ref bH), .val (.int (11 : Int32)), .val (.int (p2.toInt16.toInt32)), .val (.int (p2.toInt16.toInt32)), .val (.int (0 : Int32))] [(.int (1 : Int32))]))
        refine own_st (fun _ kS => XS.goto X119.here hx rfl (pc0 := 288) (pc' := 292) rfl (hb hby at_288) (by decide) (by decide) kS) ?_
        show own_G p.tables e below _ (T119.setTop (mkF m 292 #[.val (.int p1), .val (.int p2), .val (.ref bK), .val (.ref bL), .val (.ref bH), .val (.int (11 : Int32)), .val (.int (p2.toInt16.toInt32)), .val (.int (p2.toInt16.toInt32)), .val (.int (0 : Int32))] [(.int (1 : Int32))]))
        exact own_retN X119 hx hlk (t := .boolean) hret (by simp) (hb hby at_292) (by decide) (by decide) (v' := (1 : Int32)) rfl (by rw [eq119]; exact ⟨rfl, N119⟩)
      · skip
        refine own_st (fun _ kS => XS.icmpYes X0.here hx rfl (pc0 := 261) (pc' := 270) rfl (hb hby at_261) rfl (flt hc261_117).2.2.2 (by decide) (by decide) kS) ?_
        show own_G p.tables e below _ (T0.setTop (mkF m 270 #[.val (.int p1), .val (.int p2), .val (.ref bK), .val (.ref bL), .val (.ref bH), .val (.int (11 : Int32)), .val (.int (p2.toInt16.toInt32)), .val (.int (p2.toInt16.toInt32)), .unset] []))
        refine own_st (fun _ kS => XS.iconst X0.here hx rfl (hb hby at_270) kS) ?_
        show own_G p.tables e below _ (T0.setTop (mkF m 271 #[.val (.int p1), .val (.int p2), .val (.ref bK), .val (.ref bL), .val (.ref bH), .val (.int (11 : Int32)), .val (.int (p2.toInt16.toInt32)), .val (.int (p2.toInt16.toInt32)), .unset] [(.int (1 : Int32))]))
        refine own_st (fun _ kS => XS.istore X0.here hx rfl (hb hby at_271) rfl (l' := #[.val (.int p1), .val (.int p2), .val (.ref bK), .val (.ref bL), .val (.ref bH), .val (.int (11 : Int32)), .val (.int (p2.toInt16.toInt32)), .val (.int (p2.toInt16.toInt32)), .val (.int (1 : Int32))]) rfl kS) ?_
        show own_G p.tables e below _ (T0.setTop (mkF m 273 #[.val (.int p1), .val (.int p2), .val (.ref bK), .val (.ref bL), .val (.ref bH), .val (.int (11 : Int32)), .val (.int (p2.toInt16.toInt32)), .val (.int (p2.toInt16.toInt32)), .val (.int (1 : Int32))] []))
        refine own_st (fun _ kS => XS.aloadN X0.here hx rfl (hb hby at_273) rfl rfl kS) ?_
        show own_G p.tables e below _ (T0.setTop (mkF m 274 #[.val (.int p1), .val (.int p2), .val (.ref bK), .val (.ref bL), .val (.ref bH), .val (.int (11 : Int32)), .val (.int (p2.toInt16.toInt32)), .val (.int (p2.toInt16.toInt32)), .val (.int (1 : Int32))] [(.ref bK)]))
        refine own_st (fun _ kS => XS.iload X0.here hx rfl (hb hby at_274) rfl kS) ?_
        show own_G p.tables e below _ (T0.setTop (mkF m 276 #[.val (.int p1), .val (.int p2), .val (.ref bK), .val (.ref bL), .val (.ref bH), .val (.int (11 : Int32)), .val (.int (p2.toInt16.toInt32)), .val (.int (p2.toInt16.toInt32)), .val (.int (1 : Int32))] [(.int (11 : Int32)), (.ref bK)]))
        obtain ⟨cl120, Ar120, qa120, qs120, qn120, qh120, qg120⟩ := id R_K
        refine own_st (fun _ kS => X0.aaload hx (j := (11 : Int32)) (v := (.ref w_LIST_GROUPS)) (by rw [e0]; exact Ar120.1) (State.isArrayOf_alike hZ.alike Ar120.2.1) rfl Ar120.2.2 (inb_of qs120 ⟨by decide, by decide⟩) (qh120.at (inb_of qs120 ⟨by decide, by decide⟩) rfl) (g := (mkF m 276 #[.val (.int p1), .val (.int p2), .val (.ref bK), .val (.ref bL), .val (.ref bH), .val (.int (11 : Int32)), .val (.int (p2.toInt16.toInt32)), .val (.int (p2.toInt16.toInt32)), .val (.int (1 : Int32))] [(.int (11 : Int32)), (.ref bK)])) rfl rfl (hb hby at_276) _ kS) ?_
        show own_G p.tables e below _ (T0.setTop (mkF m 277 #[.val (.int p1), .val (.int p2), .val (.ref bK), .val (.ref bL), .val (.ref bH), .val (.int (11 : Int32)), .val (.int (p2.toInt16.toInt32)), .val (.int (p2.toInt16.toInt32)), .val (.int (1 : Int32))] [(.ref w_LIST_GROUPS)]))
        refine own_st (fun _ kS => XS.iload X0.here hx rfl (hb hby at_277) rfl kS) ?_
        show own_G p.tables e below _ (T0.setTop (mkF m 279 #[.val (.int p1), .val (.int p2), .val (.ref bK), .val (.ref bL), .val (.ref bH), .val (.int (11 : Int32)), .val (.int (p2.toInt16.toInt32)), .val (.int (p2.toInt16.toInt32)), .val (.int (1 : Int32))] [(.int (p2.toInt16.toInt32)), (.ref w_LIST_GROUPS)]))
        obtain ⟨cq121, kq121, q121a, q121b, q121c⟩ := isOf hZ e0 (Exa.ext O0.2 E_LIST_GROUPS)
        obtain ⟨_, _, ⟨T121, L121, k121, n121⟩, -, X121, ⟨Lc121, hQ121, l121, y121, z121⟩, st121⟩ := X0.virtualBack hx (y := (⟨"com/example/loose_grip/loosegrip/wire/ApiKey", "supports", "(S)Z"⟩ : MethodName)) (z := (⟨"com/example/loose_grip/loosegrip/wire/ApiKey", "supports", "(S)Z"⟩ : MethodName)) hown (mvT hZ (hw _ (List.mem_of_getElem? (i := 32) rfl))) (mvT hZ (hw _ (List.mem_of_getElem? (i := 33) rfl))) (notFace_of_selects (args := #[]) (mvT hZ (hw _ (List.mem_of_getElem? (i := 35) rfl)))) (mvT hZ (hw _ (List.mem_of_getElem? (i := 35) rfl))) (mvT hZ (hw _ (List.mem_of_getElem? (i := 34) rfl))) (by decide) (backOf (W := 0) (rm_sup_in l Z a0 hw [] w_LIST_GROUPS (p2.toInt16.toInt32) (0 : Int32) (2 : Int32) h0 n0 Z0 O0 F_LIST_GROUPS_minVersion F_LIST_GROUPS_maxVersion hc245_113 hc261_117) hZ (hw _ (List.mem_of_getElem? (i := 36) rfl)) (hw _ (List.mem_of_getElem? (i := 3) rfl)) (by decide) (by decide)) q121a q121c (g := (mkF m 279 #[.val (.int p1), .val (.int p2), .val (.ref bK), .val (.ref bL), .val (.ref bH), .val (.int (11 : Int32)), .val (.int (p2.toInt16.toInt32)), .val (.int (p2.toInt16.toInt32)), .val (.int (1 : Int32))] [(.int (p2.toInt16.toInt32)), (.ref w_LIST_GROUPS)])) rfl (by rw [hml]; rfl) (Steps.refl _) (argsL := [(.int (p2.toInt16.toInt32))]) (rest := []) (lenOf own_pd0 rfl) rfl (by show 2 * 0 + _ ≤ _; exact Nat.le_of_eq rfl) (hb hby at_279) (fun _ _ => ⟨rfl, e0, (by decide : 3 + 0 ≤ _), (by decide : 39 + 0 ≤ _)⟩)
        dsimp only [Pt.U, Pt.locs, Pt.cells, Pt.slots] at X121 l121 y121 z121 st121 hQ121
        subst l121 y121 z121
        obtain ⟨rfl, Nq121, eq121⟩ := hQ121
        have N121 := Fr.app N0 Nq121
        refine own_tr st121 ?_
        show own_G p.tables e below _ (T121.setTop (mkF m 282 #[.val (.int p1), .val (.int p2), .val (.ref bK), .val (.ref bL), .val (.ref bH), .val (.int (11 : Int32)), .val (.int (p2.toInt16.toInt32)), .val (.int (p2.toInt16.toInt32)), .val (.int (1 : Int32))] [(.int (1 : Int32))]))
        refine own_st (fun _ kS => XS.iload X121.here hx rfl (hb hby at_282) rfl kS) ?_
        show own_G p.tables e below _ (T121.setTop (mkF m 284 #[.val (.int p1), .val (.int p2), .val (.ref bK), .val (.ref bL), .val (.ref bH), .val (.int (11 : Int32)), .val (.int (p2.toInt16.toInt32)), .val (.int (p2.toInt16.toInt32)), .val (.int (1 : Int32))] [(.int (1 : Int32)), (.int (1 : Int32))]))
        refine own_st (fun _ kS => XS.icmpNo X121.here hx rfl (hb hby at_284) rfl (teq (by decide : (1 : Int32) = (1 : Int32))).2 kS) ?_
        show own_G p.tables e below _ (T121.setTop (mkF m 287 #[.val (.int p1), .val (.int p2), .val (.ref bK), .val (.ref bL), .val (.ref bH), .val (.int (11 : Int32)), .val (.int (p2.toInt16.toInt32)), .val (.int (p2.toInt16.toInt32)), .val (.int (1 : Int32))] []))
        refine own_st (fun _ kS => XS.iconst X121.here hx rfl (hb hby at_287) kS) ?_
        show own_G p.tables e below _ (T121.setTop (mkF m 288 #[.val (.int p1), .val (.int p2), .val (.ref bK), .val (.ref bL), .val (.ref bH), .val (.int (11 : Int32)), .val (.int (p2.toInt16.toInt32)), .val (.int (p2.toInt16.toInt32)), .val (.int (1 : Int32))] [(.int (1 : Int32))]))
        refine own_st (fun _ kS => XS.goto X121.here hx rfl (pc0 := 288) (pc' := 292) rfl (hb hby at_288) (by decide) (by decide) kS) ?_
        show own_G p.tables e below _ (T121.setTop (mkF m 292 #[.val (.int p1), .val (.int p2), .val (.ref bK), .val (.ref bL), .val (.ref bH), .val (.int (11 : Int32)), .val (.int (p2.toInt16.toInt32)), .val (.int (p2.toInt16.toInt32)), .val (.int (1 : Int32))] [(.int (1 : Int32))]))
        exact own_retN X121 hx hlk (t := .boolean) hret (by simp) (hb hby at_292) (by decide) (by decide) (v' := (1 : Int32)) rfl (by rw [eq121]; exact ⟨rfl, N121⟩)
  · rw [hk1]
    show own_G p.tables e below _ (T0.setTop (mkF m 229 #[.val (.int p1), .val (.int p2), .val (.ref bK), .val (.ref bL), .val (.ref bH), .unset, .unset, .unset, .unset] [(.int (12 : Int32))]))
    refine own_st (fun _ kS => XS.istore X0.here hx rfl (hb hby at_229) rfl (l' := #[.val (.int p1), .val (.int p2), .val (.ref bK), .val (.ref bL), .val (.ref bH), .val (.int (12 : Int32)), .unset, .unset, .unset]) rfl kS) ?_
    show own_G p.tables e below _ (T0.setTop (mkF m 231 #[.val (.int p1), .val (.int p2), .val (.ref bK), .val (.ref bL), .val (.ref bH), .val (.int (12 : Int32)), .unset, .unset, .unset] []))
    refine own_st (fun _ kS => XS.iloadN X0.here hx rfl (hb hby at_231) rfl kS) ?_
    show own_G p.tables e below _ (T0.setTop (mkF m 232 #[.val (.int p1), .val (.int p2), .val (.ref bK), .val (.ref bL), .val (.ref bH), .val (.int (12 : Int32)), .unset, .unset, .unset] [(.int p2)]))
    refine own_st (fun _ kS => XT.i2s X0.here hx rfl (hb hby at_232) rfl kS) ?_
    show own_G p.tables e below _ (T0.setTop (mkF m 233 #[.val (.int p1), .val (.int p2), .val (.ref bK), .val (.ref bL), .val (.ref bH), .val (.int (12 : Int32)), .unset, .unset, .unset] [(.int (p2.toInt16.toInt32))]))
    refine own_st (fun _ kS => XS.istore X0.here hx rfl (hb hby at_233) rfl (l' := #[.val (.int p1), .val (.int p2), .val (.ref bK), .val (.ref bL), .val (.ref bH), .val (.int (12 : Int32)), .val (.int (p2.toInt16.toInt32)), .unset, .unset]) rfl kS) ?_
    show own_G p.tables e below _ (T0.setTop (mkF m 235 #[.val (.int p1), .val (.int p2), .val (.ref bK), .val (.ref bL), .val (.ref bH), .val (.int (12 : Int32)), .val (.int (p2.toInt16.toInt32)), .unset, .unset] []))
    refine own_st (fun _ kS => XS.iload X0.here hx rfl (hb hby at_235) rfl kS) ?_
    show own_G p.tables e below _ (T0.setTop (mkF m 237 #[.val (.int p1), .val (.int p2), .val (.ref bK), .val (.ref bL), .val (.ref bH), .val (.int (12 : Int32)), .val (.int (p2.toInt16.toInt32)), .unset, .unset] [(.int (p2.toInt16.toInt32))]))
    refine own_st (fun _ kS => XS.istore X0.here hx rfl (hb hby at_237) rfl (l' := #[.val (.int p1), .val (.int p2), .val (.ref bK), .val (.ref bL), .val (.ref bH), .val (.int (12 : Int32)), .val (.int (p2.toInt16.toInt32)), .val (.int (p2.toInt16.toInt32)), .unset]) rfl kS) ?_
    show own_G p.tables e below _ (T0.setTop (mkF m 239 #[.val (.int p1), .val (.int p2), .val (.ref bK), .val (.ref bL), .val (.ref bH), .val (.int (12 : Int32)), .val (.int (p2.toInt16.toInt32)), .val (.int (p2.toInt16.toInt32)), .unset] []))
    refine own_st (fun _ kS => XS.iload X0.here hx rfl (hb hby at_239) rfl kS) ?_
    show own_G p.tables e below _ (T0.setTop (mkF m 241 #[.val (.int p1), .val (.int p2), .val (.ref bK), .val (.ref bL), .val (.ref bH), .val (.int (12 : Int32)), .val (.int (p2.toInt16.toInt32)), .val (.int (p2.toInt16.toInt32)), .unset] [(.int (p2.toInt16.toInt32))]))
    refine own_st (fun _ kS => XS.aloadN X0.here hx rfl (hb hby at_241) rfl rfl kS) ?_
    show own_G p.tables e below _ (T0.setTop (mkF m 242 #[.val (.int p1), .val (.int p2), .val (.ref bK), .val (.ref bL), .val (.ref bH), .val (.int (12 : Int32)), .val (.int (p2.toInt16.toInt32)), .val (.int (p2.toInt16.toInt32)), .unset] [(.ref bL), (.int (p2.toInt16.toInt32))]))
    refine own_st (fun _ kS => XS.iload X0.here hx rfl (hb hby at_242) rfl kS) ?_
    show own_G p.tables e below _ (T0.setTop (mkF m 244 #[.val (.int p1), .val (.int p2), .val (.ref bK), .val (.ref bL), .val (.ref bH), .val (.int (12 : Int32)), .val (.int (p2.toInt16.toInt32)), .val (.int (p2.toInt16.toInt32)), .unset] [(.int (12 : Int32)), (.ref bL), (.int (p2.toInt16.toInt32))]))
    obtain ⟨cl122, Ar122, qa122, qs122, qn122, qh122, qg122⟩ := id R_L
    refine own_st (fun _ kS => X0.iaload hx (j := (12 : Int32)) (v := (.int (0 : Int32))) (by rw [e0]; exact Ar122.1) (State.isArrayOf_alike hZ.alike Ar122.2.1) Ar122.2.2 (inb_of qs122 ⟨by decide, by decide⟩) (qh122.at (inb_of qs122 ⟨by decide, by decide⟩) rfl) (g := (mkF m 244 #[.val (.int p1), .val (.int p2), .val (.ref bK), .val (.ref bL), .val (.ref bH), .val (.int (12 : Int32)), .val (.int (p2.toInt16.toInt32)), .val (.int (p2.toInt16.toInt32)), .unset] [(.int (12 : Int32)), (.ref bL), (.int (p2.toInt16.toInt32))])) rfl rfl (hb hby at_244) _ kS) ?_
    show own_G p.tables e below _ (T0.setTop (mkF m 245 #[.val (.int p1), .val (.int p2), .val (.ref bK), .val (.ref bL), .val (.ref bH), .val (.int (12 : Int32)), .val (.int (p2.toInt16.toInt32)), .val (.int (p2.toInt16.toInt32)), .unset] [(.int (0 : Int32)), (.int (p2.toInt16.toInt32))]))
    by_cases hc245_123 : (p2.toInt16.toInt32) < (0 : Int32)
    · skip
      refine own_st (fun _ kS => XS.icmpNo X0.here hx rfl (hb hby at_245) rfl (tlt hc245_123).2.1 kS) ?_
      show own_G p.tables e below _ (T0.setTop (mkF m 248 #[.val (.int p1), .val (.int p2), .val (.ref bK), .val (.ref bL), .val (.ref bH), .val (.int (12 : Int32)), .val (.int (p2.toInt16.toInt32)), .val (.int (p2.toInt16.toInt32)), .unset] []))
      refine own_st (fun _ kS => XS.iconst X0.here hx rfl (hb hby at_248) kS) ?_
      show own_G p.tables e below _ (T0.setTop (mkF m 249 #[.val (.int p1), .val (.int p2), .val (.ref bK), .val (.ref bL), .val (.ref bH), .val (.int (12 : Int32)), .val (.int (p2.toInt16.toInt32)), .val (.int (p2.toInt16.toInt32)), .unset] [(.int (0 : Int32))]))
      refine own_st (fun _ kS => XS.istore X0.here hx rfl (hb hby at_249) rfl (l' := #[.val (.int p1), .val (.int p2), .val (.ref bK), .val (.ref bL), .val (.ref bH), .val (.int (12 : Int32)), .val (.int (p2.toInt16.toInt32)), .val (.int (p2.toInt16.toInt32)), .val (.int (0 : Int32))]) rfl kS) ?_
      show own_G p.tables e below _ (T0.setTop (mkF m 251 #[.val (.int p1), .val (.int p2), .val (.ref bK), .val (.ref bL), .val (.ref bH), .val (.int (12 : Int32)), .val (.int (p2.toInt16.toInt32)), .val (.int (p2.toInt16.toInt32)), .val (.int (0 : Int32))] []))
      refine own_st (fun _ kS => XS.goto X0.here hx rfl (pc0 := 251) (pc' := 273) rfl (hb hby at_251) (by decide) (by decide) kS) ?_
      show own_G p.tables e below _ (T0.setTop (mkF m 273 #[.val (.int p1), .val (.int p2), .val (.ref bK), .val (.ref bL), .val (.ref bH), .val (.int (12 : Int32)), .val (.int (p2.toInt16.toInt32)), .val (.int (p2.toInt16.toInt32)), .val (.int (0 : Int32))] []))
      refine own_st (fun _ kS => XS.aloadN X0.here hx rfl (hb hby at_273) rfl rfl kS) ?_
      show own_G p.tables e below _ (T0.setTop (mkF m 274 #[.val (.int p1), .val (.int p2), .val (.ref bK), .val (.ref bL), .val (.ref bH), .val (.int (12 : Int32)), .val (.int (p2.toInt16.toInt32)), .val (.int (p2.toInt16.toInt32)), .val (.int (0 : Int32))] [(.ref bK)]))
      refine own_st (fun _ kS => XS.iload X0.here hx rfl (hb hby at_274) rfl kS) ?_
      show own_G p.tables e below _ (T0.setTop (mkF m 276 #[.val (.int p1), .val (.int p2), .val (.ref bK), .val (.ref bL), .val (.ref bH), .val (.int (12 : Int32)), .val (.int (p2.toInt16.toInt32)), .val (.int (p2.toInt16.toInt32)), .val (.int (0 : Int32))] [(.int (12 : Int32)), (.ref bK)]))
      obtain ⟨cl124, Ar124, qa124, qs124, qn124, qh124, qg124⟩ := id R_K
      refine own_st (fun _ kS => X0.aaload hx (j := (12 : Int32)) (v := (.ref w_API_VERSIONS)) (by rw [e0]; exact Ar124.1) (State.isArrayOf_alike hZ.alike Ar124.2.1) rfl Ar124.2.2 (inb_of qs124 ⟨by decide, by decide⟩) (qh124.at (inb_of qs124 ⟨by decide, by decide⟩) rfl) (g := (mkF m 276 #[.val (.int p1), .val (.int p2), .val (.ref bK), .val (.ref bL), .val (.ref bH), .val (.int (12 : Int32)), .val (.int (p2.toInt16.toInt32)), .val (.int (p2.toInt16.toInt32)), .val (.int (0 : Int32))] [(.int (12 : Int32)), (.ref bK)])) rfl rfl (hb hby at_276) _ kS) ?_
      show own_G p.tables e below _ (T0.setTop (mkF m 277 #[.val (.int p1), .val (.int p2), .val (.ref bK), .val (.ref bL), .val (.ref bH), .val (.int (12 : Int32)), .val (.int (p2.toInt16.toInt32)), .val (.int (p2.toInt16.toInt32)), .val (.int (0 : Int32))] [(.ref w_API_VERSIONS)]))
      refine own_st (fun _ kS => XS.iload X0.here hx rfl (hb hby at_277) rfl kS) ?_
      show own_G p.tables e below _ (T0.setTop (mkF m 279 #[.val (.int p1), .val (.int p2), .val (.ref bK), .val (.ref bL), .val (.ref bH), .val (.int (12 : Int32)), .val (.int (p2.toInt16.toInt32)), .val (.int (p2.toInt16.toInt32)), .val (.int (0 : Int32))] [(.int (p2.toInt16.toInt32)), (.ref w_API_VERSIONS)]))
      obtain ⟨cq125, kq125, q125a, q125b, q125c⟩ := isOf hZ e0 (Exa.ext O0.2 E_API_VERSIONS)
      obtain ⟨_, _, ⟨T125, L125, k125, n125⟩, -, X125, ⟨Lc125, hQ125, l125, y125, z125⟩, st125⟩ := X0.virtualBack hx (y := (⟨"com/example/loose_grip/loosegrip/wire/ApiKey", "supports", "(S)Z"⟩ : MethodName)) (z := (⟨"com/example/loose_grip/loosegrip/wire/ApiKey", "supports", "(S)Z"⟩ : MethodName)) hown (mvT hZ (hw _ (List.mem_of_getElem? (i := 32) rfl))) (mvT hZ (hw _ (List.mem_of_getElem? (i := 33) rfl))) (notFace_of_selects (args := #[]) (mvT hZ (hw _ (List.mem_of_getElem? (i := 35) rfl)))) (mvT hZ (hw _ (List.mem_of_getElem? (i := 35) rfl))) (mvT hZ (hw _ (List.mem_of_getElem? (i := 34) rfl))) (by decide) (backOf (W := 0) (rm_sup_lt l Z a0 hw [] w_API_VERSIONS (p2.toInt16.toInt32) (0 : Int32) h0 n0 Z0 O0 F_API_VERSIONS_minVersion hc245_123) hZ (hw _ (List.mem_of_getElem? (i := 36) rfl)) (hw _ (List.mem_of_getElem? (i := 3) rfl)) (by decide) (by decide)) q125a q125c (g := (mkF m 279 #[.val (.int p1), .val (.int p2), .val (.ref bK), .val (.ref bL), .val (.ref bH), .val (.int (12 : Int32)), .val (.int (p2.toInt16.toInt32)), .val (.int (p2.toInt16.toInt32)), .val (.int (0 : Int32))] [(.int (p2.toInt16.toInt32)), (.ref w_API_VERSIONS)])) rfl (by rw [hml]; rfl) (Steps.refl _) (argsL := [(.int (p2.toInt16.toInt32))]) (rest := []) (lenOf own_pd0 rfl) rfl (by show 2 * 0 + _ ≤ _; exact Nat.le_of_eq rfl) (hb hby at_279) (fun _ _ => ⟨rfl, e0, (by decide : 3 + 0 ≤ _), (by decide : 39 + 0 ≤ _)⟩)
      dsimp only [Pt.U, Pt.locs, Pt.cells, Pt.slots] at X125 l125 y125 z125 st125 hQ125
      subst l125 y125 z125
      obtain ⟨rfl, Nq125, eq125⟩ := hQ125
      have N125 := Fr.app N0 Nq125
      refine own_tr st125 ?_
      show own_G p.tables e below _ (T125.setTop (mkF m 282 #[.val (.int p1), .val (.int p2), .val (.ref bK), .val (.ref bL), .val (.ref bH), .val (.int (12 : Int32)), .val (.int (p2.toInt16.toInt32)), .val (.int (p2.toInt16.toInt32)), .val (.int (0 : Int32))] [(.int (0 : Int32))]))
      refine own_st (fun _ kS => XS.iload X125.here hx rfl (hb hby at_282) rfl kS) ?_
      show own_G p.tables e below _ (T125.setTop (mkF m 284 #[.val (.int p1), .val (.int p2), .val (.ref bK), .val (.ref bL), .val (.ref bH), .val (.int (12 : Int32)), .val (.int (p2.toInt16.toInt32)), .val (.int (p2.toInt16.toInt32)), .val (.int (0 : Int32))] [(.int (0 : Int32)), (.int (0 : Int32))]))
      refine own_st (fun _ kS => XS.icmpNo X125.here hx rfl (hb hby at_284) rfl (teq (by decide : (0 : Int32) = (0 : Int32))).2 kS) ?_
      show own_G p.tables e below _ (T125.setTop (mkF m 287 #[.val (.int p1), .val (.int p2), .val (.ref bK), .val (.ref bL), .val (.ref bH), .val (.int (12 : Int32)), .val (.int (p2.toInt16.toInt32)), .val (.int (p2.toInt16.toInt32)), .val (.int (0 : Int32))] []))
      refine own_st (fun _ kS => XS.iconst X125.here hx rfl (hb hby at_287) kS) ?_
      show own_G p.tables e below _ (T125.setTop (mkF m 288 #[.val (.int p1), .val (.int p2), .val (.ref bK), .val (.ref bL), .val (.ref bH), .val (.int (12 : Int32)), .val (.int (p2.toInt16.toInt32)), .val (.int (p2.toInt16.toInt32)), .val (.int (0 : Int32))] [(.int (1 : Int32))]))
      refine own_st (fun _ kS => XS.goto X125.here hx rfl (pc0 := 288) (pc' := 292) rfl (hb hby at_288) (by decide) (by decide) kS) ?_
      show own_G p.tables e below _ (T125.setTop (mkF m 292 #[.val (.int p1), .val (.int p2), .val (.ref bK), .val (.ref bL), .val (.ref bH), .val (.int (12 : Int32)), .val (.int (p2.toInt16.toInt32)), .val (.int (p2.toInt16.toInt32)), .val (.int (0 : Int32))] [(.int (1 : Int32))]))
      exact own_retN X125 hx hlk (t := .boolean) hret (by simp) (hb hby at_292) (by decide) (by decide) (v' := (1 : Int32)) rfl (by rw [eq125]; exact ⟨rfl, N125⟩)
    · skip
      refine own_st (fun _ kS => XS.icmpYes X0.here hx rfl (pc0 := 245) (pc' := 254) rfl (hb hby at_245) rfl (flt hc245_123).2.1 (by decide) (by decide) kS) ?_
      show own_G p.tables e below _ (T0.setTop (mkF m 254 #[.val (.int p1), .val (.int p2), .val (.ref bK), .val (.ref bL), .val (.ref bH), .val (.int (12 : Int32)), .val (.int (p2.toInt16.toInt32)), .val (.int (p2.toInt16.toInt32)), .unset] []))
      refine own_st (fun _ kS => XS.iload X0.here hx rfl (hb hby at_254) rfl kS) ?_
      show own_G p.tables e below _ (T0.setTop (mkF m 256 #[.val (.int p1), .val (.int p2), .val (.ref bK), .val (.ref bL), .val (.ref bH), .val (.int (12 : Int32)), .val (.int (p2.toInt16.toInt32)), .val (.int (p2.toInt16.toInt32)), .unset] [(.int (p2.toInt16.toInt32))]))
      refine own_st (fun _ kS => XS.aload X0.here hx rfl (hb hby at_256) rfl rfl kS) ?_
      show own_G p.tables e below _ (T0.setTop (mkF m 258 #[.val (.int p1), .val (.int p2), .val (.ref bK), .val (.ref bL), .val (.ref bH), .val (.int (12 : Int32)), .val (.int (p2.toInt16.toInt32)), .val (.int (p2.toInt16.toInt32)), .unset] [(.ref bH), (.int (p2.toInt16.toInt32))]))
      refine own_st (fun _ kS => XS.iload X0.here hx rfl (hb hby at_258) rfl kS) ?_
      show own_G p.tables e below _ (T0.setTop (mkF m 260 #[.val (.int p1), .val (.int p2), .val (.ref bK), .val (.ref bL), .val (.ref bH), .val (.int (12 : Int32)), .val (.int (p2.toInt16.toInt32)), .val (.int (p2.toInt16.toInt32)), .unset] [(.int (12 : Int32)), (.ref bH), (.int (p2.toInt16.toInt32))]))
      obtain ⟨cl126, Ar126, qa126, qs126, qn126, qh126, qg126⟩ := id R_H
      refine own_st (fun _ kS => X0.iaload hx (j := (12 : Int32)) (v := (.int (2 : Int32))) (by rw [e0]; exact Ar126.1) (State.isArrayOf_alike hZ.alike Ar126.2.1) Ar126.2.2 (inb_of qs126 ⟨by decide, by decide⟩) (qh126.at (inb_of qs126 ⟨by decide, by decide⟩) rfl) (g := (mkF m 260 #[.val (.int p1), .val (.int p2), .val (.ref bK), .val (.ref bL), .val (.ref bH), .val (.int (12 : Int32)), .val (.int (p2.toInt16.toInt32)), .val (.int (p2.toInt16.toInt32)), .unset] [(.int (12 : Int32)), (.ref bH), (.int (p2.toInt16.toInt32))])) rfl rfl (hb hby at_260) _ kS) ?_
      show own_G p.tables e below _ (T0.setTop (mkF m 261 #[.val (.int p1), .val (.int p2), .val (.ref bK), .val (.ref bL), .val (.ref bH), .val (.int (12 : Int32)), .val (.int (p2.toInt16.toInt32)), .val (.int (p2.toInt16.toInt32)), .unset] [(.int (2 : Int32)), (.int (p2.toInt16.toInt32))]))
      by_cases hc261_127 : (2 : Int32) < (p2.toInt16.toInt32)
      · skip
        refine own_st (fun _ kS => XS.icmpNo X0.here hx rfl (hb hby at_261) rfl (tlt hc261_127).2.2.2 kS) ?_
        show own_G p.tables e below _ (T0.setTop (mkF m 264 #[.val (.int p1), .val (.int p2), .val (.ref bK), .val (.ref bL), .val (.ref bH), .val (.int (12 : Int32)), .val (.int (p2.toInt16.toInt32)), .val (.int (p2.toInt16.toInt32)), .unset] []))
        refine own_st (fun _ kS => XS.iconst X0.here hx rfl (hb hby at_264) kS) ?_
        show own_G p.tables e below _ (T0.setTop (mkF m 265 #[.val (.int p1), .val (.int p2), .val (.ref bK), .val (.ref bL), .val (.ref bH), .val (.int (12 : Int32)), .val (.int (p2.toInt16.toInt32)), .val (.int (p2.toInt16.toInt32)), .unset] [(.int (0 : Int32))]))
        refine own_st (fun _ kS => XS.istore X0.here hx rfl (hb hby at_265) rfl (l' := #[.val (.int p1), .val (.int p2), .val (.ref bK), .val (.ref bL), .val (.ref bH), .val (.int (12 : Int32)), .val (.int (p2.toInt16.toInt32)), .val (.int (p2.toInt16.toInt32)), .val (.int (0 : Int32))]) rfl kS) ?_
        show own_G p.tables e below _ (T0.setTop (mkF m 267 #[.val (.int p1), .val (.int p2), .val (.ref bK), .val (.ref bL), .val (.ref bH), .val (.int (12 : Int32)), .val (.int (p2.toInt16.toInt32)), .val (.int (p2.toInt16.toInt32)), .val (.int (0 : Int32))] []))
        refine own_st (fun _ kS => XS.goto X0.here hx rfl (pc0 := 267) (pc' := 273) rfl (hb hby at_267) (by decide) (by decide) kS) ?_
        show own_G p.tables e below _ (T0.setTop (mkF m 273 #[.val (.int p1), .val (.int p2), .val (.ref bK), .val (.ref bL), .val (.ref bH), .val (.int (12 : Int32)), .val (.int (p2.toInt16.toInt32)), .val (.int (p2.toInt16.toInt32)), .val (.int (0 : Int32))] []))
        refine own_st (fun _ kS => XS.aloadN X0.here hx rfl (hb hby at_273) rfl rfl kS) ?_
        show own_G p.tables e below _ (T0.setTop (mkF m 274 #[.val (.int p1), .val (.int p2), .val (.ref bK), .val (.ref bL), .val (.ref bH), .val (.int (12 : Int32)), .val (.int (p2.toInt16.toInt32)), .val (.int (p2.toInt16.toInt32)), .val (.int (0 : Int32))] [(.ref bK)]))
        refine own_st (fun _ kS => XS.iload X0.here hx rfl (hb hby at_274) rfl kS) ?_
        show own_G p.tables e below _ (T0.setTop (mkF m 276 #[.val (.int p1), .val (.int p2), .val (.ref bK), .val (.ref bL), .val (.ref bH), .val (.int (12 : Int32)), .val (.int (p2.toInt16.toInt32)), .val (.int (p2.toInt16.toInt32)), .val (.int (0 : Int32))] [(.int (12 : Int32)), (.ref bK)]))
        obtain ⟨cl128, Ar128, qa128, qs128, qn128, qh128, qg128⟩ := id R_K
        refine own_st (fun _ kS => X0.aaload hx (j := (12 : Int32)) (v := (.ref w_API_VERSIONS)) (by rw [e0]; exact Ar128.1) (State.isArrayOf_alike hZ.alike Ar128.2.1) rfl Ar128.2.2 (inb_of qs128 ⟨by decide, by decide⟩) (qh128.at (inb_of qs128 ⟨by decide, by decide⟩) rfl) (g := (mkF m 276 #[.val (.int p1), .val (.int p2), .val (.ref bK), .val (.ref bL), .val (.ref bH), .val (.int (12 : Int32)), .val (.int (p2.toInt16.toInt32)), .val (.int (p2.toInt16.toInt32)), .val (.int (0 : Int32))] [(.int (12 : Int32)), (.ref bK)])) rfl rfl (hb hby at_276) _ kS) ?_
        show own_G p.tables e below _ (T0.setTop (mkF m 277 #[.val (.int p1), .val (.int p2), .val (.ref bK), .val (.ref bL), .val (.ref bH), .val (.int (12 : Int32)), .val (.int (p2.toInt16.toInt32)), .val (.int (p2.toInt16.toInt32)), .val (.int (0 : Int32))] [(.ref w_API_VERSIONS)]))
        refine own_st (fun _ kS => XS.iload X0.here hx rfl (hb hby at_277) rfl kS) ?_
        show own_G p.tables e below _ (T0.setTop (mkF m 279 #[.val (.int p1), .val (.int p2), .val (.ref bK), .val (.ref bL), .val (.ref bH), .val (.int (12 : Int32)), .val (.int (p2.toInt16.toInt32)), .val (.int (p2.toInt16.toInt32)), .val (.int (0 : Int32))] [(.int (p2.toInt16.toInt32)), (.ref w_API_VERSIONS)]))
        obtain ⟨cq129, kq129, q129a, q129b, q129c⟩ := isOf hZ e0 (Exa.ext O0.2 E_API_VERSIONS)
        obtain ⟨_, _, ⟨T129, L129, k129, n129⟩, -, X129, ⟨Lc129, hQ129, l129, y129, z129⟩, st129⟩ := X0.virtualBack hx (y := (⟨"com/example/loose_grip/loosegrip/wire/ApiKey", "supports", "(S)Z"⟩ : MethodName)) (z := (⟨"com/example/loose_grip/loosegrip/wire/ApiKey", "supports", "(S)Z"⟩ : MethodName)) hown (mvT hZ (hw _ (List.mem_of_getElem? (i := 32) rfl))) (mvT hZ (hw _ (List.mem_of_getElem? (i := 33) rfl))) (notFace_of_selects (args := #[]) (mvT hZ (hw _ (List.mem_of_getElem? (i := 35) rfl)))) (mvT hZ (hw _ (List.mem_of_getElem? (i := 35) rfl))) (mvT hZ (hw _ (List.mem_of_getElem? (i := 34) rfl))) (by decide) (backOf (W := 0) (rm_sup_gt l Z a0 hw [] w_API_VERSIONS (p2.toInt16.toInt32) (0 : Int32) (2 : Int32) h0 n0 Z0 O0 F_API_VERSIONS_minVersion F_API_VERSIONS_maxVersion hc245_123 hc261_127) hZ (hw _ (List.mem_of_getElem? (i := 36) rfl)) (hw _ (List.mem_of_getElem? (i := 3) rfl)) (by decide) (by decide)) q129a q129c (g := (mkF m 279 #[.val (.int p1), .val (.int p2), .val (.ref bK), .val (.ref bL), .val (.ref bH), .val (.int (12 : Int32)), .val (.int (p2.toInt16.toInt32)), .val (.int (p2.toInt16.toInt32)), .val (.int (0 : Int32))] [(.int (p2.toInt16.toInt32)), (.ref w_API_VERSIONS)])) rfl (by rw [hml]; rfl) (Steps.refl _) (argsL := [(.int (p2.toInt16.toInt32))]) (rest := []) (lenOf own_pd0 rfl) rfl (by show 2 * 0 + _ ≤ _; exact Nat.le_of_eq rfl) (hb hby at_279) (fun _ _ => ⟨rfl, e0, (by decide : 3 + 0 ≤ _), (by decide : 39 + 0 ≤ _)⟩)
        dsimp only [Pt.U, Pt.locs, Pt.cells, Pt.slots] at X129 l129 y129 z129 st129 hQ129
        subst l129 y129 z129
        obtain ⟨rfl, Nq129, eq129⟩ := hQ129
        have N129 := Fr.app N0 Nq129
        refine own_tr st129 ?_
        show own_G p.tables e below _ (T129.setTop (mkF m 282 #[.val (.int p1), .val (.int p2), .val (.ref bK), .val (.ref bL), .val (.ref bH), .val (.int (12 : Int32)), .val (.int (p2.toInt16.toInt32)), .val (.int (p2.toInt16.toInt32)), .val (.int (0 : Int32))] [(.int (0 : Int32))]))
        refine own_st (fun _ kS => XS.iload X129.here hx rfl (hb hby at_282) rfl kS) ?_
        show own_G p.tables e below _ (T129.setTop (mkF m 284 #[.val (.int p1), .val (.int p2), .val (.ref bK), .val (.ref bL), .val (.ref bH), .val (.int (12 : Int32)), .val (.int (p2.toInt16.toInt32)), .val (.int (p2.toInt16.toInt32)), .val (.int (0 : Int32))] [(.int (0 : Int32)), (.int (0 : Int32))]))
        refine own_st (fun _ kS => XS.icmpNo X129.here hx rfl (hb hby at_284) rfl (teq (by decide : (0 : Int32) = (0 : Int32))).2 kS) ?_
        show own_G p.tables e below _ (T129.setTop (mkF m 287 #[.val (.int p1), .val (.int p2), .val (.ref bK), .val (.ref bL), .val (.ref bH), .val (.int (12 : Int32)), .val (.int (p2.toInt16.toInt32)), .val (.int (p2.toInt16.toInt32)), .val (.int (0 : Int32))] []))
        refine own_st (fun _ kS => XS.iconst X129.here hx rfl (hb hby at_287) kS) ?_
        show own_G p.tables e below _ (T129.setTop (mkF m 288 #[.val (.int p1), .val (.int p2), .val (.ref bK), .val (.ref bL), .val (.ref bH), .val (.int (12 : Int32)), .val (.int (p2.toInt16.toInt32)), .val (.int (p2.toInt16.toInt32)), .val (.int (0 : Int32))] [(.int (1 : Int32))]))
        refine own_st (fun _ kS => XS.goto X129.here hx rfl (pc0 := 288) (pc' := 292) rfl (hb hby at_288) (by decide) (by decide) kS) ?_
        show own_G p.tables e below _ (T129.setTop (mkF m 292 #[.val (.int p1), .val (.int p2), .val (.ref bK), .val (.ref bL), .val (.ref bH), .val (.int (12 : Int32)), .val (.int (p2.toInt16.toInt32)), .val (.int (p2.toInt16.toInt32)), .val (.int (0 : Int32))] [(.int (1 : Int32))]))
        exact own_retN X129 hx hlk (t := .boolean) hret (by simp) (hb hby at_292) (by decide) (by decide) (v' := (1 : Int32)) rfl (by rw [eq129]; exact ⟨rfl, N129⟩)
      · skip
        refine own_st (fun _ kS => XS.icmpYes X0.here hx rfl (pc0 := 261) (pc' := 270) rfl (hb hby at_261) rfl (flt hc261_127).2.2.2 (by decide) (by decide) kS) ?_
        show own_G p.tables e below _ (T0.setTop (mkF m 270 #[.val (.int p1), .val (.int p2), .val (.ref bK), .val (.ref bL), .val (.ref bH), .val (.int (12 : Int32)), .val (.int (p2.toInt16.toInt32)), .val (.int (p2.toInt16.toInt32)), .unset] []))
        refine own_st (fun _ kS => XS.iconst X0.here hx rfl (hb hby at_270) kS) ?_
        show own_G p.tables e below _ (T0.setTop (mkF m 271 #[.val (.int p1), .val (.int p2), .val (.ref bK), .val (.ref bL), .val (.ref bH), .val (.int (12 : Int32)), .val (.int (p2.toInt16.toInt32)), .val (.int (p2.toInt16.toInt32)), .unset] [(.int (1 : Int32))]))
        refine own_st (fun _ kS => XS.istore X0.here hx rfl (hb hby at_271) rfl (l' := #[.val (.int p1), .val (.int p2), .val (.ref bK), .val (.ref bL), .val (.ref bH), .val (.int (12 : Int32)), .val (.int (p2.toInt16.toInt32)), .val (.int (p2.toInt16.toInt32)), .val (.int (1 : Int32))]) rfl kS) ?_
        show own_G p.tables e below _ (T0.setTop (mkF m 273 #[.val (.int p1), .val (.int p2), .val (.ref bK), .val (.ref bL), .val (.ref bH), .val (.int (12 : Int32)), .val (.int (p2.toInt16.toInt32)), .val (.int (p2.toInt16.toInt32)), .val (.int (1 : Int32))] []))
        refine own_st (fun _ kS => XS.aloadN X0.here hx rfl (hb hby at_273) rfl rfl kS) ?_
        show own_G p.tables e below _ (T0.setTop (mkF m 274 #[.val (.int p1), .val (.int p2), .val (.ref bK), .val (.ref bL), .val (.ref bH), .val (.int (12 : Int32)), .val (.int (p2.toInt16.toInt32)), .val (.int (p2.toInt16.toInt32)), .val (.int (1 : Int32))] [(.ref bK)]))
        refine own_st (fun _ kS => XS.iload X0.here hx rfl (hb hby at_274) rfl kS) ?_
        show own_G p.tables e below _ (T0.setTop (mkF m 276 #[.val (.int p1), .val (.int p2), .val (.ref bK), .val (.ref bL), .val (.ref bH), .val (.int (12 : Int32)), .val (.int (p2.toInt16.toInt32)), .val (.int (p2.toInt16.toInt32)), .val (.int (1 : Int32))] [(.int (12 : Int32)), (.ref bK)]))
        obtain ⟨cl130, Ar130, qa130, qs130, qn130, qh130, qg130⟩ := id R_K
        refine own_st (fun _ kS => X0.aaload hx (j := (12 : Int32)) (v := (.ref w_API_VERSIONS)) (by rw [e0]; exact Ar130.1) (State.isArrayOf_alike hZ.alike Ar130.2.1) rfl Ar130.2.2 (inb_of qs130 ⟨by decide, by decide⟩) (qh130.at (inb_of qs130 ⟨by decide, by decide⟩) rfl) (g := (mkF m 276 #[.val (.int p1), .val (.int p2), .val (.ref bK), .val (.ref bL), .val (.ref bH), .val (.int (12 : Int32)), .val (.int (p2.toInt16.toInt32)), .val (.int (p2.toInt16.toInt32)), .val (.int (1 : Int32))] [(.int (12 : Int32)), (.ref bK)])) rfl rfl (hb hby at_276) _ kS) ?_
        show own_G p.tables e below _ (T0.setTop (mkF m 277 #[.val (.int p1), .val (.int p2), .val (.ref bK), .val (.ref bL), .val (.ref bH), .val (.int (12 : Int32)), .val (.int (p2.toInt16.toInt32)), .val (.int (p2.toInt16.toInt32)), .val (.int (1 : Int32))] [(.ref w_API_VERSIONS)]))
        refine own_st (fun _ kS => XS.iload X0.here hx rfl (hb hby at_277) rfl kS) ?_
        show own_G p.tables e below _ (T0.setTop (mkF m 279 #[.val (.int p1), .val (.int p2), .val (.ref bK), .val (.ref bL), .val (.ref bH), .val (.int (12 : Int32)), .val (.int (p2.toInt16.toInt32)), .val (.int (p2.toInt16.toInt32)), .val (.int (1 : Int32))] [(.int (p2.toInt16.toInt32)), (.ref w_API_VERSIONS)]))
        obtain ⟨cq131, kq131, q131a, q131b, q131c⟩ := isOf hZ e0 (Exa.ext O0.2 E_API_VERSIONS)
        obtain ⟨_, _, ⟨T131, L131, k131, n131⟩, -, X131, ⟨Lc131, hQ131, l131, y131, z131⟩, st131⟩ := X0.virtualBack hx (y := (⟨"com/example/loose_grip/loosegrip/wire/ApiKey", "supports", "(S)Z"⟩ : MethodName)) (z := (⟨"com/example/loose_grip/loosegrip/wire/ApiKey", "supports", "(S)Z"⟩ : MethodName)) hown (mvT hZ (hw _ (List.mem_of_getElem? (i := 32) rfl))) (mvT hZ (hw _ (List.mem_of_getElem? (i := 33) rfl))) (notFace_of_selects (args := #[]) (mvT hZ (hw _ (List.mem_of_getElem? (i := 35) rfl)))) (mvT hZ (hw _ (List.mem_of_getElem? (i := 35) rfl))) (mvT hZ (hw _ (List.mem_of_getElem? (i := 34) rfl))) (by decide) (backOf (W := 0) (rm_sup_in l Z a0 hw [] w_API_VERSIONS (p2.toInt16.toInt32) (0 : Int32) (2 : Int32) h0 n0 Z0 O0 F_API_VERSIONS_minVersion F_API_VERSIONS_maxVersion hc245_123 hc261_127) hZ (hw _ (List.mem_of_getElem? (i := 36) rfl)) (hw _ (List.mem_of_getElem? (i := 3) rfl)) (by decide) (by decide)) q131a q131c (g := (mkF m 279 #[.val (.int p1), .val (.int p2), .val (.ref bK), .val (.ref bL), .val (.ref bH), .val (.int (12 : Int32)), .val (.int (p2.toInt16.toInt32)), .val (.int (p2.toInt16.toInt32)), .val (.int (1 : Int32))] [(.int (p2.toInt16.toInt32)), (.ref w_API_VERSIONS)])) rfl (by rw [hml]; rfl) (Steps.refl _) (argsL := [(.int (p2.toInt16.toInt32))]) (rest := []) (lenOf own_pd0 rfl) rfl (by show 2 * 0 + _ ≤ _; exact Nat.le_of_eq rfl) (hb hby at_279) (fun _ _ => ⟨rfl, e0, (by decide : 3 + 0 ≤ _), (by decide : 39 + 0 ≤ _)⟩)
        dsimp only [Pt.U, Pt.locs, Pt.cells, Pt.slots] at X131 l131 y131 z131 st131 hQ131
        subst l131 y131 z131
        obtain ⟨rfl, Nq131, eq131⟩ := hQ131
        have N131 := Fr.app N0 Nq131
        refine own_tr st131 ?_
        show own_G p.tables e below _ (T131.setTop (mkF m 282 #[.val (.int p1), .val (.int p2), .val (.ref bK), .val (.ref bL), .val (.ref bH), .val (.int (12 : Int32)), .val (.int (p2.toInt16.toInt32)), .val (.int (p2.toInt16.toInt32)), .val (.int (1 : Int32))] [(.int (1 : Int32))]))
        refine own_st (fun _ kS => XS.iload X131.here hx rfl (hb hby at_282) rfl kS) ?_
        show own_G p.tables e below _ (T131.setTop (mkF m 284 #[.val (.int p1), .val (.int p2), .val (.ref bK), .val (.ref bL), .val (.ref bH), .val (.int (12 : Int32)), .val (.int (p2.toInt16.toInt32)), .val (.int (p2.toInt16.toInt32)), .val (.int (1 : Int32))] [(.int (1 : Int32)), (.int (1 : Int32))]))
        refine own_st (fun _ kS => XS.icmpNo X131.here hx rfl (hb hby at_284) rfl (teq (by decide : (1 : Int32) = (1 : Int32))).2 kS) ?_
        show own_G p.tables e below _ (T131.setTop (mkF m 287 #[.val (.int p1), .val (.int p2), .val (.ref bK), .val (.ref bL), .val (.ref bH), .val (.int (12 : Int32)), .val (.int (p2.toInt16.toInt32)), .val (.int (p2.toInt16.toInt32)), .val (.int (1 : Int32))] []))
        refine own_st (fun _ kS => XS.iconst X131.here hx rfl (hb hby at_287) kS) ?_
        show own_G p.tables e below _ (T131.setTop (mkF m 288 #[.val (.int p1), .val (.int p2), .val (.ref bK), .val (.ref bL), .val (.ref bH), .val (.int (12 : Int32)), .val (.int (p2.toInt16.toInt32)), .val (.int (p2.toInt16.toInt32)), .val (.int (1 : Int32))] [(.int (1 : Int32))]))
        refine own_st (fun _ kS => XS.goto X131.here hx rfl (pc0 := 288) (pc' := 292) rfl (hb hby at_288) (by decide) (by decide) kS) ?_
        show own_G p.tables e below _ (T131.setTop (mkF m 292 #[.val (.int p1), .val (.int p2), .val (.ref bK), .val (.ref bL), .val (.ref bH), .val (.int (12 : Int32)), .val (.int (p2.toInt16.toInt32)), .val (.int (p2.toInt16.toInt32)), .val (.int (1 : Int32))] [(.int (1 : Int32))]))
        exact own_retN X131 hx hlk (t := .boolean) hret (by simp) (hb hby at_292) (by decide) (by decide) (v' := (1 : Int32)) rfl (by rw [eq131]; exact ⟨rfl, N131⟩)
set_option maxRecDepth 65536 in
set_option maxHeartbeats 40000000 in
theorem sg_B {p : Program} {l : Launch} {e : Env} {s : State} {m : MethodId} {args : Array Value} {below : List Frame} {meth : Method} {c : Code} {T0 : State} {locs : List Loc} {Z : State} {a0 : Array Value} {h0 : Heap} {n0 : Nat} (hx : p.tables.exec = Jvm.exec) (hby : c.code = code) (hml : c.maxLocals = 9) (hown : s.vm.findClass "com/example/loose_grip/loosegrip/wire/ApiKeySupportsPinLaw" = some m.cls) (hlk : meth.locks = false) (hret : meth.sig.returnType = some .boolean) (hZ : Z.Warmed39 s.vm) (hw : ∀ d ∈ tables_1, d.before a0 Z = true) (Z0 : n0 ≤ h0.size)
    (X0 : Stand p l e room_1 s m args below meth c T0 locs 2 26) (e0 : T0.heap = h0) (N0 : Fr n0 locs) (O0 : Old Z n0 h0) (p1 : Int32) (p2 : Int32) (w_FETCH : Addr) (w_LIST_OFFSETS : Addr) (w_METADATA : Addr) (w_OFFSET_COMMIT : Addr) (w_OFFSET_FETCH : Addr) (w_FIND_COORDINATOR : Addr) (w_JOIN_GROUP : Addr) (w_HEARTBEAT : Addr) (w_LEAVE_GROUP : Addr) (w_SYNC_GROUP : Addr) (w_DESCRIBE_GROUPS : Addr) (w_LIST_GROUPS : Addr) (w_API_VERSIONS : Addr) (bK : Addr) (kK : ClassId) (bL : Addr) (kL : ClassId) (S_FETCH : Sta Z Z.heap "com/example/loose_grip/loosegrip/wire/ApiKey" "FETCH" "Lcom/example/loose_grip/loosegrip/wire/ApiKey;" (.ref w_FETCH)) (S_LIST_OFFSETS : Sta Z Z.heap "com/example/loose_grip/loosegrip/wire/ApiKey" "LIST_OFFSETS" "Lcom/example/loose_grip/loosegrip/wire/ApiKey;" (.ref w_LIST_OFFSETS)) (S_METADATA : Sta Z Z.heap "com/example/loose_grip/loosegrip/wire/ApiKey" "METADATA" "Lcom/example/loose_grip/loosegrip/wire/ApiKey;" (.ref w_METADATA)) (S_OFFSET_COMMIT : Sta Z Z.heap "com/example/loose_grip/loosegrip/wire/ApiKey" "OFFSET_COMMIT" "Lcom/example/loose_grip/loosegrip/wire/ApiKey;" (.ref w_OFFSET_COMMIT)) (S_OFFSET_FETCH : Sta Z Z.heap "com/example/loose_grip/loosegrip/wire/ApiKey" "OFFSET_FETCH" "Lcom/example/loose_grip/loosegrip/wire/ApiKey;" (.ref w_OFFSET_FETCH)) (S_FIND_COORDINATOR : Sta Z Z.heap "com/example/loose_grip/loosegrip/wire/ApiKey" "FIND_COORDINATOR" "Lcom/example/loose_grip/loosegrip/wire/ApiKey;" (.ref w_FIND_COORDINATOR)) (S_JOIN_GROUP : Sta Z Z.heap "com/example/loose_grip/loosegrip/wire/ApiKey" "JOIN_GROUP" "Lcom/example/loose_grip/loosegrip/wire/ApiKey;" (.ref w_JOIN_GROUP)) (S_HEARTBEAT : Sta Z Z.heap "com/example/loose_grip/loosegrip/wire/ApiKey" "HEARTBEAT" "Lcom/example/loose_grip/loosegrip/wire/ApiKey;" (.ref w_HEARTBEAT)) (S_LEAVE_GROUP : Sta Z Z.heap "com/example/loose_grip/loosegrip/wire/ApiKey" "LEAVE_GROUP" "Lcom/example/loose_grip/loosegrip/wire/ApiKey;" (.ref w_LEAVE_GROUP)) (S_SYNC_GROUP : Sta Z Z.heap "com/example/loose_grip/loosegrip/wire/ApiKey" "SYNC_GROUP" "Lcom/example/loose_grip/loosegrip/wire/ApiKey;" (.ref w_SYNC_GROUP)) (S_DESCRIBE_GROUPS : Sta Z Z.heap "com/example/loose_grip/loosegrip/wire/ApiKey" "DESCRIBE_GROUPS" "Lcom/example/loose_grip/loosegrip/wire/ApiKey;" (.ref w_DESCRIBE_GROUPS)) (S_LIST_GROUPS : Sta Z Z.heap "com/example/loose_grip/loosegrip/wire/ApiKey" "LIST_GROUPS" "Lcom/example/loose_grip/loosegrip/wire/ApiKey;" (.ref w_LIST_GROUPS)) (S_API_VERSIONS : Sta Z Z.heap "com/example/loose_grip/loosegrip/wire/ApiKey" "API_VERSIONS" "Lcom/example/loose_grip/loosegrip/wire/ApiKey;" (.ref w_API_VERSIONS)) (E_FETCH : Exa Z Z.heap w_FETCH "com/example/loose_grip/loosegrip/wire/ApiKey") (E_LIST_OFFSETS : Exa Z Z.heap w_LIST_OFFSETS "com/example/loose_grip/loosegrip/wire/ApiKey") (E_METADATA : Exa Z Z.heap w_METADATA "com/example/loose_grip/loosegrip/wire/ApiKey") (E_OFFSET_COMMIT : Exa Z Z.heap w_OFFSET_COMMIT "com/example/loose_grip/loosegrip/wire/ApiKey") (E_OFFSET_FETCH : Exa Z Z.heap w_OFFSET_FETCH "com/example/loose_grip/loosegrip/wire/ApiKey") (E_FIND_COORDINATOR : Exa Z Z.heap w_FIND_COORDINATOR "com/example/loose_grip/loosegrip/wire/ApiKey") (E_JOIN_GROUP : Exa Z Z.heap w_JOIN_GROUP "com/example/loose_grip/loosegrip/wire/ApiKey") (E_HEARTBEAT : Exa Z Z.heap w_HEARTBEAT "com/example/loose_grip/loosegrip/wire/ApiKey") (E_LEAVE_GROUP : Exa Z Z.heap w_LEAVE_GROUP "com/example/loose_grip/loosegrip/wire/ApiKey") (E_SYNC_GROUP : Exa Z Z.heap w_SYNC_GROUP "com/example/loose_grip/loosegrip/wire/ApiKey") (E_DESCRIBE_GROUPS : Exa Z Z.heap w_DESCRIBE_GROUPS "com/example/loose_grip/loosegrip/wire/ApiKey") (E_LIST_GROUPS : Exa Z Z.heap w_LIST_GROUPS "com/example/loose_grip/loosegrip/wire/ApiKey") (E_API_VERSIONS : Exa Z Z.heap w_API_VERSIONS "com/example/loose_grip/loosegrip/wire/ApiKey") (F_FETCH_minVersion : Fld Z Z.heap w_FETCH "com/example/loose_grip/loosegrip/wire/ApiKey" "minVersion" "S" (.int (0 : Int32))) (F_FETCH_maxVersion : Fld Z Z.heap w_FETCH "com/example/loose_grip/loosegrip/wire/ApiKey" "maxVersion" "S" (.int (11 : Int32))) (F_LIST_OFFSETS_minVersion : Fld Z Z.heap w_LIST_OFFSETS "com/example/loose_grip/loosegrip/wire/ApiKey" "minVersion" "S" (.int (0 : Int32))) (F_LIST_OFFSETS_maxVersion : Fld Z Z.heap w_LIST_OFFSETS "com/example/loose_grip/loosegrip/wire/ApiKey" "maxVersion" "S" (.int (5 : Int32))) (F_METADATA_minVersion : Fld Z Z.heap w_METADATA "com/example/loose_grip/loosegrip/wire/ApiKey" "minVersion" "S" (.int (0 : Int32))) (F_METADATA_maxVersion : Fld Z Z.heap w_METADATA "com/example/loose_grip/loosegrip/wire/ApiKey" "maxVersion" "S" (.int (4 : Int32))) (F_OFFSET_COMMIT_minVersion : Fld Z Z.heap w_OFFSET_COMMIT "com/example/loose_grip/loosegrip/wire/ApiKey" "minVersion" "S" (.int (2 : Int32))) (F_OFFSET_COMMIT_maxVersion : Fld Z Z.heap w_OFFSET_COMMIT "com/example/loose_grip/loosegrip/wire/ApiKey" "maxVersion" "S" (.int (7 : Int32))) (F_OFFSET_FETCH_minVersion : Fld Z Z.heap w_OFFSET_FETCH "com/example/loose_grip/loosegrip/wire/ApiKey" "minVersion" "S" (.int (1 : Int32))) (F_OFFSET_FETCH_maxVersion : Fld Z Z.heap w_OFFSET_FETCH "com/example/loose_grip/loosegrip/wire/ApiKey" "maxVersion" "S" (.int (5 : Int32))) (F_FIND_COORDINATOR_minVersion : Fld Z Z.heap w_FIND_COORDINATOR "com/example/loose_grip/loosegrip/wire/ApiKey" "minVersion" "S" (.int (0 : Int32))) (F_FIND_COORDINATOR_maxVersion : Fld Z Z.heap w_FIND_COORDINATOR "com/example/loose_grip/loosegrip/wire/ApiKey" "maxVersion" "S" (.int (2 : Int32))) (F_JOIN_GROUP_minVersion : Fld Z Z.heap w_JOIN_GROUP "com/example/loose_grip/loosegrip/wire/ApiKey" "minVersion" "S" (.int (0 : Int32))) (F_JOIN_GROUP_maxVersion : Fld Z Z.heap w_JOIN_GROUP "com/example/loose_grip/loosegrip/wire/ApiKey" "maxVersion" "S" (.int (5 : Int32))) (F_HEARTBEAT_minVersion : Fld Z Z.heap w_HEARTBEAT "com/example/loose_grip/loosegrip/wire/ApiKey" "minVersion" "S" (.int (0 : Int32))) (F_HEARTBEAT_maxVersion : Fld Z Z.heap w_HEARTBEAT "com/example/loose_grip/loosegrip/wire/ApiKey" "maxVersion" "S" (.int (3 : Int32))) (F_LEAVE_GROUP_minVersion : Fld Z Z.heap w_LEAVE_GROUP "com/example/loose_grip/loosegrip/wire/ApiKey" "minVersion" "S" (.int (0 : Int32))) (F_LEAVE_GROUP_maxVersion : Fld Z Z.heap w_LEAVE_GROUP "com/example/loose_grip/loosegrip/wire/ApiKey" "maxVersion" "S" (.int (3 : Int32))) (F_SYNC_GROUP_minVersion : Fld Z Z.heap w_SYNC_GROUP "com/example/loose_grip/loosegrip/wire/ApiKey" "minVersion" "S" (.int (0 : Int32))) (F_SYNC_GROUP_maxVersion : Fld Z Z.heap w_SYNC_GROUP "com/example/loose_grip/loosegrip/wire/ApiKey" "maxVersion" "S" (.int (3 : Int32))) (F_DESCRIBE_GROUPS_minVersion : Fld Z Z.heap w_DESCRIBE_GROUPS "com/example/loose_grip/loosegrip/wire/ApiKey" "minVersion" "S" (.int (0 : Int32))) (F_DESCRIBE_GROUPS_maxVersion : Fld Z Z.heap w_DESCRIBE_GROUPS "com/example/loose_grip/loosegrip/wire/ApiKey" "maxVersion" "S" (.int (4 : Int32))) (F_LIST_GROUPS_minVersion : Fld Z Z.heap w_LIST_GROUPS "com/example/loose_grip/loosegrip/wire/ApiKey" "minVersion" "S" (.int (0 : Int32))) (F_LIST_GROUPS_maxVersion : Fld Z Z.heap w_LIST_GROUPS "com/example/loose_grip/loosegrip/wire/ApiKey" "maxVersion" "S" (.int (2 : Int32))) (F_API_VERSIONS_minVersion : Fld Z Z.heap w_API_VERSIONS "com/example/loose_grip/loosegrip/wire/ApiKey" "minVersion" "S" (.int (0 : Int32))) (F_API_VERSIONS_maxVersion : Fld Z Z.heap w_API_VERSIONS "com/example/loose_grip/loosegrip/wire/ApiKey" "maxVersion" "S" (.int (2 : Int32))) (R_K : Arv Z h0 bK kK (.object "com/example/loose_grip/loosegrip/wire/ApiKey") (13 : Int32) [(.ref w_FETCH), (.ref w_LIST_OFFSETS), (.ref w_METADATA), (.ref w_OFFSET_COMMIT), (.ref w_OFFSET_FETCH), (.ref w_FIND_COORDINATOR), (.ref w_JOIN_GROUP), (.ref w_HEARTBEAT), (.ref w_LEAVE_GROUP), (.ref w_SYNC_GROUP), (.ref w_DESCRIBE_GROUPS), (.ref w_LIST_GROUPS), (.ref w_API_VERSIONS)] .null) (R_L : Arv Z h0 bL kL .int (13 : Int32) [(.int (0 : Int32)), (.int (0 : Int32)), (.int (0 : Int32)), (.int (2 : Int32)), (.int (1 : Int32)), (.int (0 : Int32)), (.int (0 : Int32)), (.int (0 : Int32)), (.int (0 : Int32)), (.int (0 : Int32)), (.int (0 : Int32)), (.int (0 : Int32)), (.int (0 : Int32))] (.int (0 : Int32))) :
    own_G p.tables e below (own_E s (Q_law n0) room_1.cells room_1.slots) (T0.setTop (mkF m 155 #[.val (.int p1), .val (.int p2), .val (.ref bK), .val (.ref bL), .unset, .unset, .unset, .unset, .unset] [])) := by
  show own_G p.tables e below _ (T0.setTop (mkF m 155 #[.val (.int p1), .val (.int p2), .val (.ref bK), .val (.ref bL), .unset, .unset, .unset, .unset, .unset] []))
  refine own_st (fun _ kS => XS.bipush X0.here hx rfl (hb hby at_155) kS) ?_
  show own_G p.tables e below _ (T0.setTop (mkF m 157 #[.val (.int p1), .val (.int p2), .val (.ref bK), .val (.ref bL), .unset, .unset, .unset, .unset, .unset] [(.int (13 : Int32))]))
  obtain ⟨T1, h1, k1, X1, e1, E1, A1, st1⟩ := newP X0 hx hZ (hw _ (List.mem_of_getElem? (i := 30) rfl)) e0 (g := (mkF m 157 #[.val (.int p1), .val (.int p2), .val (.ref bK), .val (.ref bL), .unset, .unset, .unset, .unset, .unset] [(.int (13 : Int32))])) rfl (hb hby at_157) rfl (by decide) (cap := 13) (by decide) (by decide) (by decide) (by decide)
  obtain ⟨b1, g1⟩ : ∃ z, z = h0.size := ⟨_, rfl⟩
  have ne_bK_b1 : bK ≠ b1 := Nat.ne_of_lt (Nat.lt_of_lt_of_eq R_K.lt g1.symm)
  have ne_bL_b1 : bL ≠ b1 := Nat.ne_of_lt (Nat.lt_of_lt_of_eq R_L.lt g1.symm)
  have ge_b1 : n0 ≤ b1 := Nat.le_trans Z0 (Nat.le_of_eq g1.symm)
  rw [← g1] at A1 st1
  have O1 := O0.ext E1
  have R1 : Arv Z h1 b1 k1 .int (13 : Int32) [(.int (0 : Int32)), (.int (0 : Int32)), (.int (0 : Int32)), (.int (0 : Int32)), (.int (0 : Int32)), (.int (0 : Int32)), (.int (0 : Int32)), (.int (0 : Int32)), (.int (0 : Int32)), (.int (0 : Int32)), (.int (0 : Int32)), (.int (0 : Int32)), (.int (0 : Int32))] (.int (0 : Int32)) := (Arv.new A1 (by decide)).pad (pad_rep [] (.int (0 : Int32)) 13)
  refine own_st st1 ?_
  show own_G p.tables e below _ (T1.setTop (mkF m 159 #[.val (.int p1), .val (.int p2), .val (.ref bK), .val (.ref bL), .unset, .unset, .unset, .unset, .unset] [(.ref b1)]))
  refine own_st (fun _ kS => XS.dup X1.here hx rfl (hb hby at_159) rfl rfl kS) ?_
  show own_G p.tables e below _ (T1.setTop (mkF m 160 #[.val (.int p1), .val (.int p2), .val (.ref bK), .val (.ref bL), .unset, .unset, .unset, .unset, .unset] [(.ref b1), (.ref b1)]))
  refine own_st (fun _ kS => XS.iconst X1.here hx rfl (hb hby at_160) kS) ?_
  show own_G p.tables e below _ (T1.setTop (mkF m 161 #[.val (.int p1), .val (.int p2), .val (.ref bK), .val (.ref bL), .unset, .unset, .unset, .unset, .unset] [(.int (0 : Int32)), (.ref b1), (.ref b1)]))
  refine own_st (fun _ kS => XS.bipush X1.here hx rfl (hb hby at_161) kS) ?_
  show own_G p.tables e below _ (T1.setTop (mkF m 163 #[.val (.int p1), .val (.int p2), .val (.ref bK), .val (.ref bL), .unset, .unset, .unset, .unset, .unset] [(.int (11 : Int32)), (.int (0 : Int32)), (.ref b1), (.ref b1)]))
  obtain ⟨cl2, Ar2, qa2, qs2, qn2, qh2, qg2⟩ := id R1
  obtain ⟨T2, h2, X2, e2, W2, st2⟩ := stI X1 hx hZ e1 Ar2 (j := (0 : Int32)) (inb_of qs2 ⟨by decide, by decide⟩) (g := (mkF m 163 #[.val (.int p1), .val (.int p2), .val (.ref bK), .val (.ref bL), .unset, .unset, .unset, .unset, .unset] [(.int (11 : Int32)), (.int (0 : Int32)), (.ref b1), (.ref b1)])) rfl rfl (hb hby at_163)
  have N2 := Fr.snoc X2 N0 ge_b1
  have O2 := O1.wr W2 ge_b1
  have R2 : Arv Z h2 b1 k1 .int (13 : Int32) [(.int (11 : Int32)), (.int (0 : Int32)), (.int (0 : Int32)), (.int (0 : Int32)), (.int (0 : Int32)), (.int (0 : Int32)), (.int (0 : Int32)), (.int (0 : Int32)), (.int (0 : Int32)), (.int (0 : Int32)), (.int (0 : Int32)), (.int (0 : Int32)), (.int (0 : Int32))] (.int (0 : Int32)) := Arv.set Ar2 qa2 qs2 qn2 qh2 qg2 rfl W2 0 rfl (Nat.le_of_ble_eq_true rfl)
  refine own_st st2 ?_
  show own_G p.tables e below _ (T2.setTop (mkF m 164 #[.val (.int p1), .val (.int p2), .val (.ref bK), .val (.ref bL), .unset, .unset, .unset, .unset, .unset] [(.ref b1)]))
  refine own_st (fun _ kS => XS.dup X2.here hx rfl (hb hby at_164) rfl rfl kS) ?_
  show own_G p.tables e below _ (T2.setTop (mkF m 165 #[.val (.int p1), .val (.int p2), .val (.ref bK), .val (.ref bL), .unset, .unset, .unset, .unset, .unset] [(.ref b1), (.ref b1)]))
  refine own_st (fun _ kS => XS.iconst X2.here hx rfl (hb hby at_165) kS) ?_
  show own_G p.tables e below _ (T2.setTop (mkF m 166 #[.val (.int p1), .val (.int p2), .val (.ref bK), .val (.ref bL), .unset, .unset, .unset, .unset, .unset] [(.int (1 : Int32)), (.ref b1), (.ref b1)]))
  refine own_st (fun _ kS => XS.iconst X2.here hx rfl (hb hby at_166) kS) ?_
  show own_G p.tables e below _ (T2.setTop (mkF m 167 #[.val (.int p1), .val (.int p2), .val (.ref bK), .val (.ref bL), .unset, .unset, .unset, .unset, .unset] [(.int (5 : Int32)), (.int (1 : Int32)), (.ref b1), (.ref b1)]))
  obtain ⟨cl3, Ar3, qa3, qs3, qn3, qh3, qg3⟩ := id R2
  obtain ⟨T3, h3, X3, e3, W3, st3⟩ := stI X2 hx hZ e2 Ar3 (j := (1 : Int32)) (inb_of qs3 ⟨by decide, by decide⟩) (g := (mkF m 167 #[.val (.int p1), .val (.int p2), .val (.ref bK), .val (.ref bL), .unset, .unset, .unset, .unset, .unset] [(.int (5 : Int32)), (.int (1 : Int32)), (.ref b1), (.ref b1)])) rfl rfl (hb hby at_167)
  have N3 := Fr.snoc X3 N2 ge_b1
  have O3 := O2.wr W3 ge_b1
  have R3 : Arv Z h3 b1 k1 .int (13 : Int32) [(.int (11 : Int32)), (.int (5 : Int32)), (.int (0 : Int32)), (.int (0 : Int32)), (.int (0 : Int32)), (.int (0 : Int32)), (.int (0 : Int32)), (.int (0 : Int32)), (.int (0 : Int32)), (.int (0 : Int32)), (.int (0 : Int32)), (.int (0 : Int32)), (.int (0 : Int32))] (.int (0 : Int32)) := Arv.set Ar3 qa3 qs3 qn3 qh3 qg3 rfl W3 1 rfl (Nat.le_of_ble_eq_true rfl)
  refine own_st st3 ?_
  show own_G p.tables e below _ (T3.setTop (mkF m 168 #[.val (.int p1), .val (.int p2), .val (.ref bK), .val (.ref bL), .unset, .unset, .unset, .unset, .unset] [(.ref b1)]))
  refine own_st (fun _ kS => XS.dup X3.here hx rfl (hb hby at_168) rfl rfl kS) ?_
  show own_G p.tables e below _ (T3.setTop (mkF m 169 #[.val (.int p1), .val (.int p2), .val (.ref bK), .val (.ref bL), .unset, .unset, .unset, .unset, .unset] [(.ref b1), (.ref b1)]))
  refine own_st (fun _ kS => XS.iconst X3.here hx rfl (hb hby at_169) kS) ?_
  show own_G p.tables e below _ (T3.setTop (mkF m 170 #[.val (.int p1), .val (.int p2), .val (.ref bK), .val (.ref bL), .unset, .unset, .unset, .unset, .unset] [(.int (2 : Int32)), (.ref b1), (.ref b1)]))
  refine own_st (fun _ kS => XS.iconst X3.here hx rfl (hb hby at_170) kS) ?_
  show own_G p.tables e below _ (T3.setTop (mkF m 171 #[.val (.int p1), .val (.int p2), .val (.ref bK), .val (.ref bL), .unset, .unset, .unset, .unset, .unset] [(.int (4 : Int32)), (.int (2 : Int32)), (.ref b1), (.ref b1)]))
  obtain ⟨cl4, Ar4, qa4, qs4, qn4, qh4, qg4⟩ := id R3
  obtain ⟨T4, h4, X4, e4, W4, st4⟩ := stI X3 hx hZ e3 Ar4 (j := (2 : Int32)) (inb_of qs4 ⟨by decide, by decide⟩) (g := (mkF m 171 #[.val (.int p1), .val (.int p2), .val (.ref bK), .val (.ref bL), .unset, .unset, .unset, .unset, .unset] [(.int (4 : Int32)), (.int (2 : Int32)), (.ref b1), (.ref b1)])) rfl rfl (hb hby at_171)
  have N4 := Fr.snoc X4 N3 ge_b1
  have O4 := O3.wr W4 ge_b1
  have R4 : Arv Z h4 b1 k1 .int (13 : Int32) [(.int (11 : Int32)), (.int (5 : Int32)), (.int (4 : Int32)), (.int (0 : Int32)), (.int (0 : Int32)), (.int (0 : Int32)), (.int (0 : Int32)), (.int (0 : Int32)), (.int (0 : Int32)), (.int (0 : Int32)), (.int (0 : Int32)), (.int (0 : Int32)), (.int (0 : Int32))] (.int (0 : Int32)) := Arv.set Ar4 qa4 qs4 qn4 qh4 qg4 rfl W4 2 rfl (Nat.le_of_ble_eq_true rfl)
  refine own_st st4 ?_
  show own_G p.tables e below _ (T4.setTop (mkF m 172 #[.val (.int p1), .val (.int p2), .val (.ref bK), .val (.ref bL), .unset, .unset, .unset, .unset, .unset] [(.ref b1)]))
  refine own_st (fun _ kS => XS.dup X4.here hx rfl (hb hby at_172) rfl rfl kS) ?_
  show own_G p.tables e below _ (T4.setTop (mkF m 173 #[.val (.int p1), .val (.int p2), .val (.ref bK), .val (.ref bL), .unset, .unset, .unset, .unset, .unset] [(.ref b1), (.ref b1)]))
  refine own_st (fun _ kS => XS.iconst X4.here hx rfl (hb hby at_173) kS) ?_
  show own_G p.tables e below _ (T4.setTop (mkF m 174 #[.val (.int p1), .val (.int p2), .val (.ref bK), .val (.ref bL), .unset, .unset, .unset, .unset, .unset] [(.int (3 : Int32)), (.ref b1), (.ref b1)]))
  refine own_st (fun _ kS => XS.bipush X4.here hx rfl (hb hby at_174) kS) ?_
  show own_G p.tables e below _ (T4.setTop (mkF m 176 #[.val (.int p1), .val (.int p2), .val (.ref bK), .val (.ref bL), .unset, .unset, .unset, .unset, .unset] [(.int (7 : Int32)), (.int (3 : Int32)), (.ref b1), (.ref b1)]))
  obtain ⟨cl5, Ar5, qa5, qs5, qn5, qh5, qg5⟩ := id R4
  obtain ⟨T5, h5, X5, e5, W5, st5⟩ := stI X4 hx hZ e4 Ar5 (j := (3 : Int32)) (inb_of qs5 ⟨by decide, by decide⟩) (g := (mkF m 176 #[.val (.int p1), .val (.int p2), .val (.ref bK), .val (.ref bL), .unset, .unset, .unset, .unset, .unset] [(.int (7 : Int32)), (.int (3 : Int32)), (.ref b1), (.ref b1)])) rfl rfl (hb hby at_176)
  have N5 := Fr.snoc X5 N4 ge_b1
  have O5 := O4.wr W5 ge_b1
  have R5 : Arv Z h5 b1 k1 .int (13 : Int32) [(.int (11 : Int32)), (.int (5 : Int32)), (.int (4 : Int32)), (.int (7 : Int32)), (.int (0 : Int32)), (.int (0 : Int32)), (.int (0 : Int32)), (.int (0 : Int32)), (.int (0 : Int32)), (.int (0 : Int32)), (.int (0 : Int32)), (.int (0 : Int32)), (.int (0 : Int32))] (.int (0 : Int32)) := Arv.set Ar5 qa5 qs5 qn5 qh5 qg5 rfl W5 3 rfl (Nat.le_of_ble_eq_true rfl)
  refine own_st st5 ?_
  show own_G p.tables e below _ (T5.setTop (mkF m 177 #[.val (.int p1), .val (.int p2), .val (.ref bK), .val (.ref bL), .unset, .unset, .unset, .unset, .unset] [(.ref b1)]))
  refine own_st (fun _ kS => XS.dup X5.here hx rfl (hb hby at_177) rfl rfl kS) ?_
  show own_G p.tables e below _ (T5.setTop (mkF m 178 #[.val (.int p1), .val (.int p2), .val (.ref bK), .val (.ref bL), .unset, .unset, .unset, .unset, .unset] [(.ref b1), (.ref b1)]))
  refine own_st (fun _ kS => XS.iconst X5.here hx rfl (hb hby at_178) kS) ?_
  show own_G p.tables e below _ (T5.setTop (mkF m 179 #[.val (.int p1), .val (.int p2), .val (.ref bK), .val (.ref bL), .unset, .unset, .unset, .unset, .unset] [(.int (4 : Int32)), (.ref b1), (.ref b1)]))
  refine own_st (fun _ kS => XS.iconst X5.here hx rfl (hb hby at_179) kS) ?_
  show own_G p.tables e below _ (T5.setTop (mkF m 180 #[.val (.int p1), .val (.int p2), .val (.ref bK), .val (.ref bL), .unset, .unset, .unset, .unset, .unset] [(.int (5 : Int32)), (.int (4 : Int32)), (.ref b1), (.ref b1)]))
  obtain ⟨cl6, Ar6, qa6, qs6, qn6, qh6, qg6⟩ := id R5
  obtain ⟨T6, h6, X6, e6, W6, st6⟩ := stI X5 hx hZ e5 Ar6 (j := (4 : Int32)) (inb_of qs6 ⟨by decide, by decide⟩) (g := (mkF m 180 #[.val (.int p1), .val (.int p2), .val (.ref bK), .val (.ref bL), .unset, .unset, .unset, .unset, .unset] [(.int (5 : Int32)), (.int (4 : Int32)), (.ref b1), (.ref b1)])) rfl rfl (hb hby at_180)
  have N6 := Fr.snoc X6 N5 ge_b1
  have O6 := O5.wr W6 ge_b1
  have R6 : Arv Z h6 b1 k1 .int (13 : Int32) [(.int (11 : Int32)), (.int (5 : Int32)), (.int (4 : Int32)), (.int (7 : Int32)), (.int (5 : Int32)), (.int (0 : Int32)), (.int (0 : Int32)), (.int (0 : Int32)), (.int (0 : Int32)), (.int (0 : Int32)), (.int (0 : Int32)), (.int (0 : Int32)), (.int (0 : Int32))] (.int (0 : Int32)) := Arv.set Ar6 qa6 qs6 qn6 qh6 qg6 rfl W6 4 rfl (Nat.le_of_ble_eq_true rfl)
  refine own_st st6 ?_
  show own_G p.tables e below _ (T6.setTop (mkF m 181 #[.val (.int p1), .val (.int p2), .val (.ref bK), .val (.ref bL), .unset, .unset, .unset, .unset, .unset] [(.ref b1)]))
  refine own_st (fun _ kS => XS.dup X6.here hx rfl (hb hby at_181) rfl rfl kS) ?_
  show own_G p.tables e below _ (T6.setTop (mkF m 182 #[.val (.int p1), .val (.int p2), .val (.ref bK), .val (.ref bL), .unset, .unset, .unset, .unset, .unset] [(.ref b1), (.ref b1)]))
  refine own_st (fun _ kS => XS.iconst X6.here hx rfl (hb hby at_182) kS) ?_
  show own_G p.tables e below _ (T6.setTop (mkF m 183 #[.val (.int p1), .val (.int p2), .val (.ref bK), .val (.ref bL), .unset, .unset, .unset, .unset, .unset] [(.int (5 : Int32)), (.ref b1), (.ref b1)]))
  refine own_st (fun _ kS => XS.iconst X6.here hx rfl (hb hby at_183) kS) ?_
  show own_G p.tables e below _ (T6.setTop (mkF m 184 #[.val (.int p1), .val (.int p2), .val (.ref bK), .val (.ref bL), .unset, .unset, .unset, .unset, .unset] [(.int (2 : Int32)), (.int (5 : Int32)), (.ref b1), (.ref b1)]))
  obtain ⟨cl7, Ar7, qa7, qs7, qn7, qh7, qg7⟩ := id R6
  obtain ⟨T7, h7, X7, e7, W7, st7⟩ := stI X6 hx hZ e6 Ar7 (j := (5 : Int32)) (inb_of qs7 ⟨by decide, by decide⟩) (g := (mkF m 184 #[.val (.int p1), .val (.int p2), .val (.ref bK), .val (.ref bL), .unset, .unset, .unset, .unset, .unset] [(.int (2 : Int32)), (.int (5 : Int32)), (.ref b1), (.ref b1)])) rfl rfl (hb hby at_184)
  have N7 := Fr.snoc X7 N6 ge_b1
  have O7 := O6.wr W7 ge_b1
  have R7 : Arv Z h7 b1 k1 .int (13 : Int32) [(.int (11 : Int32)), (.int (5 : Int32)), (.int (4 : Int32)), (.int (7 : Int32)), (.int (5 : Int32)), (.int (2 : Int32)), (.int (0 : Int32)), (.int (0 : Int32)), (.int (0 : Int32)), (.int (0 : Int32)), (.int (0 : Int32)), (.int (0 : Int32)), (.int (0 : Int32))] (.int (0 : Int32)) := Arv.set Ar7 qa7 qs7 qn7 qh7 qg7 rfl W7 5 rfl (Nat.le_of_ble_eq_true rfl)
  refine own_st st7 ?_
  show own_G p.tables e below _ (T7.setTop (mkF m 185 #[.val (.int p1), .val (.int p2), .val (.ref bK), .val (.ref bL), .unset, .unset, .unset, .unset, .unset] [(.ref b1)]))
  refine own_st (fun _ kS => XS.dup X7.here hx rfl (hb hby at_185) rfl rfl kS) ?_
  show own_G p.tables e below _ (T7.setTop (mkF m 186 #[.val (.int p1), .val (.int p2), .val (.ref bK), .val (.ref bL), .unset, .unset, .unset, .unset, .unset] [(.ref b1), (.ref b1)]))
  refine own_st (fun _ kS => XS.bipush X7.here hx rfl (hb hby at_186) kS) ?_
  show own_G p.tables e below _ (T7.setTop (mkF m 188 #[.val (.int p1), .val (.int p2), .val (.ref bK), .val (.ref bL), .unset, .unset, .unset, .unset, .unset] [(.int (6 : Int32)), (.ref b1), (.ref b1)]))
  refine own_st (fun _ kS => XS.iconst X7.here hx rfl (hb hby at_188) kS) ?_
  show own_G p.tables e below _ (T7.setTop (mkF m 189 #[.val (.int p1), .val (.int p2), .val (.ref bK), .val (.ref bL), .unset, .unset, .unset, .unset, .unset] [(.int (5 : Int32)), (.int (6 : Int32)), (.ref b1), (.ref b1)]))
  obtain ⟨cl8, Ar8, qa8, qs8, qn8, qh8, qg8⟩ := id R7
  obtain ⟨T8, h8, X8, e8, W8, st8⟩ := stI X7 hx hZ e7 Ar8 (j := (6 : Int32)) (inb_of qs8 ⟨by decide, by decide⟩) (g := (mkF m 189 #[.val (.int p1), .val (.int p2), .val (.ref bK), .val (.ref bL), .unset, .unset, .unset, .unset, .unset] [(.int (5 : Int32)), (.int (6 : Int32)), (.ref b1), (.ref b1)])) rfl rfl (hb hby at_189)
  have N8 := Fr.snoc X8 N7 ge_b1
  have O8 := O7.wr W8 ge_b1
  have R8 : Arv Z h8 b1 k1 .int (13 : Int32) [(.int (11 : Int32)), (.int (5 : Int32)), (.int (4 : Int32)), (.int (7 : Int32)), (.int (5 : Int32)), (.int (2 : Int32)), (.int (5 : Int32)), (.int (0 : Int32)), (.int (0 : Int32)), (.int (0 : Int32)), (.int (0 : Int32)), (.int (0 : Int32)), (.int (0 : Int32))] (.int (0 : Int32)) := Arv.set Ar8 qa8 qs8 qn8 qh8 qg8 rfl W8 6 rfl (Nat.le_of_ble_eq_true rfl)
  refine own_st st8 ?_
  show own_G p.tables e below _ (T8.setTop (mkF m 190 #[.val (.int p1), .val (.int p2), .val (.ref bK), .val (.ref bL), .unset, .unset, .unset, .unset, .unset] [(.ref b1)]))
  refine own_st (fun _ kS => XS.dup X8.here hx rfl (hb hby at_190) rfl rfl kS) ?_
  show own_G p.tables e below _ (T8.setTop (mkF m 191 #[.val (.int p1), .val (.int p2), .val (.ref bK), .val (.ref bL), .unset, .unset, .unset, .unset, .unset] [(.ref b1), (.ref b1)]))
  refine own_st (fun _ kS => XS.bipush X8.here hx rfl (hb hby at_191) kS) ?_
  show own_G p.tables e below _ (T8.setTop (mkF m 193 #[.val (.int p1), .val (.int p2), .val (.ref bK), .val (.ref bL), .unset, .unset, .unset, .unset, .unset] [(.int (7 : Int32)), (.ref b1), (.ref b1)]))
  refine own_st (fun _ kS => XS.iconst X8.here hx rfl (hb hby at_193) kS) ?_
  show own_G p.tables e below _ (T8.setTop (mkF m 194 #[.val (.int p1), .val (.int p2), .val (.ref bK), .val (.ref bL), .unset, .unset, .unset, .unset, .unset] [(.int (3 : Int32)), (.int (7 : Int32)), (.ref b1), (.ref b1)]))
  obtain ⟨cl9, Ar9, qa9, qs9, qn9, qh9, qg9⟩ := id R8
  obtain ⟨T9, h9, X9, e9, W9, st9⟩ := stI X8 hx hZ e8 Ar9 (j := (7 : Int32)) (inb_of qs9 ⟨by decide, by decide⟩) (g := (mkF m 194 #[.val (.int p1), .val (.int p2), .val (.ref bK), .val (.ref bL), .unset, .unset, .unset, .unset, .unset] [(.int (3 : Int32)), (.int (7 : Int32)), (.ref b1), (.ref b1)])) rfl rfl (hb hby at_194)
  have N9 := Fr.snoc X9 N8 ge_b1
  have O9 := O8.wr W9 ge_b1
  have R9 : Arv Z h9 b1 k1 .int (13 : Int32) [(.int (11 : Int32)), (.int (5 : Int32)), (.int (4 : Int32)), (.int (7 : Int32)), (.int (5 : Int32)), (.int (2 : Int32)), (.int (5 : Int32)), (.int (3 : Int32)), (.int (0 : Int32)), (.int (0 : Int32)), (.int (0 : Int32)), (.int (0 : Int32)), (.int (0 : Int32))] (.int (0 : Int32)) := Arv.set Ar9 qa9 qs9 qn9 qh9 qg9 rfl W9 7 rfl (Nat.le_of_ble_eq_true rfl)
  refine own_st st9 ?_
  show own_G p.tables e below _ (T9.setTop (mkF m 195 #[.val (.int p1), .val (.int p2), .val (.ref bK), .val (.ref bL), .unset, .unset, .unset, .unset, .unset] [(.ref b1)]))
  refine own_st (fun _ kS => XS.dup X9.here hx rfl (hb hby at_195) rfl rfl kS) ?_
  show own_G p.tables e below _ (T9.setTop (mkF m 196 #[.val (.int p1), .val (.int p2), .val (.ref bK), .val (.ref bL), .unset, .unset, .unset, .unset, .unset] [(.ref b1), (.ref b1)]))
  refine own_st (fun _ kS => XS.bipush X9.here hx rfl (hb hby at_196) kS) ?_
  show own_G p.tables e below _ (T9.setTop (mkF m 198 #[.val (.int p1), .val (.int p2), .val (.ref bK), .val (.ref bL), .unset, .unset, .unset, .unset, .unset] [(.int (8 : Int32)), (.ref b1), (.ref b1)]))
  refine own_st (fun _ kS => XS.iconst X9.here hx rfl (hb hby at_198) kS) ?_
  show own_G p.tables e below _ (T9.setTop (mkF m 199 #[.val (.int p1), .val (.int p2), .val (.ref bK), .val (.ref bL), .unset, .unset, .unset, .unset, .unset] [(.int (3 : Int32)), (.int (8 : Int32)), (.ref b1), (.ref b1)]))
  obtain ⟨cl10, Ar10, qa10, qs10, qn10, qh10, qg10⟩ := id R9
  obtain ⟨T10, h10, X10, e10, W10, st10⟩ := stI X9 hx hZ e9 Ar10 (j := (8 : Int32)) (inb_of qs10 ⟨by decide, by decide⟩) (g := (mkF m 199 #[.val (.int p1), .val (.int p2), .val (.ref bK), .val (.ref bL), .unset, .unset, .unset, .unset, .unset] [(.int (3 : Int32)), (.int (8 : Int32)), (.ref b1), (.ref b1)])) rfl rfl (hb hby at_199)
  have N10 := Fr.snoc X10 N9 ge_b1
  have O10 := O9.wr W10 ge_b1
  have R10 : Arv Z h10 b1 k1 .int (13 : Int32) [(.int (11 : Int32)), (.int (5 : Int32)), (.int (4 : Int32)), (.int (7 : Int32)), (.int (5 : Int32)), (.int (2 : Int32)), (.int (5 : Int32)), (.int (3 : Int32)), (.int (3 : Int32)), (.int (0 : Int32)), (.int (0 : Int32)), (.int (0 : Int32)), (.int (0 : Int32))] (.int (0 : Int32)) := Arv.set Ar10 qa10 qs10 qn10 qh10 qg10 rfl W10 8 rfl (Nat.le_of_ble_eq_true rfl)
  refine own_st st10 ?_
  show own_G p.tables e below _ (T10.setTop (mkF m 200 #[.val (.int p1), .val (.int p2), .val (.ref bK), .val (.ref bL), .unset, .unset, .unset, .unset, .unset] [(.ref b1)]))
  refine own_st (fun _ kS => XS.dup X10.here hx rfl (hb hby at_200) rfl rfl kS) ?_
  show own_G p.tables e below _ (T10.setTop (mkF m 201 #[.val (.int p1), .val (.int p2), .val (.ref bK), .val (.ref bL), .unset, .unset, .unset, .unset, .unset] [(.ref b1), (.ref b1)]))
  refine own_st (fun _ kS => XS.bipush X10.here hx rfl (hb hby at_201) kS) ?_
  show own_G p.tables e below _ (T10.setTop (mkF m 203 #[.val (.int p1), .val (.int p2), .val (.ref bK), .val (.ref bL), .unset, .unset, .unset, .unset, .unset] [(.int (9 : Int32)), (.ref b1), (.ref b1)]))
  refine own_st (fun _ kS => XS.iconst X10.here hx rfl (hb hby at_203) kS) ?_
  show own_G p.tables e below _ (T10.setTop (mkF m 204 #[.val (.int p1), .val (.int p2), .val (.ref bK), .val (.ref bL), .unset, .unset, .unset, .unset, .unset] [(.int (3 : Int32)), (.int (9 : Int32)), (.ref b1), (.ref b1)]))
  obtain ⟨cl11, Ar11, qa11, qs11, qn11, qh11, qg11⟩ := id R10
  obtain ⟨T11, h11, X11, e11, W11, st11⟩ := stI X10 hx hZ e10 Ar11 (j := (9 : Int32)) (inb_of qs11 ⟨by decide, by decide⟩) (g := (mkF m 204 #[.val (.int p1), .val (.int p2), .val (.ref bK), .val (.ref bL), .unset, .unset, .unset, .unset, .unset] [(.int (3 : Int32)), (.int (9 : Int32)), (.ref b1), (.ref b1)])) rfl rfl (hb hby at_204)
  have N11 := Fr.snoc X11 N10 ge_b1
  have O11 := O10.wr W11 ge_b1
  have R11 : Arv Z h11 b1 k1 .int (13 : Int32) [(.int (11 : Int32)), (.int (5 : Int32)), (.int (4 : Int32)), (.int (7 : Int32)), (.int (5 : Int32)), (.int (2 : Int32)), (.int (5 : Int32)), (.int (3 : Int32)), (.int (3 : Int32)), (.int (3 : Int32)), (.int (0 : Int32)), (.int (0 : Int32)), (.int (0 : Int32))] (.int (0 : Int32)) := Arv.set Ar11 qa11 qs11 qn11 qh11 qg11 rfl W11 9 rfl (Nat.le_of_ble_eq_true rfl)
  refine own_st st11 ?_
  show own_G p.tables e below _ (T11.setTop (mkF m 205 #[.val (.int p1), .val (.int p2), .val (.ref bK), .val (.ref bL), .unset, .unset, .unset, .unset, .unset] [(.ref b1)]))
  refine own_st (fun _ kS => XS.dup X11.here hx rfl (hb hby at_205) rfl rfl kS) ?_
  show own_G p.tables e below _ (T11.setTop (mkF m 206 #[.val (.int p1), .val (.int p2), .val (.ref bK), .val (.ref bL), .unset, .unset, .unset, .unset, .unset] [(.ref b1), (.ref b1)]))
  refine own_st (fun _ kS => XS.bipush X11.here hx rfl (hb hby at_206) kS) ?_
  show own_G p.tables e below _ (T11.setTop (mkF m 208 #[.val (.int p1), .val (.int p2), .val (.ref bK), .val (.ref bL), .unset, .unset, .unset, .unset, .unset] [(.int (10 : Int32)), (.ref b1), (.ref b1)]))
  refine own_st (fun _ kS => XS.iconst X11.here hx rfl (hb hby at_208) kS) ?_
  show own_G p.tables e below _ (T11.setTop (mkF m 209 #[.val (.int p1), .val (.int p2), .val (.ref bK), .val (.ref bL), .unset, .unset, .unset, .unset, .unset] [(.int (4 : Int32)), (.int (10 : Int32)), (.ref b1), (.ref b1)]))
  obtain ⟨cl12, Ar12, qa12, qs12, qn12, qh12, qg12⟩ := id R11
  obtain ⟨T12, h12, X12, e12, W12, st12⟩ := stI X11 hx hZ e11 Ar12 (j := (10 : Int32)) (inb_of qs12 ⟨by decide, by decide⟩) (g := (mkF m 209 #[.val (.int p1), .val (.int p2), .val (.ref bK), .val (.ref bL), .unset, .unset, .unset, .unset, .unset] [(.int (4 : Int32)), (.int (10 : Int32)), (.ref b1), (.ref b1)])) rfl rfl (hb hby at_209)
  have N12 := Fr.snoc X12 N11 ge_b1
  have O12 := O11.wr W12 ge_b1
  have R12 : Arv Z h12 b1 k1 .int (13 : Int32) [(.int (11 : Int32)), (.int (5 : Int32)), (.int (4 : Int32)), (.int (7 : Int32)), (.int (5 : Int32)), (.int (2 : Int32)), (.int (5 : Int32)), (.int (3 : Int32)), (.int (3 : Int32)), (.int (3 : Int32)), (.int (4 : Int32)), (.int (0 : Int32)), (.int (0 : Int32))] (.int (0 : Int32)) := Arv.set Ar12 qa12 qs12 qn12 qh12 qg12 rfl W12 10 rfl (Nat.le_of_ble_eq_true rfl)
  refine own_st st12 ?_
  show own_G p.tables e below _ (T12.setTop (mkF m 210 #[.val (.int p1), .val (.int p2), .val (.ref bK), .val (.ref bL), .unset, .unset, .unset, .unset, .unset] [(.ref b1)]))
  refine own_st (fun _ kS => XS.dup X12.here hx rfl (hb hby at_210) rfl rfl kS) ?_
  show own_G p.tables e below _ (T12.setTop (mkF m 211 #[.val (.int p1), .val (.int p2), .val (.ref bK), .val (.ref bL), .unset, .unset, .unset, .unset, .unset] [(.ref b1), (.ref b1)]))
  refine own_st (fun _ kS => XS.bipush X12.here hx rfl (hb hby at_211) kS) ?_
  show own_G p.tables e below _ (T12.setTop (mkF m 213 #[.val (.int p1), .val (.int p2), .val (.ref bK), .val (.ref bL), .unset, .unset, .unset, .unset, .unset] [(.int (11 : Int32)), (.ref b1), (.ref b1)]))
  refine own_st (fun _ kS => XS.iconst X12.here hx rfl (hb hby at_213) kS) ?_
  show own_G p.tables e below _ (T12.setTop (mkF m 214 #[.val (.int p1), .val (.int p2), .val (.ref bK), .val (.ref bL), .unset, .unset, .unset, .unset, .unset] [(.int (2 : Int32)), (.int (11 : Int32)), (.ref b1), (.ref b1)]))
  obtain ⟨cl13, Ar13, qa13, qs13, qn13, qh13, qg13⟩ := id R12
  obtain ⟨T13, h13, X13, e13, W13, st13⟩ := stI X12 hx hZ e12 Ar13 (j := (11 : Int32)) (inb_of qs13 ⟨by decide, by decide⟩) (g := (mkF m 214 #[.val (.int p1), .val (.int p2), .val (.ref bK), .val (.ref bL), .unset, .unset, .unset, .unset, .unset] [(.int (2 : Int32)), (.int (11 : Int32)), (.ref b1), (.ref b1)])) rfl rfl (hb hby at_214)
  have N13 := Fr.snoc X13 N12 ge_b1
  have O13 := O12.wr W13 ge_b1
  have R13 : Arv Z h13 b1 k1 .int (13 : Int32) [(.int (11 : Int32)), (.int (5 : Int32)), (.int (4 : Int32)), (.int (7 : Int32)), (.int (5 : Int32)), (.int (2 : Int32)), (.int (5 : Int32)), (.int (3 : Int32)), (.int (3 : Int32)), (.int (3 : Int32)), (.int (4 : Int32)), (.int (2 : Int32)), (.int (0 : Int32))] (.int (0 : Int32)) := Arv.set Ar13 qa13 qs13 qn13 qh13 qg13 rfl W13 11 rfl (Nat.le_of_ble_eq_true rfl)
  refine own_st st13 ?_
  show own_G p.tables e below _ (T13.setTop (mkF m 215 #[.val (.int p1), .val (.int p2), .val (.ref bK), .val (.ref bL), .unset, .unset, .unset, .unset, .unset] [(.ref b1)]))
  refine own_st (fun _ kS => XS.dup X13.here hx rfl (hb hby at_215) rfl rfl kS) ?_
  show own_G p.tables e below _ (T13.setTop (mkF m 216 #[.val (.int p1), .val (.int p2), .val (.ref bK), .val (.ref bL), .unset, .unset, .unset, .unset, .unset] [(.ref b1), (.ref b1)]))
  refine own_st (fun _ kS => XS.bipush X13.here hx rfl (hb hby at_216) kS) ?_
  show own_G p.tables e below _ (T13.setTop (mkF m 218 #[.val (.int p1), .val (.int p2), .val (.ref bK), .val (.ref bL), .unset, .unset, .unset, .unset, .unset] [(.int (12 : Int32)), (.ref b1), (.ref b1)]))
  refine own_st (fun _ kS => XS.iconst X13.here hx rfl (hb hby at_218) kS) ?_
  show own_G p.tables e below _ (T13.setTop (mkF m 219 #[.val (.int p1), .val (.int p2), .val (.ref bK), .val (.ref bL), .unset, .unset, .unset, .unset, .unset] [(.int (2 : Int32)), (.int (12 : Int32)), (.ref b1), (.ref b1)]))
  obtain ⟨cl14, Ar14, qa14, qs14, qn14, qh14, qg14⟩ := id R13
  obtain ⟨T14, h14, X14, e14, W14, st14⟩ := stI X13 hx hZ e13 Ar14 (j := (12 : Int32)) (inb_of qs14 ⟨by decide, by decide⟩) (g := (mkF m 219 #[.val (.int p1), .val (.int p2), .val (.ref bK), .val (.ref bL), .unset, .unset, .unset, .unset, .unset] [(.int (2 : Int32)), (.int (12 : Int32)), (.ref b1), (.ref b1)])) rfl rfl (hb hby at_219)
  have N14 := Fr.snoc X14 N13 ge_b1
  have O14 := O13.wr W14 ge_b1
  have R14 : Arv Z h14 b1 k1 .int (13 : Int32) [(.int (11 : Int32)), (.int (5 : Int32)), (.int (4 : Int32)), (.int (7 : Int32)), (.int (5 : Int32)), (.int (2 : Int32)), (.int (5 : Int32)), (.int (3 : Int32)), (.int (3 : Int32)), (.int (3 : Int32)), (.int (4 : Int32)), (.int (2 : Int32)), (.int (2 : Int32))] (.int (0 : Int32)) := Arv.set Ar14 qa14 qs14 qn14 qh14 qg14 rfl W14 12 rfl (Nat.le_of_ble_eq_true rfl)
  refine own_st st14 ?_
  show own_G p.tables e below _ (T14.setTop (mkF m 220 #[.val (.int p1), .val (.int p2), .val (.ref bK), .val (.ref bL), .unset, .unset, .unset, .unset, .unset] [(.ref b1)]))
  refine own_st (fun _ kS => XS.astore X14.here hx rfl (hb hby at_220) rfl rfl (l' := #[.val (.int p1), .val (.int p2), .val (.ref bK), .val (.ref bL), .val (.ref b1), .unset, .unset, .unset, .unset]) rfl kS) ?_
  show own_G p.tables e below _ (T14.setTop (mkF m 222 #[.val (.int p1), .val (.int p2), .val (.ref bK), .val (.ref bL), .val (.ref b1), .unset, .unset, .unset, .unset] []))
  exact sg_C hx hby hml hown hlk hret hZ hw (Nat.le_trans (Nat.le_trans (Nat.le_trans (Nat.le_trans (Nat.le_trans (Nat.le_trans (Nat.le_trans (Nat.le_trans (Nat.le_trans (Nat.le_trans (Nat.le_trans (Nat.le_trans (Nat.le_trans (Nat.le_trans Z0 E1.1) (Keep.of_wr W2).1) (Keep.of_wr W3).1) (Keep.of_wr W4).1) (Keep.of_wr W5).1) (Keep.of_wr W6).1) (Keep.of_wr W7).1) (Keep.of_wr W8).1) (Keep.of_wr W9).1) (Keep.of_wr W10).1) (Keep.of_wr W11).1) (Keep.of_wr W12).1) (Keep.of_wr W13).1) (Keep.of_wr W14).1)  X14 e14 N14 O14 p1 p2 w_FETCH w_LIST_OFFSETS w_METADATA w_OFFSET_COMMIT w_OFFSET_FETCH w_FIND_COORDINATOR w_JOIN_GROUP w_HEARTBEAT w_LEAVE_GROUP w_SYNC_GROUP w_DESCRIBE_GROUPS w_LIST_GROUPS w_API_VERSIONS bK kK bL kL b1 k1 S_FETCH S_LIST_OFFSETS S_METADATA S_OFFSET_COMMIT S_OFFSET_FETCH S_FIND_COORDINATOR S_JOIN_GROUP S_HEARTBEAT S_LEAVE_GROUP S_SYNC_GROUP S_DESCRIBE_GROUPS S_LIST_GROUPS S_API_VERSIONS E_FETCH E_LIST_OFFSETS E_METADATA E_OFFSET_COMMIT E_OFFSET_FETCH E_FIND_COORDINATOR E_JOIN_GROUP E_HEARTBEAT E_LEAVE_GROUP E_SYNC_GROUP E_DESCRIBE_GROUPS E_LIST_GROUPS E_API_VERSIONS F_FETCH_minVersion F_FETCH_maxVersion F_LIST_OFFSETS_minVersion F_LIST_OFFSETS_maxVersion F_METADATA_minVersion F_METADATA_maxVersion F_OFFSET_COMMIT_minVersion F_OFFSET_COMMIT_maxVersion F_OFFSET_FETCH_minVersion F_OFFSET_FETCH_maxVersion F_FIND_COORDINATOR_minVersion F_FIND_COORDINATOR_maxVersion F_JOIN_GROUP_minVersion F_JOIN_GROUP_maxVersion F_HEARTBEAT_minVersion F_HEARTBEAT_maxVersion F_LEAVE_GROUP_minVersion F_LEAVE_GROUP_maxVersion F_SYNC_GROUP_minVersion F_SYNC_GROUP_maxVersion F_DESCRIBE_GROUPS_minVersion F_DESCRIBE_GROUPS_maxVersion F_LIST_GROUPS_minVersion F_LIST_GROUPS_maxVersion F_API_VERSIONS_minVersion F_API_VERSIONS_maxVersion ((((((((((((((Arv.ext R_K E1).other W2 ne_bK_b1).other W3 ne_bK_b1).other W4 ne_bK_b1).other W5 ne_bK_b1).other W6 ne_bK_b1).other W7 ne_bK_b1).other W8 ne_bK_b1).other W9 ne_bK_b1).other W10 ne_bK_b1).other W11 ne_bK_b1).other W12 ne_bK_b1).other W13 ne_bK_b1).other W14 ne_bK_b1) ((((((((((((((Arv.ext R_L E1).other W2 ne_bL_b1).other W3 ne_bL_b1).other W4 ne_bL_b1).other W5 ne_bL_b1).other W6 ne_bL_b1).other W7 ne_bL_b1).other W8 ne_bL_b1).other W9 ne_bL_b1).other W10 ne_bL_b1).other W11 ne_bL_b1).other W12 ne_bL_b1).other W13 ne_bL_b1).other W14 ne_bL_b1) R14
set_option maxRecDepth 65536 in
set_option maxHeartbeats 40000000 in
theorem sg_A {p : Program} {l : Launch} {e : Env} {s : State} {m : MethodId} {args : Array Value} {below : List Frame} {meth : Method} {c : Code} {T0 : State} {locs : List Loc} {Z : State} {a0 : Array Value} {h0 : Heap} {n0 : Nat} (hx : p.tables.exec = Jvm.exec) (hby : c.code = code) (hml : c.maxLocals = 9) (hown : s.vm.findClass "com/example/loose_grip/loosegrip/wire/ApiKeySupportsPinLaw" = some m.cls) (hlk : meth.locks = false) (hret : meth.sig.returnType = some .boolean) (hZ : Z.Warmed39 s.vm) (hw : ∀ d ∈ tables_1, d.before a0 Z = true) (Z0 : n0 ≤ h0.size)
    (X0 : Stand p l e room_1 s m args below meth c T0 locs 1 13) (e0 : T0.heap = h0) (N0 : Fr n0 locs) (O0 : Old Z n0 h0) (p1 : Int32) (p2 : Int32) (w_FETCH : Addr) (w_LIST_OFFSETS : Addr) (w_METADATA : Addr) (w_OFFSET_COMMIT : Addr) (w_OFFSET_FETCH : Addr) (w_FIND_COORDINATOR : Addr) (w_JOIN_GROUP : Addr) (w_HEARTBEAT : Addr) (w_LEAVE_GROUP : Addr) (w_SYNC_GROUP : Addr) (w_DESCRIBE_GROUPS : Addr) (w_LIST_GROUPS : Addr) (w_API_VERSIONS : Addr) (bK : Addr) (kK : ClassId) (S_FETCH : Sta Z Z.heap "com/example/loose_grip/loosegrip/wire/ApiKey" "FETCH" "Lcom/example/loose_grip/loosegrip/wire/ApiKey;" (.ref w_FETCH)) (S_LIST_OFFSETS : Sta Z Z.heap "com/example/loose_grip/loosegrip/wire/ApiKey" "LIST_OFFSETS" "Lcom/example/loose_grip/loosegrip/wire/ApiKey;" (.ref w_LIST_OFFSETS)) (S_METADATA : Sta Z Z.heap "com/example/loose_grip/loosegrip/wire/ApiKey" "METADATA" "Lcom/example/loose_grip/loosegrip/wire/ApiKey;" (.ref w_METADATA)) (S_OFFSET_COMMIT : Sta Z Z.heap "com/example/loose_grip/loosegrip/wire/ApiKey" "OFFSET_COMMIT" "Lcom/example/loose_grip/loosegrip/wire/ApiKey;" (.ref w_OFFSET_COMMIT)) (S_OFFSET_FETCH : Sta Z Z.heap "com/example/loose_grip/loosegrip/wire/ApiKey" "OFFSET_FETCH" "Lcom/example/loose_grip/loosegrip/wire/ApiKey;" (.ref w_OFFSET_FETCH)) (S_FIND_COORDINATOR : Sta Z Z.heap "com/example/loose_grip/loosegrip/wire/ApiKey" "FIND_COORDINATOR" "Lcom/example/loose_grip/loosegrip/wire/ApiKey;" (.ref w_FIND_COORDINATOR)) (S_JOIN_GROUP : Sta Z Z.heap "com/example/loose_grip/loosegrip/wire/ApiKey" "JOIN_GROUP" "Lcom/example/loose_grip/loosegrip/wire/ApiKey;" (.ref w_JOIN_GROUP)) (S_HEARTBEAT : Sta Z Z.heap "com/example/loose_grip/loosegrip/wire/ApiKey" "HEARTBEAT" "Lcom/example/loose_grip/loosegrip/wire/ApiKey;" (.ref w_HEARTBEAT)) (S_LEAVE_GROUP : Sta Z Z.heap "com/example/loose_grip/loosegrip/wire/ApiKey" "LEAVE_GROUP" "Lcom/example/loose_grip/loosegrip/wire/ApiKey;" (.ref w_LEAVE_GROUP)) (S_SYNC_GROUP : Sta Z Z.heap "com/example/loose_grip/loosegrip/wire/ApiKey" "SYNC_GROUP" "Lcom/example/loose_grip/loosegrip/wire/ApiKey;" (.ref w_SYNC_GROUP)) (S_DESCRIBE_GROUPS : Sta Z Z.heap "com/example/loose_grip/loosegrip/wire/ApiKey" "DESCRIBE_GROUPS" "Lcom/example/loose_grip/loosegrip/wire/ApiKey;" (.ref w_DESCRIBE_GROUPS)) (S_LIST_GROUPS : Sta Z Z.heap "com/example/loose_grip/loosegrip/wire/ApiKey" "LIST_GROUPS" "Lcom/example/loose_grip/loosegrip/wire/ApiKey;" (.ref w_LIST_GROUPS)) (S_API_VERSIONS : Sta Z Z.heap "com/example/loose_grip/loosegrip/wire/ApiKey" "API_VERSIONS" "Lcom/example/loose_grip/loosegrip/wire/ApiKey;" (.ref w_API_VERSIONS)) (E_FETCH : Exa Z Z.heap w_FETCH "com/example/loose_grip/loosegrip/wire/ApiKey") (E_LIST_OFFSETS : Exa Z Z.heap w_LIST_OFFSETS "com/example/loose_grip/loosegrip/wire/ApiKey") (E_METADATA : Exa Z Z.heap w_METADATA "com/example/loose_grip/loosegrip/wire/ApiKey") (E_OFFSET_COMMIT : Exa Z Z.heap w_OFFSET_COMMIT "com/example/loose_grip/loosegrip/wire/ApiKey") (E_OFFSET_FETCH : Exa Z Z.heap w_OFFSET_FETCH "com/example/loose_grip/loosegrip/wire/ApiKey") (E_FIND_COORDINATOR : Exa Z Z.heap w_FIND_COORDINATOR "com/example/loose_grip/loosegrip/wire/ApiKey") (E_JOIN_GROUP : Exa Z Z.heap w_JOIN_GROUP "com/example/loose_grip/loosegrip/wire/ApiKey") (E_HEARTBEAT : Exa Z Z.heap w_HEARTBEAT "com/example/loose_grip/loosegrip/wire/ApiKey") (E_LEAVE_GROUP : Exa Z Z.heap w_LEAVE_GROUP "com/example/loose_grip/loosegrip/wire/ApiKey") (E_SYNC_GROUP : Exa Z Z.heap w_SYNC_GROUP "com/example/loose_grip/loosegrip/wire/ApiKey") (E_DESCRIBE_GROUPS : Exa Z Z.heap w_DESCRIBE_GROUPS "com/example/loose_grip/loosegrip/wire/ApiKey") (E_LIST_GROUPS : Exa Z Z.heap w_LIST_GROUPS "com/example/loose_grip/loosegrip/wire/ApiKey") (E_API_VERSIONS : Exa Z Z.heap w_API_VERSIONS "com/example/loose_grip/loosegrip/wire/ApiKey") (F_FETCH_minVersion : Fld Z Z.heap w_FETCH "com/example/loose_grip/loosegrip/wire/ApiKey" "minVersion" "S" (.int (0 : Int32))) (F_FETCH_maxVersion : Fld Z Z.heap w_FETCH "com/example/loose_grip/loosegrip/wire/ApiKey" "maxVersion" "S" (.int (11 : Int32))) (F_LIST_OFFSETS_minVersion : Fld Z Z.heap w_LIST_OFFSETS "com/example/loose_grip/loosegrip/wire/ApiKey" "minVersion" "S" (.int (0 : Int32))) (F_LIST_OFFSETS_maxVersion : Fld Z Z.heap w_LIST_OFFSETS "com/example/loose_grip/loosegrip/wire/ApiKey" "maxVersion" "S" (.int (5 : Int32))) (F_METADATA_minVersion : Fld Z Z.heap w_METADATA "com/example/loose_grip/loosegrip/wire/ApiKey" "minVersion" "S" (.int (0 : Int32))) (F_METADATA_maxVersion : Fld Z Z.heap w_METADATA "com/example/loose_grip/loosegrip/wire/ApiKey" "maxVersion" "S" (.int (4 : Int32))) (F_OFFSET_COMMIT_minVersion : Fld Z Z.heap w_OFFSET_COMMIT "com/example/loose_grip/loosegrip/wire/ApiKey" "minVersion" "S" (.int (2 : Int32))) (F_OFFSET_COMMIT_maxVersion : Fld Z Z.heap w_OFFSET_COMMIT "com/example/loose_grip/loosegrip/wire/ApiKey" "maxVersion" "S" (.int (7 : Int32))) (F_OFFSET_FETCH_minVersion : Fld Z Z.heap w_OFFSET_FETCH "com/example/loose_grip/loosegrip/wire/ApiKey" "minVersion" "S" (.int (1 : Int32))) (F_OFFSET_FETCH_maxVersion : Fld Z Z.heap w_OFFSET_FETCH "com/example/loose_grip/loosegrip/wire/ApiKey" "maxVersion" "S" (.int (5 : Int32))) (F_FIND_COORDINATOR_minVersion : Fld Z Z.heap w_FIND_COORDINATOR "com/example/loose_grip/loosegrip/wire/ApiKey" "minVersion" "S" (.int (0 : Int32))) (F_FIND_COORDINATOR_maxVersion : Fld Z Z.heap w_FIND_COORDINATOR "com/example/loose_grip/loosegrip/wire/ApiKey" "maxVersion" "S" (.int (2 : Int32))) (F_JOIN_GROUP_minVersion : Fld Z Z.heap w_JOIN_GROUP "com/example/loose_grip/loosegrip/wire/ApiKey" "minVersion" "S" (.int (0 : Int32))) (F_JOIN_GROUP_maxVersion : Fld Z Z.heap w_JOIN_GROUP "com/example/loose_grip/loosegrip/wire/ApiKey" "maxVersion" "S" (.int (5 : Int32))) (F_HEARTBEAT_minVersion : Fld Z Z.heap w_HEARTBEAT "com/example/loose_grip/loosegrip/wire/ApiKey" "minVersion" "S" (.int (0 : Int32))) (F_HEARTBEAT_maxVersion : Fld Z Z.heap w_HEARTBEAT "com/example/loose_grip/loosegrip/wire/ApiKey" "maxVersion" "S" (.int (3 : Int32))) (F_LEAVE_GROUP_minVersion : Fld Z Z.heap w_LEAVE_GROUP "com/example/loose_grip/loosegrip/wire/ApiKey" "minVersion" "S" (.int (0 : Int32))) (F_LEAVE_GROUP_maxVersion : Fld Z Z.heap w_LEAVE_GROUP "com/example/loose_grip/loosegrip/wire/ApiKey" "maxVersion" "S" (.int (3 : Int32))) (F_SYNC_GROUP_minVersion : Fld Z Z.heap w_SYNC_GROUP "com/example/loose_grip/loosegrip/wire/ApiKey" "minVersion" "S" (.int (0 : Int32))) (F_SYNC_GROUP_maxVersion : Fld Z Z.heap w_SYNC_GROUP "com/example/loose_grip/loosegrip/wire/ApiKey" "maxVersion" "S" (.int (3 : Int32))) (F_DESCRIBE_GROUPS_minVersion : Fld Z Z.heap w_DESCRIBE_GROUPS "com/example/loose_grip/loosegrip/wire/ApiKey" "minVersion" "S" (.int (0 : Int32))) (F_DESCRIBE_GROUPS_maxVersion : Fld Z Z.heap w_DESCRIBE_GROUPS "com/example/loose_grip/loosegrip/wire/ApiKey" "maxVersion" "S" (.int (4 : Int32))) (F_LIST_GROUPS_minVersion : Fld Z Z.heap w_LIST_GROUPS "com/example/loose_grip/loosegrip/wire/ApiKey" "minVersion" "S" (.int (0 : Int32))) (F_LIST_GROUPS_maxVersion : Fld Z Z.heap w_LIST_GROUPS "com/example/loose_grip/loosegrip/wire/ApiKey" "maxVersion" "S" (.int (2 : Int32))) (F_API_VERSIONS_minVersion : Fld Z Z.heap w_API_VERSIONS "com/example/loose_grip/loosegrip/wire/ApiKey" "minVersion" "S" (.int (0 : Int32))) (F_API_VERSIONS_maxVersion : Fld Z Z.heap w_API_VERSIONS "com/example/loose_grip/loosegrip/wire/ApiKey" "maxVersion" "S" (.int (2 : Int32))) (R_K : Arv Z h0 bK kK (.object "com/example/loose_grip/loosegrip/wire/ApiKey") (13 : Int32) [(.ref w_FETCH), (.ref w_LIST_OFFSETS), (.ref w_METADATA), (.ref w_OFFSET_COMMIT), (.ref w_OFFSET_FETCH), (.ref w_FIND_COORDINATOR), (.ref w_JOIN_GROUP), (.ref w_HEARTBEAT), (.ref w_LEAVE_GROUP), (.ref w_SYNC_GROUP), (.ref w_DESCRIBE_GROUPS), (.ref w_LIST_GROUPS), (.ref w_API_VERSIONS)] .null) :
    own_G p.tables e below (own_E s (Q_law n0) room_1.cells room_1.slots) (T0.setTop (mkF m 91 #[.val (.int p1), .val (.int p2), .val (.ref bK), .unset, .unset, .unset, .unset, .unset, .unset] [])) := by
  show own_G p.tables e below _ (T0.setTop (mkF m 91 #[.val (.int p1), .val (.int p2), .val (.ref bK), .unset, .unset, .unset, .unset, .unset, .unset] []))
  refine own_st (fun _ kS => XS.bipush X0.here hx rfl (hb hby at_91) kS) ?_
  show own_G p.tables e below _ (T0.setTop (mkF m 93 #[.val (.int p1), .val (.int p2), .val (.ref bK), .unset, .unset, .unset, .unset, .unset, .unset] [(.int (13 : Int32))]))
  obtain ⟨T1, h1, k1, X1, e1, E1, A1, st1⟩ := newP X0 hx hZ (hw _ (List.mem_of_getElem? (i := 30) rfl)) e0 (g := (mkF m 93 #[.val (.int p1), .val (.int p2), .val (.ref bK), .unset, .unset, .unset, .unset, .unset, .unset] [(.int (13 : Int32))])) rfl (hb hby at_93) rfl (by decide) (cap := 13) (by decide) (by decide) (by decide) (by decide)
  obtain ⟨b1, g1⟩ : ∃ z, z = h0.size := ⟨_, rfl⟩
  have ne_bK_b1 : bK ≠ b1 := Nat.ne_of_lt (Nat.lt_of_lt_of_eq R_K.lt g1.symm)
  have ge_b1 : n0 ≤ b1 := Nat.le_trans Z0 (Nat.le_of_eq g1.symm)
  rw [← g1] at A1 st1
  have O1 := O0.ext E1
  have R1 : Arv Z h1 b1 k1 .int (13 : Int32) [(.int (0 : Int32)), (.int (0 : Int32)), (.int (0 : Int32)), (.int (0 : Int32)), (.int (0 : Int32)), (.int (0 : Int32)), (.int (0 : Int32)), (.int (0 : Int32)), (.int (0 : Int32)), (.int (0 : Int32)), (.int (0 : Int32)), (.int (0 : Int32)), (.int (0 : Int32))] (.int (0 : Int32)) := (Arv.new A1 (by decide)).pad (pad_rep [] (.int (0 : Int32)) 13)
  refine own_st st1 ?_
  show own_G p.tables e below _ (T1.setTop (mkF m 95 #[.val (.int p1), .val (.int p2), .val (.ref bK), .unset, .unset, .unset, .unset, .unset, .unset] [(.ref b1)]))
  refine own_st (fun _ kS => XS.dup X1.here hx rfl (hb hby at_95) rfl rfl kS) ?_
  show own_G p.tables e below _ (T1.setTop (mkF m 96 #[.val (.int p1), .val (.int p2), .val (.ref bK), .unset, .unset, .unset, .unset, .unset, .unset] [(.ref b1), (.ref b1)]))
  refine own_st (fun _ kS => XS.iconst X1.here hx rfl (hb hby at_96) kS) ?_
  show own_G p.tables e below _ (T1.setTop (mkF m 97 #[.val (.int p1), .val (.int p2), .val (.ref bK), .unset, .unset, .unset, .unset, .unset, .unset] [(.int (0 : Int32)), (.ref b1), (.ref b1)]))
  refine own_st (fun _ kS => XS.iconst X1.here hx rfl (hb hby at_97) kS) ?_
  show own_G p.tables e below _ (T1.setTop (mkF m 98 #[.val (.int p1), .val (.int p2), .val (.ref bK), .unset, .unset, .unset, .unset, .unset, .unset] [(.int (0 : Int32)), (.int (0 : Int32)), (.ref b1), (.ref b1)]))
  obtain ⟨cl2, Ar2, qa2, qs2, qn2, qh2, qg2⟩ := id R1
  obtain ⟨T2, h2, X2, e2, W2, st2⟩ := stI X1 hx hZ e1 Ar2 (j := (0 : Int32)) (inb_of qs2 ⟨by decide, by decide⟩) (g := (mkF m 98 #[.val (.int p1), .val (.int p2), .val (.ref bK), .unset, .unset, .unset, .unset, .unset, .unset] [(.int (0 : Int32)), (.int (0 : Int32)), (.ref b1), (.ref b1)])) rfl rfl (hb hby at_98)
  have N2 := Fr.snoc X2 N0 ge_b1
  have O2 := O1.wr W2 ge_b1
  have R2 : Arv Z h2 b1 k1 .int (13 : Int32) [(.int (0 : Int32)), (.int (0 : Int32)), (.int (0 : Int32)), (.int (0 : Int32)), (.int (0 : Int32)), (.int (0 : Int32)), (.int (0 : Int32)), (.int (0 : Int32)), (.int (0 : Int32)), (.int (0 : Int32)), (.int (0 : Int32)), (.int (0 : Int32)), (.int (0 : Int32))] (.int (0 : Int32)) := Arv.set Ar2 qa2 qs2 qn2 qh2 qg2 rfl W2 0 rfl (Nat.le_of_ble_eq_true rfl)
  refine own_st st2 ?_
  show own_G p.tables e below _ (T2.setTop (mkF m 99 #[.val (.int p1), .val (.int p2), .val (.ref bK), .unset, .unset, .unset, .unset, .unset, .unset] [(.ref b1)]))
  refine own_st (fun _ kS => XS.dup X2.here hx rfl (hb hby at_99) rfl rfl kS) ?_
  show own_G p.tables e below _ (T2.setTop (mkF m 100 #[.val (.int p1), .val (.int p2), .val (.ref bK), .unset, .unset, .unset, .unset, .unset, .unset] [(.ref b1), (.ref b1)]))
  refine own_st (fun _ kS => XS.iconst X2.here hx rfl (hb hby at_100) kS) ?_
  show own_G p.tables e below _ (T2.setTop (mkF m 101 #[.val (.int p1), .val (.int p2), .val (.ref bK), .unset, .unset, .unset, .unset, .unset, .unset] [(.int (1 : Int32)), (.ref b1), (.ref b1)]))
  refine own_st (fun _ kS => XS.iconst X2.here hx rfl (hb hby at_101) kS) ?_
  show own_G p.tables e below _ (T2.setTop (mkF m 102 #[.val (.int p1), .val (.int p2), .val (.ref bK), .unset, .unset, .unset, .unset, .unset, .unset] [(.int (0 : Int32)), (.int (1 : Int32)), (.ref b1), (.ref b1)]))
  obtain ⟨cl3, Ar3, qa3, qs3, qn3, qh3, qg3⟩ := id R2
  obtain ⟨T3, h3, X3, e3, W3, st3⟩ := stI X2 hx hZ e2 Ar3 (j := (1 : Int32)) (inb_of qs3 ⟨by decide, by decide⟩) (g := (mkF m 102 #[.val (.int p1), .val (.int p2), .val (.ref bK), .unset, .unset, .unset, .unset, .unset, .unset] [(.int (0 : Int32)), (.int (1 : Int32)), (.ref b1), (.ref b1)])) rfl rfl (hb hby at_102)
  have N3 := Fr.snoc X3 N2 ge_b1
  have O3 := O2.wr W3 ge_b1
  have R3 : Arv Z h3 b1 k1 .int (13 : Int32) [(.int (0 : Int32)), (.int (0 : Int32)), (.int (0 : Int32)), (.int (0 : Int32)), (.int (0 : Int32)), (.int (0 : Int32)), (.int (0 : Int32)), (.int (0 : Int32)), (.int (0 : Int32)), (.int (0 : Int32)), (.int (0 : Int32)), (.int (0 : Int32)), (.int (0 : Int32))] (.int (0 : Int32)) := Arv.set Ar3 qa3 qs3 qn3 qh3 qg3 rfl W3 1 rfl (Nat.le_of_ble_eq_true rfl)
  refine own_st st3 ?_
  show own_G p.tables e below _ (T3.setTop (mkF m 103 #[.val (.int p1), .val (.int p2), .val (.ref bK), .unset, .unset, .unset, .unset, .unset, .unset] [(.ref b1)]))
  refine own_st (fun _ kS => XS.dup X3.here hx rfl (hb hby at_103) rfl rfl kS) ?_
  show own_G p.tables e below _ (T3.setTop (mkF m 104 #[.val (.int p1), .val (.int p2), .val (.ref bK), .unset, .unset, .unset, .unset, .unset, .unset] [(.ref b1), (.ref b1)]))
  refine own_st (fun _ kS => XS.iconst X3.here hx rfl (hb hby at_104) kS) ?_
  show own_G p.tables e below _ (T3.setTop (mkF m 105 #[.val (.int p1), .val (.int p2), .val (.ref bK), .unset, .unset, .unset, .unset, .unset, .unset] [(.int (2 : Int32)), (.ref b1), (.ref b1)]))
  refine own_st (fun _ kS => XS.iconst X3.here hx rfl (hb hby at_105) kS) ?_
  show own_G p.tables e below _ (T3.setTop (mkF m 106 #[.val (.int p1), .val (.int p2), .val (.ref bK), .unset, .unset, .unset, .unset, .unset, .unset] [(.int (0 : Int32)), (.int (2 : Int32)), (.ref b1), (.ref b1)]))
  obtain ⟨cl4, Ar4, qa4, qs4, qn4, qh4, qg4⟩ := id R3
  obtain ⟨T4, h4, X4, e4, W4, st4⟩ := stI X3 hx hZ e3 Ar4 (j := (2 : Int32)) (inb_of qs4 ⟨by decide, by decide⟩) (g := (mkF m 106 #[.val (.int p1), .val (.int p2), .val (.ref bK), .unset, .unset, .unset, .unset, .unset, .unset] [(.int (0 : Int32)), (.int (2 : Int32)), (.ref b1), (.ref b1)])) rfl rfl (hb hby at_106)
  have N4 := Fr.snoc X4 N3 ge_b1
  have O4 := O3.wr W4 ge_b1
  have R4 : Arv Z h4 b1 k1 .int (13 : Int32) [(.int (0 : Int32)), (.int (0 : Int32)), (.int (0 : Int32)), (.int (0 : Int32)), (.int (0 : Int32)), (.int (0 : Int32)), (.int (0 : Int32)), (.int (0 : Int32)), (.int (0 : Int32)), (.int (0 : Int32)), (.int (0 : Int32)), (.int (0 : Int32)), (.int (0 : Int32))] (.int (0 : Int32)) := Arv.set Ar4 qa4 qs4 qn4 qh4 qg4 rfl W4 2 rfl (Nat.le_of_ble_eq_true rfl)
  refine own_st st4 ?_
  show own_G p.tables e below _ (T4.setTop (mkF m 107 #[.val (.int p1), .val (.int p2), .val (.ref bK), .unset, .unset, .unset, .unset, .unset, .unset] [(.ref b1)]))
  refine own_st (fun _ kS => XS.dup X4.here hx rfl (hb hby at_107) rfl rfl kS) ?_
  show own_G p.tables e below _ (T4.setTop (mkF m 108 #[.val (.int p1), .val (.int p2), .val (.ref bK), .unset, .unset, .unset, .unset, .unset, .unset] [(.ref b1), (.ref b1)]))
  refine own_st (fun _ kS => XS.iconst X4.here hx rfl (hb hby at_108) kS) ?_
  show own_G p.tables e below _ (T4.setTop (mkF m 109 #[.val (.int p1), .val (.int p2), .val (.ref bK), .unset, .unset, .unset, .unset, .unset, .unset] [(.int (3 : Int32)), (.ref b1), (.ref b1)]))
  refine own_st (fun _ kS => XS.iconst X4.here hx rfl (hb hby at_109) kS) ?_
  show own_G p.tables e below _ (T4.setTop (mkF m 110 #[.val (.int p1), .val (.int p2), .val (.ref bK), .unset, .unset, .unset, .unset, .unset, .unset] [(.int (2 : Int32)), (.int (3 : Int32)), (.ref b1), (.ref b1)]))
  obtain ⟨cl5, Ar5, qa5, qs5, qn5, qh5, qg5⟩ := id R4
  obtain ⟨T5, h5, X5, e5, W5, st5⟩ := stI X4 hx hZ e4 Ar5 (j := (3 : Int32)) (inb_of qs5 ⟨by decide, by decide⟩) (g := (mkF m 110 #[.val (.int p1), .val (.int p2), .val (.ref bK), .unset, .unset, .unset, .unset, .unset, .unset] [(.int (2 : Int32)), (.int (3 : Int32)), (.ref b1), (.ref b1)])) rfl rfl (hb hby at_110)
  have N5 := Fr.snoc X5 N4 ge_b1
  have O5 := O4.wr W5 ge_b1
  have R5 : Arv Z h5 b1 k1 .int (13 : Int32) [(.int (0 : Int32)), (.int (0 : Int32)), (.int (0 : Int32)), (.int (2 : Int32)), (.int (0 : Int32)), (.int (0 : Int32)), (.int (0 : Int32)), (.int (0 : Int32)), (.int (0 : Int32)), (.int (0 : Int32)), (.int (0 : Int32)), (.int (0 : Int32)), (.int (0 : Int32))] (.int (0 : Int32)) := Arv.set Ar5 qa5 qs5 qn5 qh5 qg5 rfl W5 3 rfl (Nat.le_of_ble_eq_true rfl)
  refine own_st st5 ?_
  show own_G p.tables e below _ (T5.setTop (mkF m 111 #[.val (.int p1), .val (.int p2), .val (.ref bK), .unset, .unset, .unset, .unset, .unset, .unset] [(.ref b1)]))
  refine own_st (fun _ kS => XS.dup X5.here hx rfl (hb hby at_111) rfl rfl kS) ?_
  show own_G p.tables e below _ (T5.setTop (mkF m 112 #[.val (.int p1), .val (.int p2), .val (.ref bK), .unset, .unset, .unset, .unset, .unset, .unset] [(.ref b1), (.ref b1)]))
  refine own_st (fun _ kS => XS.iconst X5.here hx rfl (hb hby at_112) kS) ?_
  show own_G p.tables e below _ (T5.setTop (mkF m 113 #[.val (.int p1), .val (.int p2), .val (.ref bK), .unset, .unset, .unset, .unset, .unset, .unset] [(.int (4 : Int32)), (.ref b1), (.ref b1)]))
  refine own_st (fun _ kS => XS.iconst X5.here hx rfl (hb hby at_113) kS) ?_
  show own_G p.tables e below _ (T5.setTop (mkF m 114 #[.val (.int p1), .val (.int p2), .val (.ref bK), .unset, .unset, .unset, .unset, .unset, .unset] [(.int (1 : Int32)), (.int (4 : Int32)), (.ref b1), (.ref b1)]))
  obtain ⟨cl6, Ar6, qa6, qs6, qn6, qh6, qg6⟩ := id R5
  obtain ⟨T6, h6, X6, e6, W6, st6⟩ := stI X5 hx hZ e5 Ar6 (j := (4 : Int32)) (inb_of qs6 ⟨by decide, by decide⟩) (g := (mkF m 114 #[.val (.int p1), .val (.int p2), .val (.ref bK), .unset, .unset, .unset, .unset, .unset, .unset] [(.int (1 : Int32)), (.int (4 : Int32)), (.ref b1), (.ref b1)])) rfl rfl (hb hby at_114)
  have N6 := Fr.snoc X6 N5 ge_b1
  have O6 := O5.wr W6 ge_b1
  have R6 : Arv Z h6 b1 k1 .int (13 : Int32) [(.int (0 : Int32)), (.int (0 : Int32)), (.int (0 : Int32)), (.int (2 : Int32)), (.int (1 : Int32)), (.int (0 : Int32)), (.int (0 : Int32)), (.int (0 : Int32)), (.int (0 : Int32)), (.int (0 : Int32)), (.int (0 : Int32)), (.int (0 : Int32)), (.int (0 : Int32))] (.int (0 : Int32)) := Arv.set Ar6 qa6 qs6 qn6 qh6 qg6 rfl W6 4 rfl (Nat.le_of_ble_eq_true rfl)
  refine own_st st6 ?_
  show own_G p.tables e below _ (T6.setTop (mkF m 115 #[.val (.int p1), .val (.int p2), .val (.ref bK), .unset, .unset, .unset, .unset, .unset, .unset] [(.ref b1)]))
  refine own_st (fun _ kS => XS.dup X6.here hx rfl (hb hby at_115) rfl rfl kS) ?_
  show own_G p.tables e below _ (T6.setTop (mkF m 116 #[.val (.int p1), .val (.int p2), .val (.ref bK), .unset, .unset, .unset, .unset, .unset, .unset] [(.ref b1), (.ref b1)]))
  refine own_st (fun _ kS => XS.iconst X6.here hx rfl (hb hby at_116) kS) ?_
  show own_G p.tables e below _ (T6.setTop (mkF m 117 #[.val (.int p1), .val (.int p2), .val (.ref bK), .unset, .unset, .unset, .unset, .unset, .unset] [(.int (5 : Int32)), (.ref b1), (.ref b1)]))
  refine own_st (fun _ kS => XS.iconst X6.here hx rfl (hb hby at_117) kS) ?_
  show own_G p.tables e below _ (T6.setTop (mkF m 118 #[.val (.int p1), .val (.int p2), .val (.ref bK), .unset, .unset, .unset, .unset, .unset, .unset] [(.int (0 : Int32)), (.int (5 : Int32)), (.ref b1), (.ref b1)]))
  obtain ⟨cl7, Ar7, qa7, qs7, qn7, qh7, qg7⟩ := id R6
  obtain ⟨T7, h7, X7, e7, W7, st7⟩ := stI X6 hx hZ e6 Ar7 (j := (5 : Int32)) (inb_of qs7 ⟨by decide, by decide⟩) (g := (mkF m 118 #[.val (.int p1), .val (.int p2), .val (.ref bK), .unset, .unset, .unset, .unset, .unset, .unset] [(.int (0 : Int32)), (.int (5 : Int32)), (.ref b1), (.ref b1)])) rfl rfl (hb hby at_118)
  have N7 := Fr.snoc X7 N6 ge_b1
  have O7 := O6.wr W7 ge_b1
  have R7 : Arv Z h7 b1 k1 .int (13 : Int32) [(.int (0 : Int32)), (.int (0 : Int32)), (.int (0 : Int32)), (.int (2 : Int32)), (.int (1 : Int32)), (.int (0 : Int32)), (.int (0 : Int32)), (.int (0 : Int32)), (.int (0 : Int32)), (.int (0 : Int32)), (.int (0 : Int32)), (.int (0 : Int32)), (.int (0 : Int32))] (.int (0 : Int32)) := Arv.set Ar7 qa7 qs7 qn7 qh7 qg7 rfl W7 5 rfl (Nat.le_of_ble_eq_true rfl)
  refine own_st st7 ?_
  show own_G p.tables e below _ (T7.setTop (mkF m 119 #[.val (.int p1), .val (.int p2), .val (.ref bK), .unset, .unset, .unset, .unset, .unset, .unset] [(.ref b1)]))
  refine own_st (fun _ kS => XS.dup X7.here hx rfl (hb hby at_119) rfl rfl kS) ?_
  show own_G p.tables e below _ (T7.setTop (mkF m 120 #[.val (.int p1), .val (.int p2), .val (.ref bK), .unset, .unset, .unset, .unset, .unset, .unset] [(.ref b1), (.ref b1)]))
  refine own_st (fun _ kS => XS.bipush X7.here hx rfl (hb hby at_120) kS) ?_
  show own_G p.tables e below _ (T7.setTop (mkF m 122 #[.val (.int p1), .val (.int p2), .val (.ref bK), .unset, .unset, .unset, .unset, .unset, .unset] [(.int (6 : Int32)), (.ref b1), (.ref b1)]))
  refine own_st (fun _ kS => XS.iconst X7.here hx rfl (hb hby at_122) kS) ?_
  show own_G p.tables e below _ (T7.setTop (mkF m 123 #[.val (.int p1), .val (.int p2), .val (.ref bK), .unset, .unset, .unset, .unset, .unset, .unset] [(.int (0 : Int32)), (.int (6 : Int32)), (.ref b1), (.ref b1)]))
  obtain ⟨cl8, Ar8, qa8, qs8, qn8, qh8, qg8⟩ := id R7
  obtain ⟨T8, h8, X8, e8, W8, st8⟩ := stI X7 hx hZ e7 Ar8 (j := (6 : Int32)) (inb_of qs8 ⟨by decide, by decide⟩) (g := (mkF m 123 #[.val (.int p1), .val (.int p2), .val (.ref bK), .unset, .unset, .unset, .unset, .unset, .unset] [(.int (0 : Int32)), (.int (6 : Int32)), (.ref b1), (.ref b1)])) rfl rfl (hb hby at_123)
  have N8 := Fr.snoc X8 N7 ge_b1
  have O8 := O7.wr W8 ge_b1
  have R8 : Arv Z h8 b1 k1 .int (13 : Int32) [(.int (0 : Int32)), (.int (0 : Int32)), (.int (0 : Int32)), (.int (2 : Int32)), (.int (1 : Int32)), (.int (0 : Int32)), (.int (0 : Int32)), (.int (0 : Int32)), (.int (0 : Int32)), (.int (0 : Int32)), (.int (0 : Int32)), (.int (0 : Int32)), (.int (0 : Int32))] (.int (0 : Int32)) := Arv.set Ar8 qa8 qs8 qn8 qh8 qg8 rfl W8 6 rfl (Nat.le_of_ble_eq_true rfl)
  refine own_st st8 ?_
  show own_G p.tables e below _ (T8.setTop (mkF m 124 #[.val (.int p1), .val (.int p2), .val (.ref bK), .unset, .unset, .unset, .unset, .unset, .unset] [(.ref b1)]))
  refine own_st (fun _ kS => XS.dup X8.here hx rfl (hb hby at_124) rfl rfl kS) ?_
  show own_G p.tables e below _ (T8.setTop (mkF m 125 #[.val (.int p1), .val (.int p2), .val (.ref bK), .unset, .unset, .unset, .unset, .unset, .unset] [(.ref b1), (.ref b1)]))
  refine own_st (fun _ kS => XS.bipush X8.here hx rfl (hb hby at_125) kS) ?_
  show own_G p.tables e below _ (T8.setTop (mkF m 127 #[.val (.int p1), .val (.int p2), .val (.ref bK), .unset, .unset, .unset, .unset, .unset, .unset] [(.int (7 : Int32)), (.ref b1), (.ref b1)]))
  refine own_st (fun _ kS => XS.iconst X8.here hx rfl (hb hby at_127) kS) ?_
  show own_G p.tables e below _ (T8.setTop (mkF m 128 #[.val (.int p1), .val (.int p2), .val (.ref bK), .unset, .unset, .unset, .unset, .unset, .unset] [(.int (0 : Int32)), (.int (7 : Int32)), (.ref b1), (.ref b1)]))
  obtain ⟨cl9, Ar9, qa9, qs9, qn9, qh9, qg9⟩ := id R8
  obtain ⟨T9, h9, X9, e9, W9, st9⟩ := stI X8 hx hZ e8 Ar9 (j := (7 : Int32)) (inb_of qs9 ⟨by decide, by decide⟩) (g := (mkF m 128 #[.val (.int p1), .val (.int p2), .val (.ref bK), .unset, .unset, .unset, .unset, .unset, .unset] [(.int (0 : Int32)), (.int (7 : Int32)), (.ref b1), (.ref b1)])) rfl rfl (hb hby at_128)
  have N9 := Fr.snoc X9 N8 ge_b1
  have O9 := O8.wr W9 ge_b1
  have R9 : Arv Z h9 b1 k1 .int (13 : Int32) [(.int (0 : Int32)), (.int (0 : Int32)), (.int (0 : Int32)), (.int (2 : Int32)), (.int (1 : Int32)), (.int (0 : Int32)), (.int (0 : Int32)), (.int (0 : Int32)), (.int (0 : Int32)), (.int (0 : Int32)), (.int (0 : Int32)), (.int (0 : Int32)), (.int (0 : Int32))] (.int (0 : Int32)) := Arv.set Ar9 qa9 qs9 qn9 qh9 qg9 rfl W9 7 rfl (Nat.le_of_ble_eq_true rfl)
  refine own_st st9 ?_
  show own_G p.tables e below _ (T9.setTop (mkF m 129 #[.val (.int p1), .val (.int p2), .val (.ref bK), .unset, .unset, .unset, .unset, .unset, .unset] [(.ref b1)]))
  refine own_st (fun _ kS => XS.dup X9.here hx rfl (hb hby at_129) rfl rfl kS) ?_
  show own_G p.tables e below _ (T9.setTop (mkF m 130 #[.val (.int p1), .val (.int p2), .val (.ref bK), .unset, .unset, .unset, .unset, .unset, .unset] [(.ref b1), (.ref b1)]))
  refine own_st (fun _ kS => XS.bipush X9.here hx rfl (hb hby at_130) kS) ?_
  show own_G p.tables e below _ (T9.setTop (mkF m 132 #[.val (.int p1), .val (.int p2), .val (.ref bK), .unset, .unset, .unset, .unset, .unset, .unset] [(.int (8 : Int32)), (.ref b1), (.ref b1)]))
  refine own_st (fun _ kS => XS.iconst X9.here hx rfl (hb hby at_132) kS) ?_
  show own_G p.tables e below _ (T9.setTop (mkF m 133 #[.val (.int p1), .val (.int p2), .val (.ref bK), .unset, .unset, .unset, .unset, .unset, .unset] [(.int (0 : Int32)), (.int (8 : Int32)), (.ref b1), (.ref b1)]))
  obtain ⟨cl10, Ar10, qa10, qs10, qn10, qh10, qg10⟩ := id R9
  obtain ⟨T10, h10, X10, e10, W10, st10⟩ := stI X9 hx hZ e9 Ar10 (j := (8 : Int32)) (inb_of qs10 ⟨by decide, by decide⟩) (g := (mkF m 133 #[.val (.int p1), .val (.int p2), .val (.ref bK), .unset, .unset, .unset, .unset, .unset, .unset] [(.int (0 : Int32)), (.int (8 : Int32)), (.ref b1), (.ref b1)])) rfl rfl (hb hby at_133)
  have N10 := Fr.snoc X10 N9 ge_b1
  have O10 := O9.wr W10 ge_b1
  have R10 : Arv Z h10 b1 k1 .int (13 : Int32) [(.int (0 : Int32)), (.int (0 : Int32)), (.int (0 : Int32)), (.int (2 : Int32)), (.int (1 : Int32)), (.int (0 : Int32)), (.int (0 : Int32)), (.int (0 : Int32)), (.int (0 : Int32)), (.int (0 : Int32)), (.int (0 : Int32)), (.int (0 : Int32)), (.int (0 : Int32))] (.int (0 : Int32)) := Arv.set Ar10 qa10 qs10 qn10 qh10 qg10 rfl W10 8 rfl (Nat.le_of_ble_eq_true rfl)
  refine own_st st10 ?_
  show own_G p.tables e below _ (T10.setTop (mkF m 134 #[.val (.int p1), .val (.int p2), .val (.ref bK), .unset, .unset, .unset, .unset, .unset, .unset] [(.ref b1)]))
  refine own_st (fun _ kS => XS.dup X10.here hx rfl (hb hby at_134) rfl rfl kS) ?_
  show own_G p.tables e below _ (T10.setTop (mkF m 135 #[.val (.int p1), .val (.int p2), .val (.ref bK), .unset, .unset, .unset, .unset, .unset, .unset] [(.ref b1), (.ref b1)]))
  refine own_st (fun _ kS => XS.bipush X10.here hx rfl (hb hby at_135) kS) ?_
  show own_G p.tables e below _ (T10.setTop (mkF m 137 #[.val (.int p1), .val (.int p2), .val (.ref bK), .unset, .unset, .unset, .unset, .unset, .unset] [(.int (9 : Int32)), (.ref b1), (.ref b1)]))
  refine own_st (fun _ kS => XS.iconst X10.here hx rfl (hb hby at_137) kS) ?_
  show own_G p.tables e below _ (T10.setTop (mkF m 138 #[.val (.int p1), .val (.int p2), .val (.ref bK), .unset, .unset, .unset, .unset, .unset, .unset] [(.int (0 : Int32)), (.int (9 : Int32)), (.ref b1), (.ref b1)]))
  obtain ⟨cl11, Ar11, qa11, qs11, qn11, qh11, qg11⟩ := id R10
  obtain ⟨T11, h11, X11, e11, W11, st11⟩ := stI X10 hx hZ e10 Ar11 (j := (9 : Int32)) (inb_of qs11 ⟨by decide, by decide⟩) (g := (mkF m 138 #[.val (.int p1), .val (.int p2), .val (.ref bK), .unset, .unset, .unset, .unset, .unset, .unset] [(.int (0 : Int32)), (.int (9 : Int32)), (.ref b1), (.ref b1)])) rfl rfl (hb hby at_138)
  have N11 := Fr.snoc X11 N10 ge_b1
  have O11 := O10.wr W11 ge_b1
  have R11 : Arv Z h11 b1 k1 .int (13 : Int32) [(.int (0 : Int32)), (.int (0 : Int32)), (.int (0 : Int32)), (.int (2 : Int32)), (.int (1 : Int32)), (.int (0 : Int32)), (.int (0 : Int32)), (.int (0 : Int32)), (.int (0 : Int32)), (.int (0 : Int32)), (.int (0 : Int32)), (.int (0 : Int32)), (.int (0 : Int32))] (.int (0 : Int32)) := Arv.set Ar11 qa11 qs11 qn11 qh11 qg11 rfl W11 9 rfl (Nat.le_of_ble_eq_true rfl)
  refine own_st st11 ?_
  show own_G p.tables e below _ (T11.setTop (mkF m 139 #[.val (.int p1), .val (.int p2), .val (.ref bK), .unset, .unset, .unset, .unset, .unset, .unset] [(.ref b1)]))
  refine own_st (fun _ kS => XS.dup X11.here hx rfl (hb hby at_139) rfl rfl kS) ?_
  show own_G p.tables e below _ (T11.setTop (mkF m 140 #[.val (.int p1), .val (.int p2), .val (.ref bK), .unset, .unset, .unset, .unset, .unset, .unset] [(.ref b1), (.ref b1)]))
  refine own_st (fun _ kS => XS.bipush X11.here hx rfl (hb hby at_140) kS) ?_
  show own_G p.tables e below _ (T11.setTop (mkF m 142 #[.val (.int p1), .val (.int p2), .val (.ref bK), .unset, .unset, .unset, .unset, .unset, .unset] [(.int (10 : Int32)), (.ref b1), (.ref b1)]))
  refine own_st (fun _ kS => XS.iconst X11.here hx rfl (hb hby at_142) kS) ?_
  show own_G p.tables e below _ (T11.setTop (mkF m 143 #[.val (.int p1), .val (.int p2), .val (.ref bK), .unset, .unset, .unset, .unset, .unset, .unset] [(.int (0 : Int32)), (.int (10 : Int32)), (.ref b1), (.ref b1)]))
  obtain ⟨cl12, Ar12, qa12, qs12, qn12, qh12, qg12⟩ := id R11
  obtain ⟨T12, h12, X12, e12, W12, st12⟩ := stI X11 hx hZ e11 Ar12 (j := (10 : Int32)) (inb_of qs12 ⟨by decide, by decide⟩) (g := (mkF m 143 #[.val (.int p1), .val (.int p2), .val (.ref bK), .unset, .unset, .unset, .unset, .unset, .unset] [(.int (0 : Int32)), (.int (10 : Int32)), (.ref b1), (.ref b1)])) rfl rfl (hb hby at_143)
  have N12 := Fr.snoc X12 N11 ge_b1
  have O12 := O11.wr W12 ge_b1
  have R12 : Arv Z h12 b1 k1 .int (13 : Int32) [(.int (0 : Int32)), (.int (0 : Int32)), (.int (0 : Int32)), (.int (2 : Int32)), (.int (1 : Int32)), (.int (0 : Int32)), (.int (0 : Int32)), (.int (0 : Int32)), (.int (0 : Int32)), (.int (0 : Int32)), (.int (0 : Int32)), (.int (0 : Int32)), (.int (0 : Int32))] (.int (0 : Int32)) := Arv.set Ar12 qa12 qs12 qn12 qh12 qg12 rfl W12 10 rfl (Nat.le_of_ble_eq_true rfl)
  refine own_st st12 ?_
  show own_G p.tables e below _ (T12.setTop (mkF m 144 #[.val (.int p1), .val (.int p2), .val (.ref bK), .unset, .unset, .unset, .unset, .unset, .unset] [(.ref b1)]))
  refine own_st (fun _ kS => XS.dup X12.here hx rfl (hb hby at_144) rfl rfl kS) ?_
  show own_G p.tables e below _ (T12.setTop (mkF m 145 #[.val (.int p1), .val (.int p2), .val (.ref bK), .unset, .unset, .unset, .unset, .unset, .unset] [(.ref b1), (.ref b1)]))
  refine own_st (fun _ kS => XS.bipush X12.here hx rfl (hb hby at_145) kS) ?_
  show own_G p.tables e below _ (T12.setTop (mkF m 147 #[.val (.int p1), .val (.int p2), .val (.ref bK), .unset, .unset, .unset, .unset, .unset, .unset] [(.int (11 : Int32)), (.ref b1), (.ref b1)]))
  refine own_st (fun _ kS => XS.iconst X12.here hx rfl (hb hby at_147) kS) ?_
  show own_G p.tables e below _ (T12.setTop (mkF m 148 #[.val (.int p1), .val (.int p2), .val (.ref bK), .unset, .unset, .unset, .unset, .unset, .unset] [(.int (0 : Int32)), (.int (11 : Int32)), (.ref b1), (.ref b1)]))
  obtain ⟨cl13, Ar13, qa13, qs13, qn13, qh13, qg13⟩ := id R12
  obtain ⟨T13, h13, X13, e13, W13, st13⟩ := stI X12 hx hZ e12 Ar13 (j := (11 : Int32)) (inb_of qs13 ⟨by decide, by decide⟩) (g := (mkF m 148 #[.val (.int p1), .val (.int p2), .val (.ref bK), .unset, .unset, .unset, .unset, .unset, .unset] [(.int (0 : Int32)), (.int (11 : Int32)), (.ref b1), (.ref b1)])) rfl rfl (hb hby at_148)
  have N13 := Fr.snoc X13 N12 ge_b1
  have O13 := O12.wr W13 ge_b1
  have R13 : Arv Z h13 b1 k1 .int (13 : Int32) [(.int (0 : Int32)), (.int (0 : Int32)), (.int (0 : Int32)), (.int (2 : Int32)), (.int (1 : Int32)), (.int (0 : Int32)), (.int (0 : Int32)), (.int (0 : Int32)), (.int (0 : Int32)), (.int (0 : Int32)), (.int (0 : Int32)), (.int (0 : Int32)), (.int (0 : Int32))] (.int (0 : Int32)) := Arv.set Ar13 qa13 qs13 qn13 qh13 qg13 rfl W13 11 rfl (Nat.le_of_ble_eq_true rfl)
  refine own_st st13 ?_
  show own_G p.tables e below _ (T13.setTop (mkF m 149 #[.val (.int p1), .val (.int p2), .val (.ref bK), .unset, .unset, .unset, .unset, .unset, .unset] [(.ref b1)]))
  refine own_st (fun _ kS => XS.dup X13.here hx rfl (hb hby at_149) rfl rfl kS) ?_
  show own_G p.tables e below _ (T13.setTop (mkF m 150 #[.val (.int p1), .val (.int p2), .val (.ref bK), .unset, .unset, .unset, .unset, .unset, .unset] [(.ref b1), (.ref b1)]))
  refine own_st (fun _ kS => XS.bipush X13.here hx rfl (hb hby at_150) kS) ?_
  show own_G p.tables e below _ (T13.setTop (mkF m 152 #[.val (.int p1), .val (.int p2), .val (.ref bK), .unset, .unset, .unset, .unset, .unset, .unset] [(.int (12 : Int32)), (.ref b1), (.ref b1)]))
  refine own_st (fun _ kS => XS.iconst X13.here hx rfl (hb hby at_152) kS) ?_
  show own_G p.tables e below _ (T13.setTop (mkF m 153 #[.val (.int p1), .val (.int p2), .val (.ref bK), .unset, .unset, .unset, .unset, .unset, .unset] [(.int (0 : Int32)), (.int (12 : Int32)), (.ref b1), (.ref b1)]))
  obtain ⟨cl14, Ar14, qa14, qs14, qn14, qh14, qg14⟩ := id R13
  obtain ⟨T14, h14, X14, e14, W14, st14⟩ := stI X13 hx hZ e13 Ar14 (j := (12 : Int32)) (inb_of qs14 ⟨by decide, by decide⟩) (g := (mkF m 153 #[.val (.int p1), .val (.int p2), .val (.ref bK), .unset, .unset, .unset, .unset, .unset, .unset] [(.int (0 : Int32)), (.int (12 : Int32)), (.ref b1), (.ref b1)])) rfl rfl (hb hby at_153)
  have N14 := Fr.snoc X14 N13 ge_b1
  have O14 := O13.wr W14 ge_b1
  have R14 : Arv Z h14 b1 k1 .int (13 : Int32) [(.int (0 : Int32)), (.int (0 : Int32)), (.int (0 : Int32)), (.int (2 : Int32)), (.int (1 : Int32)), (.int (0 : Int32)), (.int (0 : Int32)), (.int (0 : Int32)), (.int (0 : Int32)), (.int (0 : Int32)), (.int (0 : Int32)), (.int (0 : Int32)), (.int (0 : Int32))] (.int (0 : Int32)) := Arv.set Ar14 qa14 qs14 qn14 qh14 qg14 rfl W14 12 rfl (Nat.le_of_ble_eq_true rfl)
  refine own_st st14 ?_
  show own_G p.tables e below _ (T14.setTop (mkF m 154 #[.val (.int p1), .val (.int p2), .val (.ref bK), .unset, .unset, .unset, .unset, .unset, .unset] [(.ref b1)]))
  refine own_st (fun _ kS => XS.astoreN X14.here hx rfl (hb hby at_154) rfl rfl (l' := #[.val (.int p1), .val (.int p2), .val (.ref bK), .val (.ref b1), .unset, .unset, .unset, .unset, .unset]) rfl kS) ?_
  show own_G p.tables e below _ (T14.setTop (mkF m 155 #[.val (.int p1), .val (.int p2), .val (.ref bK), .val (.ref b1), .unset, .unset, .unset, .unset, .unset] []))
  exact sg_B hx hby hml hown hlk hret hZ hw (Nat.le_trans (Nat.le_trans (Nat.le_trans (Nat.le_trans (Nat.le_trans (Nat.le_trans (Nat.le_trans (Nat.le_trans (Nat.le_trans (Nat.le_trans (Nat.le_trans (Nat.le_trans (Nat.le_trans (Nat.le_trans Z0 E1.1) (Keep.of_wr W2).1) (Keep.of_wr W3).1) (Keep.of_wr W4).1) (Keep.of_wr W5).1) (Keep.of_wr W6).1) (Keep.of_wr W7).1) (Keep.of_wr W8).1) (Keep.of_wr W9).1) (Keep.of_wr W10).1) (Keep.of_wr W11).1) (Keep.of_wr W12).1) (Keep.of_wr W13).1) (Keep.of_wr W14).1)  X14 e14 N14 O14 p1 p2 w_FETCH w_LIST_OFFSETS w_METADATA w_OFFSET_COMMIT w_OFFSET_FETCH w_FIND_COORDINATOR w_JOIN_GROUP w_HEARTBEAT w_LEAVE_GROUP w_SYNC_GROUP w_DESCRIBE_GROUPS w_LIST_GROUPS w_API_VERSIONS bK kK b1 k1 S_FETCH S_LIST_OFFSETS S_METADATA S_OFFSET_COMMIT S_OFFSET_FETCH S_FIND_COORDINATOR S_JOIN_GROUP S_HEARTBEAT S_LEAVE_GROUP S_SYNC_GROUP S_DESCRIBE_GROUPS S_LIST_GROUPS S_API_VERSIONS E_FETCH E_LIST_OFFSETS E_METADATA E_OFFSET_COMMIT E_OFFSET_FETCH E_FIND_COORDINATOR E_JOIN_GROUP E_HEARTBEAT E_LEAVE_GROUP E_SYNC_GROUP E_DESCRIBE_GROUPS E_LIST_GROUPS E_API_VERSIONS F_FETCH_minVersion F_FETCH_maxVersion F_LIST_OFFSETS_minVersion F_LIST_OFFSETS_maxVersion F_METADATA_minVersion F_METADATA_maxVersion F_OFFSET_COMMIT_minVersion F_OFFSET_COMMIT_maxVersion F_OFFSET_FETCH_minVersion F_OFFSET_FETCH_maxVersion F_FIND_COORDINATOR_minVersion F_FIND_COORDINATOR_maxVersion F_JOIN_GROUP_minVersion F_JOIN_GROUP_maxVersion F_HEARTBEAT_minVersion F_HEARTBEAT_maxVersion F_LEAVE_GROUP_minVersion F_LEAVE_GROUP_maxVersion F_SYNC_GROUP_minVersion F_SYNC_GROUP_maxVersion F_DESCRIBE_GROUPS_minVersion F_DESCRIBE_GROUPS_maxVersion F_LIST_GROUPS_minVersion F_LIST_GROUPS_maxVersion F_API_VERSIONS_minVersion F_API_VERSIONS_maxVersion ((((((((((((((Arv.ext R_K E1).other W2 ne_bK_b1).other W3 ne_bK_b1).other W4 ne_bK_b1).other W5 ne_bK_b1).other W6 ne_bK_b1).other W7 ne_bK_b1).other W8 ne_bK_b1).other W9 ne_bK_b1).other W10 ne_bK_b1).other W11 ne_bK_b1).other W12 ne_bK_b1).other W13 ne_bK_b1).other W14 ne_bK_b1) R14
theorem ef_law (m : MethodId) (x0 : Int32) (x1 : Int32) : entryFrame m #[(.int x0), (.int x1)] maxLocals = mkF m 0 #[.val (.int x0), .val (.int x1), .unset, .unset, .unset, .unset, .unset, .unset, .unset] [] := by first | (simp [entryFrame, mkF, argsToLocals, Value.category, maxLocals]; done) | rfl
set_option maxRecDepth 65536 in
set_option maxHeartbeats 40000000 in
theorem rm_law (l : Launch) (Z : State) (a0 : Array Value) (hw : ∀ d ∈ tables_1, d.before a0 Z = true) (ws : List Jvm.Cond) (p1 : Int32) (p2 : Int32) (w_FETCH : Addr) (w_LIST_OFFSETS : Addr) (w_METADATA : Addr) (w_OFFSET_COMMIT : Addr) (w_OFFSET_FETCH : Addr) (w_FIND_COORDINATOR : Addr) (w_JOIN_GROUP : Addr) (w_HEARTBEAT : Addr) (w_LEAVE_GROUP : Addr) (w_SYNC_GROUP : Addr) (w_DESCRIBE_GROUPS : Addr) (w_LIST_GROUPS : Addr) (w_API_VERSIONS : Addr) (h0 : Heap) (n0 : Nat) (Z0 : n0 ≤ h0.size) (O0 : Old Z n0 h0) (S_FETCH : Sta Z Z.heap "com/example/loose_grip/loosegrip/wire/ApiKey" "FETCH" "Lcom/example/loose_grip/loosegrip/wire/ApiKey;" (.ref w_FETCH)) (S_LIST_OFFSETS : Sta Z Z.heap "com/example/loose_grip/loosegrip/wire/ApiKey" "LIST_OFFSETS" "Lcom/example/loose_grip/loosegrip/wire/ApiKey;" (.ref w_LIST_OFFSETS)) (S_METADATA : Sta Z Z.heap "com/example/loose_grip/loosegrip/wire/ApiKey" "METADATA" "Lcom/example/loose_grip/loosegrip/wire/ApiKey;" (.ref w_METADATA)) (S_OFFSET_COMMIT : Sta Z Z.heap "com/example/loose_grip/loosegrip/wire/ApiKey" "OFFSET_COMMIT" "Lcom/example/loose_grip/loosegrip/wire/ApiKey;" (.ref w_OFFSET_COMMIT)) (S_OFFSET_FETCH : Sta Z Z.heap "com/example/loose_grip/loosegrip/wire/ApiKey" "OFFSET_FETCH" "Lcom/example/loose_grip/loosegrip/wire/ApiKey;" (.ref w_OFFSET_FETCH)) (S_FIND_COORDINATOR : Sta Z Z.heap "com/example/loose_grip/loosegrip/wire/ApiKey" "FIND_COORDINATOR" "Lcom/example/loose_grip/loosegrip/wire/ApiKey;" (.ref w_FIND_COORDINATOR)) (S_JOIN_GROUP : Sta Z Z.heap "com/example/loose_grip/loosegrip/wire/ApiKey" "JOIN_GROUP" "Lcom/example/loose_grip/loosegrip/wire/ApiKey;" (.ref w_JOIN_GROUP)) (S_HEARTBEAT : Sta Z Z.heap "com/example/loose_grip/loosegrip/wire/ApiKey" "HEARTBEAT" "Lcom/example/loose_grip/loosegrip/wire/ApiKey;" (.ref w_HEARTBEAT)) (S_LEAVE_GROUP : Sta Z Z.heap "com/example/loose_grip/loosegrip/wire/ApiKey" "LEAVE_GROUP" "Lcom/example/loose_grip/loosegrip/wire/ApiKey;" (.ref w_LEAVE_GROUP)) (S_SYNC_GROUP : Sta Z Z.heap "com/example/loose_grip/loosegrip/wire/ApiKey" "SYNC_GROUP" "Lcom/example/loose_grip/loosegrip/wire/ApiKey;" (.ref w_SYNC_GROUP)) (S_DESCRIBE_GROUPS : Sta Z Z.heap "com/example/loose_grip/loosegrip/wire/ApiKey" "DESCRIBE_GROUPS" "Lcom/example/loose_grip/loosegrip/wire/ApiKey;" (.ref w_DESCRIBE_GROUPS)) (S_LIST_GROUPS : Sta Z Z.heap "com/example/loose_grip/loosegrip/wire/ApiKey" "LIST_GROUPS" "Lcom/example/loose_grip/loosegrip/wire/ApiKey;" (.ref w_LIST_GROUPS)) (S_API_VERSIONS : Sta Z Z.heap "com/example/loose_grip/loosegrip/wire/ApiKey" "API_VERSIONS" "Lcom/example/loose_grip/loosegrip/wire/ApiKey;" (.ref w_API_VERSIONS)) (E_FETCH : Exa Z Z.heap w_FETCH "com/example/loose_grip/loosegrip/wire/ApiKey") (E_LIST_OFFSETS : Exa Z Z.heap w_LIST_OFFSETS "com/example/loose_grip/loosegrip/wire/ApiKey") (E_METADATA : Exa Z Z.heap w_METADATA "com/example/loose_grip/loosegrip/wire/ApiKey") (E_OFFSET_COMMIT : Exa Z Z.heap w_OFFSET_COMMIT "com/example/loose_grip/loosegrip/wire/ApiKey") (E_OFFSET_FETCH : Exa Z Z.heap w_OFFSET_FETCH "com/example/loose_grip/loosegrip/wire/ApiKey") (E_FIND_COORDINATOR : Exa Z Z.heap w_FIND_COORDINATOR "com/example/loose_grip/loosegrip/wire/ApiKey") (E_JOIN_GROUP : Exa Z Z.heap w_JOIN_GROUP "com/example/loose_grip/loosegrip/wire/ApiKey") (E_HEARTBEAT : Exa Z Z.heap w_HEARTBEAT "com/example/loose_grip/loosegrip/wire/ApiKey") (E_LEAVE_GROUP : Exa Z Z.heap w_LEAVE_GROUP "com/example/loose_grip/loosegrip/wire/ApiKey") (E_SYNC_GROUP : Exa Z Z.heap w_SYNC_GROUP "com/example/loose_grip/loosegrip/wire/ApiKey") (E_DESCRIBE_GROUPS : Exa Z Z.heap w_DESCRIBE_GROUPS "com/example/loose_grip/loosegrip/wire/ApiKey") (E_LIST_GROUPS : Exa Z Z.heap w_LIST_GROUPS "com/example/loose_grip/loosegrip/wire/ApiKey") (E_API_VERSIONS : Exa Z Z.heap w_API_VERSIONS "com/example/loose_grip/loosegrip/wire/ApiKey") (F_FETCH_minVersion : Fld Z Z.heap w_FETCH "com/example/loose_grip/loosegrip/wire/ApiKey" "minVersion" "S" (.int (0 : Int32))) (F_FETCH_maxVersion : Fld Z Z.heap w_FETCH "com/example/loose_grip/loosegrip/wire/ApiKey" "maxVersion" "S" (.int (11 : Int32))) (F_LIST_OFFSETS_minVersion : Fld Z Z.heap w_LIST_OFFSETS "com/example/loose_grip/loosegrip/wire/ApiKey" "minVersion" "S" (.int (0 : Int32))) (F_LIST_OFFSETS_maxVersion : Fld Z Z.heap w_LIST_OFFSETS "com/example/loose_grip/loosegrip/wire/ApiKey" "maxVersion" "S" (.int (5 : Int32))) (F_METADATA_minVersion : Fld Z Z.heap w_METADATA "com/example/loose_grip/loosegrip/wire/ApiKey" "minVersion" "S" (.int (0 : Int32))) (F_METADATA_maxVersion : Fld Z Z.heap w_METADATA "com/example/loose_grip/loosegrip/wire/ApiKey" "maxVersion" "S" (.int (4 : Int32))) (F_OFFSET_COMMIT_minVersion : Fld Z Z.heap w_OFFSET_COMMIT "com/example/loose_grip/loosegrip/wire/ApiKey" "minVersion" "S" (.int (2 : Int32))) (F_OFFSET_COMMIT_maxVersion : Fld Z Z.heap w_OFFSET_COMMIT "com/example/loose_grip/loosegrip/wire/ApiKey" "maxVersion" "S" (.int (7 : Int32))) (F_OFFSET_FETCH_minVersion : Fld Z Z.heap w_OFFSET_FETCH "com/example/loose_grip/loosegrip/wire/ApiKey" "minVersion" "S" (.int (1 : Int32))) (F_OFFSET_FETCH_maxVersion : Fld Z Z.heap w_OFFSET_FETCH "com/example/loose_grip/loosegrip/wire/ApiKey" "maxVersion" "S" (.int (5 : Int32))) (F_FIND_COORDINATOR_minVersion : Fld Z Z.heap w_FIND_COORDINATOR "com/example/loose_grip/loosegrip/wire/ApiKey" "minVersion" "S" (.int (0 : Int32))) (F_FIND_COORDINATOR_maxVersion : Fld Z Z.heap w_FIND_COORDINATOR "com/example/loose_grip/loosegrip/wire/ApiKey" "maxVersion" "S" (.int (2 : Int32))) (F_JOIN_GROUP_minVersion : Fld Z Z.heap w_JOIN_GROUP "com/example/loose_grip/loosegrip/wire/ApiKey" "minVersion" "S" (.int (0 : Int32))) (F_JOIN_GROUP_maxVersion : Fld Z Z.heap w_JOIN_GROUP "com/example/loose_grip/loosegrip/wire/ApiKey" "maxVersion" "S" (.int (5 : Int32))) (F_HEARTBEAT_minVersion : Fld Z Z.heap w_HEARTBEAT "com/example/loose_grip/loosegrip/wire/ApiKey" "minVersion" "S" (.int (0 : Int32))) (F_HEARTBEAT_maxVersion : Fld Z Z.heap w_HEARTBEAT "com/example/loose_grip/loosegrip/wire/ApiKey" "maxVersion" "S" (.int (3 : Int32))) (F_LEAVE_GROUP_minVersion : Fld Z Z.heap w_LEAVE_GROUP "com/example/loose_grip/loosegrip/wire/ApiKey" "minVersion" "S" (.int (0 : Int32))) (F_LEAVE_GROUP_maxVersion : Fld Z Z.heap w_LEAVE_GROUP "com/example/loose_grip/loosegrip/wire/ApiKey" "maxVersion" "S" (.int (3 : Int32))) (F_SYNC_GROUP_minVersion : Fld Z Z.heap w_SYNC_GROUP "com/example/loose_grip/loosegrip/wire/ApiKey" "minVersion" "S" (.int (0 : Int32))) (F_SYNC_GROUP_maxVersion : Fld Z Z.heap w_SYNC_GROUP "com/example/loose_grip/loosegrip/wire/ApiKey" "maxVersion" "S" (.int (3 : Int32))) (F_DESCRIBE_GROUPS_minVersion : Fld Z Z.heap w_DESCRIBE_GROUPS "com/example/loose_grip/loosegrip/wire/ApiKey" "minVersion" "S" (.int (0 : Int32))) (F_DESCRIBE_GROUPS_maxVersion : Fld Z Z.heap w_DESCRIBE_GROUPS "com/example/loose_grip/loosegrip/wire/ApiKey" "maxVersion" "S" (.int (4 : Int32))) (F_LIST_GROUPS_minVersion : Fld Z Z.heap w_LIST_GROUPS "com/example/loose_grip/loosegrip/wire/ApiKey" "minVersion" "S" (.int (0 : Int32))) (F_LIST_GROUPS_maxVersion : Fld Z Z.heap w_LIST_GROUPS "com/example/loose_grip/loosegrip/wire/ApiKey" "maxVersion" "S" (.int (2 : Int32))) (F_API_VERSIONS_minVersion : Fld Z Z.heap w_API_VERSIONS "com/example/loose_grip/loosegrip/wire/ApiKey" "minVersion" "S" (.int (0 : Int32))) (F_API_VERSIONS_maxVersion : Fld Z Z.heap w_API_VERSIONS "com/example/loose_grip/loosegrip/wire/ApiKey" "maxVersion" "S" (.int (2 : Int32))) :
    MetFree l x (head1 (Jvm.Cond.code x code maxLocals ret :: ws) room_1) (fun a U => a = #[(.int p1), (.int p2)] ∧ Z.Warmed39 U.vm ∧ U.heap = h0) (fun _ _ _ _ _ => True) (fun _ U o U' => ∃ v L, o = .returned v ∧ Q_law n0 v U'.heap L ∧ FrameEnd U o U' L room_1.cells room_1.slots) := by
  refine MetFree.of_bodySF (plainFor_of_name pn_0) hisR ?_
  intro p e s m args below meth c s₁ Bd hml0 hP hK
  obtain ⟨rfl, hZ, hh⟩ := hP
  have hx := Bd.exec
  have hby := Bd.bytes
  have hml : c.maxLocals = 9 := hml0
  have hown : s.vm.findClass "com/example/loose_grip/loosegrip/wire/ApiKeySupportsPinLaw" = some m.cls := findClass_of_methodNamed Bd.named
  have hnm := (name_of_methodNamed Bd.named Bd.method).1
  have hlk := Bd.notSynchronized
  have hret := Bd.returns
  have X0 : Stand p l e room_1 s m #[(.int p1), (.int p2)] below meth c s₁ [] 0 0 := Stand.of_body Bd
  have e0 : s₁.heap = h0 := by rw [← hh, Bd.state]; rfl
  have N0 := Fr.nil n0
  refine own_in room_1.cells room_1.slots (Q_law n0) (ef_law m p1 p2) ?_
  show own_G p.tables e below _ (s₁.setTop (mkF m 0 #[.val (.int p1), .val (.int p2), .unset, .unset, .unset, .unset, .unset, .unset, .unset] []))
  refine own_st (fun _ kS => XS.bipush X0.here hx rfl (hb hby at_0) kS) ?_
  show own_G p.tables e below _ (s₁.setTop (mkF m 2 #[.val (.int p1), .val (.int p2), .unset, .unset, .unset, .unset, .unset, .unset, .unset] [(.int (13 : Int32))]))
  obtain ⟨T1, h1, k1, X1, e1, E1, A1, V1, st1⟩ := newR X0 hx hZ hown (hw _ (List.mem_of_getElem? (i := 0) rfl)) (hw _ (List.mem_of_getElem? (i := 1) rfl)) e0 (g := (mkF m 2 #[.val (.int p1), .val (.int p2), .unset, .unset, .unset, .unset, .unset, .unset, .unset] [(.int (13 : Int32))])) rfl (hb hby at_2) rfl (by decide) (cap := 13) (by decide) (by decide) (by decide) (by decide)
  obtain ⟨b1, g1⟩ : ∃ z, z = h0.size := ⟨_, rfl⟩
  have ge_b1 : n0 ≤ b1 := Nat.le_trans Z0 (Nat.le_of_eq g1.symm)
  rw [← g1] at A1 st1
  have O1 := O0.ext E1
  have R1 : Arv Z h1 b1 k1 (.object "com/example/loose_grip/loosegrip/wire/ApiKey") (13 : Int32) [.null, .null, .null, .null, .null, .null, .null, .null, .null, .null, .null, .null, .null] .null := (Arv.new A1 (by decide)).pad (pad_rep [] .null 13)
  refine own_st st1 ?_
  show own_G p.tables e below _ (T1.setTop (mkF m 5 #[.val (.int p1), .val (.int p2), .unset, .unset, .unset, .unset, .unset, .unset, .unset] [(.ref b1)]))
  refine own_st (fun _ kS => XS.dup X1.here hx rfl (hb hby at_5) rfl rfl kS) ?_
  show own_G p.tables e below _ (T1.setTop (mkF m 6 #[.val (.int p1), .val (.int p2), .unset, .unset, .unset, .unset, .unset, .unset, .unset] [(.ref b1), (.ref b1)]))
  refine own_st (fun _ kS => XS.iconst X1.here hx rfl (hb hby at_6) kS) ?_
  show own_G p.tables e below _ (T1.setTop (mkF m 7 #[.val (.int p1), .val (.int p2), .unset, .unset, .unset, .unset, .unset, .unset, .unset] [(.int (0 : Int32)), (.ref b1), (.ref b1)]))
  obtain ⟨T2, X2, e2, st2⟩ := getS2 X1 hx hZ hown (host := "") (Or.inl (hw _ (List.mem_of_getElem? (i := 2) rfl))) Via.refl e1 (Sta.ext O1.2 S_FETCH) (g := (mkF m 7 #[.val (.int p1), .val (.int p2), .unset, .unset, .unset, .unset, .unset, .unset, .unset] [(.int (0 : Int32)), (.ref b1), (.ref b1)])) rfl (hb hby at_7)
  refine own_st st2 ?_
  show own_G p.tables e below _ (T2.setTop (mkF m 10 #[.val (.int p1), .val (.int p2), .unset, .unset, .unset, .unset, .unset, .unset, .unset] [(.ref w_FETCH), (.int (0 : Int32)), (.ref b1), (.ref b1)]))
  obtain ⟨cl3, Ar3, qa3, qs3, qn3, qh3, qg3⟩ := id R1
  obtain ⟨T3, h3, X3, e3, W3, st3⟩ := stR X2 hx hZ e2 Ar3 (j := (0 : Int32)) (inb_of qs3 ⟨by decide, by decide⟩) rfl (Sto.ofV Ar3 qa3 V1 (Ins.self (Exa.ext O1.2 E_FETCH))) (g := (mkF m 10 #[.val (.int p1), .val (.int p2), .unset, .unset, .unset, .unset, .unset, .unset, .unset] [(.ref w_FETCH), (.int (0 : Int32)), (.ref b1), (.ref b1)])) rfl rfl (hb hby at_10)
  have N3 := Fr.snoc X3 N0 ge_b1
  have O3 := O1.wr W3 ge_b1
  have R3 : Arv Z h3 b1 k1 (.object "com/example/loose_grip/loosegrip/wire/ApiKey") (13 : Int32) [(.ref w_FETCH), .null, .null, .null, .null, .null, .null, .null, .null, .null, .null, .null, .null] .null := Arv.set Ar3 qa3 qs3 qn3 qh3 qg3 rfl W3 0 rfl (Nat.le_of_ble_eq_true rfl)
  refine own_st st3 ?_
  show own_G p.tables e below _ (T3.setTop (mkF m 11 #[.val (.int p1), .val (.int p2), .unset, .unset, .unset, .unset, .unset, .unset, .unset] [(.ref b1)]))
  refine own_st (fun _ kS => XS.dup X3.here hx rfl (hb hby at_11) rfl rfl kS) ?_
  show own_G p.tables e below _ (T3.setTop (mkF m 12 #[.val (.int p1), .val (.int p2), .unset, .unset, .unset, .unset, .unset, .unset, .unset] [(.ref b1), (.ref b1)]))
  refine own_st (fun _ kS => XS.iconst X3.here hx rfl (hb hby at_12) kS) ?_
  show own_G p.tables e below _ (T3.setTop (mkF m 13 #[.val (.int p1), .val (.int p2), .unset, .unset, .unset, .unset, .unset, .unset, .unset] [(.int (1 : Int32)), (.ref b1), (.ref b1)]))
  obtain ⟨T4, X4, e4, st4⟩ := getS2 X3 hx hZ hown (host := "") (Or.inl (hw _ (List.mem_of_getElem? (i := 6) rfl))) Via.refl e3 (Sta.ext O3.2 S_LIST_OFFSETS) (g := (mkF m 13 #[.val (.int p1), .val (.int p2), .unset, .unset, .unset, .unset, .unset, .unset, .unset] [(.int (1 : Int32)), (.ref b1), (.ref b1)])) rfl (hb hby at_13)
  refine own_st st4 ?_
  show own_G p.tables e below _ (T4.setTop (mkF m 16 #[.val (.int p1), .val (.int p2), .unset, .unset, .unset, .unset, .unset, .unset, .unset] [(.ref w_LIST_OFFSETS), (.int (1 : Int32)), (.ref b1), (.ref b1)]))
  obtain ⟨cl5, Ar5, qa5, qs5, qn5, qh5, qg5⟩ := id R3
  obtain ⟨T5, h5, X5, e5, W5, st5⟩ := stR X4 hx hZ e4 Ar5 (j := (1 : Int32)) (inb_of qs5 ⟨by decide, by decide⟩) rfl (Sto.ofV Ar5 qa5 V1 (Ins.self (Exa.ext O3.2 E_LIST_OFFSETS))) (g := (mkF m 16 #[.val (.int p1), .val (.int p2), .unset, .unset, .unset, .unset, .unset, .unset, .unset] [(.ref w_LIST_OFFSETS), (.int (1 : Int32)), (.ref b1), (.ref b1)])) rfl rfl (hb hby at_16)
  have N5 := Fr.snoc X5 N3 ge_b1
  have O5 := O3.wr W5 ge_b1
  have R5 : Arv Z h5 b1 k1 (.object "com/example/loose_grip/loosegrip/wire/ApiKey") (13 : Int32) [(.ref w_FETCH), (.ref w_LIST_OFFSETS), .null, .null, .null, .null, .null, .null, .null, .null, .null, .null, .null] .null := Arv.set Ar5 qa5 qs5 qn5 qh5 qg5 rfl W5 1 rfl (Nat.le_of_ble_eq_true rfl)
  refine own_st st5 ?_
  show own_G p.tables e below _ (T5.setTop (mkF m 17 #[.val (.int p1), .val (.int p2), .unset, .unset, .unset, .unset, .unset, .unset, .unset] [(.ref b1)]))
  refine own_st (fun _ kS => XS.dup X5.here hx rfl (hb hby at_17) rfl rfl kS) ?_
  show own_G p.tables e below _ (T5.setTop (mkF m 18 #[.val (.int p1), .val (.int p2), .unset, .unset, .unset, .unset, .unset, .unset, .unset] [(.ref b1), (.ref b1)]))
  refine own_st (fun _ kS => XS.iconst X5.here hx rfl (hb hby at_18) kS) ?_
  show own_G p.tables e below _ (T5.setTop (mkF m 19 #[.val (.int p1), .val (.int p2), .unset, .unset, .unset, .unset, .unset, .unset, .unset] [(.int (2 : Int32)), (.ref b1), (.ref b1)]))
  obtain ⟨T6, X6, e6, st6⟩ := getS2 X5 hx hZ hown (host := "") (Or.inl (hw _ (List.mem_of_getElem? (i := 8) rfl))) Via.refl e5 (Sta.ext O5.2 S_METADATA) (g := (mkF m 19 #[.val (.int p1), .val (.int p2), .unset, .unset, .unset, .unset, .unset, .unset, .unset] [(.int (2 : Int32)), (.ref b1), (.ref b1)])) rfl (hb hby at_19)
  refine own_st st6 ?_
  show own_G p.tables e below _ (T6.setTop (mkF m 22 #[.val (.int p1), .val (.int p2), .unset, .unset, .unset, .unset, .unset, .unset, .unset] [(.ref w_METADATA), (.int (2 : Int32)), (.ref b1), (.ref b1)]))
  obtain ⟨cl7, Ar7, qa7, qs7, qn7, qh7, qg7⟩ := id R5
  obtain ⟨T7, h7, X7, e7, W7, st7⟩ := stR X6 hx hZ e6 Ar7 (j := (2 : Int32)) (inb_of qs7 ⟨by decide, by decide⟩) rfl (Sto.ofV Ar7 qa7 V1 (Ins.self (Exa.ext O5.2 E_METADATA))) (g := (mkF m 22 #[.val (.int p1), .val (.int p2), .unset, .unset, .unset, .unset, .unset, .unset, .unset] [(.ref w_METADATA), (.int (2 : Int32)), (.ref b1), (.ref b1)])) rfl rfl (hb hby at_22)
  have N7 := Fr.snoc X7 N5 ge_b1
  have O7 := O5.wr W7 ge_b1
  have R7 : Arv Z h7 b1 k1 (.object "com/example/loose_grip/loosegrip/wire/ApiKey") (13 : Int32) [(.ref w_FETCH), (.ref w_LIST_OFFSETS), (.ref w_METADATA), .null, .null, .null, .null, .null, .null, .null, .null, .null, .null] .null := Arv.set Ar7 qa7 qs7 qn7 qh7 qg7 rfl W7 2 rfl (Nat.le_of_ble_eq_true rfl)
  refine own_st st7 ?_
  show own_G p.tables e below _ (T7.setTop (mkF m 23 #[.val (.int p1), .val (.int p2), .unset, .unset, .unset, .unset, .unset, .unset, .unset] [(.ref b1)]))
  refine own_st (fun _ kS => XS.dup X7.here hx rfl (hb hby at_23) rfl rfl kS) ?_
  show own_G p.tables e below _ (T7.setTop (mkF m 24 #[.val (.int p1), .val (.int p2), .unset, .unset, .unset, .unset, .unset, .unset, .unset] [(.ref b1), (.ref b1)]))
  refine own_st (fun _ kS => XS.iconst X7.here hx rfl (hb hby at_24) kS) ?_
  show own_G p.tables e below _ (T7.setTop (mkF m 25 #[.val (.int p1), .val (.int p2), .unset, .unset, .unset, .unset, .unset, .unset, .unset] [(.int (3 : Int32)), (.ref b1), (.ref b1)]))
  obtain ⟨T8, X8, e8, st8⟩ := getS2 X7 hx hZ hown (host := "") (Or.inl (hw _ (List.mem_of_getElem? (i := 10) rfl))) Via.refl e7 (Sta.ext O7.2 S_OFFSET_COMMIT) (g := (mkF m 25 #[.val (.int p1), .val (.int p2), .unset, .unset, .unset, .unset, .unset, .unset, .unset] [(.int (3 : Int32)), (.ref b1), (.ref b1)])) rfl (hb hby at_25)
  refine own_st st8 ?_
  show own_G p.tables e below _ (T8.setTop (mkF m 28 #[.val (.int p1), .val (.int p2), .unset, .unset, .unset, .unset, .unset, .unset, .unset] [(.ref w_OFFSET_COMMIT), (.int (3 : Int32)), (.ref b1), (.ref b1)]))
  obtain ⟨cl9, Ar9, qa9, qs9, qn9, qh9, qg9⟩ := id R7
  obtain ⟨T9, h9, X9, e9, W9, st9⟩ := stR X8 hx hZ e8 Ar9 (j := (3 : Int32)) (inb_of qs9 ⟨by decide, by decide⟩) rfl (Sto.ofV Ar9 qa9 V1 (Ins.self (Exa.ext O7.2 E_OFFSET_COMMIT))) (g := (mkF m 28 #[.val (.int p1), .val (.int p2), .unset, .unset, .unset, .unset, .unset, .unset, .unset] [(.ref w_OFFSET_COMMIT), (.int (3 : Int32)), (.ref b1), (.ref b1)])) rfl rfl (hb hby at_28)
  have N9 := Fr.snoc X9 N7 ge_b1
  have O9 := O7.wr W9 ge_b1
  have R9 : Arv Z h9 b1 k1 (.object "com/example/loose_grip/loosegrip/wire/ApiKey") (13 : Int32) [(.ref w_FETCH), (.ref w_LIST_OFFSETS), (.ref w_METADATA), (.ref w_OFFSET_COMMIT), .null, .null, .null, .null, .null, .null, .null, .null, .null] .null := Arv.set Ar9 qa9 qs9 qn9 qh9 qg9 rfl W9 3 rfl (Nat.le_of_ble_eq_true rfl)
  refine own_st st9 ?_
  show own_G p.tables e below _ (T9.setTop (mkF m 29 #[.val (.int p1), .val (.int p2), .unset, .unset, .unset, .unset, .unset, .unset, .unset] [(.ref b1)]))
  refine own_st (fun _ kS => XS.dup X9.here hx rfl (hb hby at_29) rfl rfl kS) ?_
  show own_G p.tables e below _ (T9.setTop (mkF m 30 #[.val (.int p1), .val (.int p2), .unset, .unset, .unset, .unset, .unset, .unset, .unset] [(.ref b1), (.ref b1)]))
  refine own_st (fun _ kS => XS.iconst X9.here hx rfl (hb hby at_30) kS) ?_
  show own_G p.tables e below _ (T9.setTop (mkF m 31 #[.val (.int p1), .val (.int p2), .unset, .unset, .unset, .unset, .unset, .unset, .unset] [(.int (4 : Int32)), (.ref b1), (.ref b1)]))
  obtain ⟨T10, X10, e10, st10⟩ := getS2 X9 hx hZ hown (host := "") (Or.inl (hw _ (List.mem_of_getElem? (i := 12) rfl))) Via.refl e9 (Sta.ext O9.2 S_OFFSET_FETCH) (g := (mkF m 31 #[.val (.int p1), .val (.int p2), .unset, .unset, .unset, .unset, .unset, .unset, .unset] [(.int (4 : Int32)), (.ref b1), (.ref b1)])) rfl (hb hby at_31)
  refine own_st st10 ?_
  show own_G p.tables e below _ (T10.setTop (mkF m 34 #[.val (.int p1), .val (.int p2), .unset, .unset, .unset, .unset, .unset, .unset, .unset] [(.ref w_OFFSET_FETCH), (.int (4 : Int32)), (.ref b1), (.ref b1)]))
  obtain ⟨cl11, Ar11, qa11, qs11, qn11, qh11, qg11⟩ := id R9
  obtain ⟨T11, h11, X11, e11, W11, st11⟩ := stR X10 hx hZ e10 Ar11 (j := (4 : Int32)) (inb_of qs11 ⟨by decide, by decide⟩) rfl (Sto.ofV Ar11 qa11 V1 (Ins.self (Exa.ext O9.2 E_OFFSET_FETCH))) (g := (mkF m 34 #[.val (.int p1), .val (.int p2), .unset, .unset, .unset, .unset, .unset, .unset, .unset] [(.ref w_OFFSET_FETCH), (.int (4 : Int32)), (.ref b1), (.ref b1)])) rfl rfl (hb hby at_34)
  have N11 := Fr.snoc X11 N9 ge_b1
  have O11 := O9.wr W11 ge_b1
  have R11 : Arv Z h11 b1 k1 (.object "com/example/loose_grip/loosegrip/wire/ApiKey") (13 : Int32) [(.ref w_FETCH), (.ref w_LIST_OFFSETS), (.ref w_METADATA), (.ref w_OFFSET_COMMIT), (.ref w_OFFSET_FETCH), .null, .null, .null, .null, .null, .null, .null, .null] .null := Arv.set Ar11 qa11 qs11 qn11 qh11 qg11 rfl W11 4 rfl (Nat.le_of_ble_eq_true rfl)
  refine own_st st11 ?_
  show own_G p.tables e below _ (T11.setTop (mkF m 35 #[.val (.int p1), .val (.int p2), .unset, .unset, .unset, .unset, .unset, .unset, .unset] [(.ref b1)]))
  refine own_st (fun _ kS => XS.dup X11.here hx rfl (hb hby at_35) rfl rfl kS) ?_
  show own_G p.tables e below _ (T11.setTop (mkF m 36 #[.val (.int p1), .val (.int p2), .unset, .unset, .unset, .unset, .unset, .unset, .unset] [(.ref b1), (.ref b1)]))
  refine own_st (fun _ kS => XS.iconst X11.here hx rfl (hb hby at_36) kS) ?_
  show own_G p.tables e below _ (T11.setTop (mkF m 37 #[.val (.int p1), .val (.int p2), .unset, .unset, .unset, .unset, .unset, .unset, .unset] [(.int (5 : Int32)), (.ref b1), (.ref b1)]))
  obtain ⟨T12, X12, e12, st12⟩ := getS2 X11 hx hZ hown (host := "") (Or.inl (hw _ (List.mem_of_getElem? (i := 14) rfl))) Via.refl e11 (Sta.ext O11.2 S_FIND_COORDINATOR) (g := (mkF m 37 #[.val (.int p1), .val (.int p2), .unset, .unset, .unset, .unset, .unset, .unset, .unset] [(.int (5 : Int32)), (.ref b1), (.ref b1)])) rfl (hb hby at_37)
  refine own_st st12 ?_
  show own_G p.tables e below _ (T12.setTop (mkF m 40 #[.val (.int p1), .val (.int p2), .unset, .unset, .unset, .unset, .unset, .unset, .unset] [(.ref w_FIND_COORDINATOR), (.int (5 : Int32)), (.ref b1), (.ref b1)]))
  obtain ⟨cl13, Ar13, qa13, qs13, qn13, qh13, qg13⟩ := id R11
  obtain ⟨T13, h13, X13, e13, W13, st13⟩ := stR X12 hx hZ e12 Ar13 (j := (5 : Int32)) (inb_of qs13 ⟨by decide, by decide⟩) rfl (Sto.ofV Ar13 qa13 V1 (Ins.self (Exa.ext O11.2 E_FIND_COORDINATOR))) (g := (mkF m 40 #[.val (.int p1), .val (.int p2), .unset, .unset, .unset, .unset, .unset, .unset, .unset] [(.ref w_FIND_COORDINATOR), (.int (5 : Int32)), (.ref b1), (.ref b1)])) rfl rfl (hb hby at_40)
  have N13 := Fr.snoc X13 N11 ge_b1
  have O13 := O11.wr W13 ge_b1
  have R13 : Arv Z h13 b1 k1 (.object "com/example/loose_grip/loosegrip/wire/ApiKey") (13 : Int32) [(.ref w_FETCH), (.ref w_LIST_OFFSETS), (.ref w_METADATA), (.ref w_OFFSET_COMMIT), (.ref w_OFFSET_FETCH), (.ref w_FIND_COORDINATOR), .null, .null, .null, .null, .null, .null, .null] .null := Arv.set Ar13 qa13 qs13 qn13 qh13 qg13 rfl W13 5 rfl (Nat.le_of_ble_eq_true rfl)
  refine own_st st13 ?_
  show own_G p.tables e below _ (T13.setTop (mkF m 41 #[.val (.int p1), .val (.int p2), .unset, .unset, .unset, .unset, .unset, .unset, .unset] [(.ref b1)]))
  refine own_st (fun _ kS => XS.dup X13.here hx rfl (hb hby at_41) rfl rfl kS) ?_
  show own_G p.tables e below _ (T13.setTop (mkF m 42 #[.val (.int p1), .val (.int p2), .unset, .unset, .unset, .unset, .unset, .unset, .unset] [(.ref b1), (.ref b1)]))
  refine own_st (fun _ kS => XS.bipush X13.here hx rfl (hb hby at_42) kS) ?_
  show own_G p.tables e below _ (T13.setTop (mkF m 44 #[.val (.int p1), .val (.int p2), .unset, .unset, .unset, .unset, .unset, .unset, .unset] [(.int (6 : Int32)), (.ref b1), (.ref b1)]))
  obtain ⟨T14, X14, e14, st14⟩ := getS2 X13 hx hZ hown (host := "") (Or.inl (hw _ (List.mem_of_getElem? (i := 16) rfl))) Via.refl e13 (Sta.ext O13.2 S_JOIN_GROUP) (g := (mkF m 44 #[.val (.int p1), .val (.int p2), .unset, .unset, .unset, .unset, .unset, .unset, .unset] [(.int (6 : Int32)), (.ref b1), (.ref b1)])) rfl (hb hby at_44)
  refine own_st st14 ?_
  show own_G p.tables e below _ (T14.setTop (mkF m 47 #[.val (.int p1), .val (.int p2), .unset, .unset, .unset, .unset, .unset, .unset, .unset] [(.ref w_JOIN_GROUP), (.int (6 : Int32)), (.ref b1), (.ref b1)]))
  obtain ⟨cl15, Ar15, qa15, qs15, qn15, qh15, qg15⟩ := id R13
  obtain ⟨T15, h15, X15, e15, W15, st15⟩ := stR X14 hx hZ e14 Ar15 (j := (6 : Int32)) (inb_of qs15 ⟨by decide, by decide⟩) rfl (Sto.ofV Ar15 qa15 V1 (Ins.self (Exa.ext O13.2 E_JOIN_GROUP))) (g := (mkF m 47 #[.val (.int p1), .val (.int p2), .unset, .unset, .unset, .unset, .unset, .unset, .unset] [(.ref w_JOIN_GROUP), (.int (6 : Int32)), (.ref b1), (.ref b1)])) rfl rfl (hb hby at_47)
  have N15 := Fr.snoc X15 N13 ge_b1
  have O15 := O13.wr W15 ge_b1
  have R15 : Arv Z h15 b1 k1 (.object "com/example/loose_grip/loosegrip/wire/ApiKey") (13 : Int32) [(.ref w_FETCH), (.ref w_LIST_OFFSETS), (.ref w_METADATA), (.ref w_OFFSET_COMMIT), (.ref w_OFFSET_FETCH), (.ref w_FIND_COORDINATOR), (.ref w_JOIN_GROUP), .null, .null, .null, .null, .null, .null] .null := Arv.set Ar15 qa15 qs15 qn15 qh15 qg15 rfl W15 6 rfl (Nat.le_of_ble_eq_true rfl)
  refine own_st st15 ?_
  show own_G p.tables e below _ (T15.setTop (mkF m 48 #[.val (.int p1), .val (.int p2), .unset, .unset, .unset, .unset, .unset, .unset, .unset] [(.ref b1)]))
  refine own_st (fun _ kS => XS.dup X15.here hx rfl (hb hby at_48) rfl rfl kS) ?_
  show own_G p.tables e below _ (T15.setTop (mkF m 49 #[.val (.int p1), .val (.int p2), .unset, .unset, .unset, .unset, .unset, .unset, .unset] [(.ref b1), (.ref b1)]))
  refine own_st (fun _ kS => XS.bipush X15.here hx rfl (hb hby at_49) kS) ?_
  show own_G p.tables e below _ (T15.setTop (mkF m 51 #[.val (.int p1), .val (.int p2), .unset, .unset, .unset, .unset, .unset, .unset, .unset] [(.int (7 : Int32)), (.ref b1), (.ref b1)]))
  obtain ⟨T16, X16, e16, st16⟩ := getS2 X15 hx hZ hown (host := "") (Or.inl (hw _ (List.mem_of_getElem? (i := 18) rfl))) Via.refl e15 (Sta.ext O15.2 S_HEARTBEAT) (g := (mkF m 51 #[.val (.int p1), .val (.int p2), .unset, .unset, .unset, .unset, .unset, .unset, .unset] [(.int (7 : Int32)), (.ref b1), (.ref b1)])) rfl (hb hby at_51)
  refine own_st st16 ?_
  show own_G p.tables e below _ (T16.setTop (mkF m 54 #[.val (.int p1), .val (.int p2), .unset, .unset, .unset, .unset, .unset, .unset, .unset] [(.ref w_HEARTBEAT), (.int (7 : Int32)), (.ref b1), (.ref b1)]))
  obtain ⟨cl17, Ar17, qa17, qs17, qn17, qh17, qg17⟩ := id R15
  obtain ⟨T17, h17, X17, e17, W17, st17⟩ := stR X16 hx hZ e16 Ar17 (j := (7 : Int32)) (inb_of qs17 ⟨by decide, by decide⟩) rfl (Sto.ofV Ar17 qa17 V1 (Ins.self (Exa.ext O15.2 E_HEARTBEAT))) (g := (mkF m 54 #[.val (.int p1), .val (.int p2), .unset, .unset, .unset, .unset, .unset, .unset, .unset] [(.ref w_HEARTBEAT), (.int (7 : Int32)), (.ref b1), (.ref b1)])) rfl rfl (hb hby at_54)
  have N17 := Fr.snoc X17 N15 ge_b1
  have O17 := O15.wr W17 ge_b1
  have R17 : Arv Z h17 b1 k1 (.object "com/example/loose_grip/loosegrip/wire/ApiKey") (13 : Int32) [(.ref w_FETCH), (.ref w_LIST_OFFSETS), (.ref w_METADATA), (.ref w_OFFSET_COMMIT), (.ref w_OFFSET_FETCH), (.ref w_FIND_COORDINATOR), (.ref w_JOIN_GROUP), (.ref w_HEARTBEAT), .null, .null, .null, .null, .null] .null := Arv.set Ar17 qa17 qs17 qn17 qh17 qg17 rfl W17 7 rfl (Nat.le_of_ble_eq_true rfl)
  refine own_st st17 ?_
  show own_G p.tables e below _ (T17.setTop (mkF m 55 #[.val (.int p1), .val (.int p2), .unset, .unset, .unset, .unset, .unset, .unset, .unset] [(.ref b1)]))
  refine own_st (fun _ kS => XS.dup X17.here hx rfl (hb hby at_55) rfl rfl kS) ?_
  show own_G p.tables e below _ (T17.setTop (mkF m 56 #[.val (.int p1), .val (.int p2), .unset, .unset, .unset, .unset, .unset, .unset, .unset] [(.ref b1), (.ref b1)]))
  refine own_st (fun _ kS => XS.bipush X17.here hx rfl (hb hby at_56) kS) ?_
  show own_G p.tables e below _ (T17.setTop (mkF m 58 #[.val (.int p1), .val (.int p2), .unset, .unset, .unset, .unset, .unset, .unset, .unset] [(.int (8 : Int32)), (.ref b1), (.ref b1)]))
  obtain ⟨T18, X18, e18, st18⟩ := getS2 X17 hx hZ hown (host := "") (Or.inl (hw _ (List.mem_of_getElem? (i := 20) rfl))) Via.refl e17 (Sta.ext O17.2 S_LEAVE_GROUP) (g := (mkF m 58 #[.val (.int p1), .val (.int p2), .unset, .unset, .unset, .unset, .unset, .unset, .unset] [(.int (8 : Int32)), (.ref b1), (.ref b1)])) rfl (hb hby at_58)
  refine own_st st18 ?_
  show own_G p.tables e below _ (T18.setTop (mkF m 61 #[.val (.int p1), .val (.int p2), .unset, .unset, .unset, .unset, .unset, .unset, .unset] [(.ref w_LEAVE_GROUP), (.int (8 : Int32)), (.ref b1), (.ref b1)]))
  obtain ⟨cl19, Ar19, qa19, qs19, qn19, qh19, qg19⟩ := id R17
  obtain ⟨T19, h19, X19, e19, W19, st19⟩ := stR X18 hx hZ e18 Ar19 (j := (8 : Int32)) (inb_of qs19 ⟨by decide, by decide⟩) rfl (Sto.ofV Ar19 qa19 V1 (Ins.self (Exa.ext O17.2 E_LEAVE_GROUP))) (g := (mkF m 61 #[.val (.int p1), .val (.int p2), .unset, .unset, .unset, .unset, .unset, .unset, .unset] [(.ref w_LEAVE_GROUP), (.int (8 : Int32)), (.ref b1), (.ref b1)])) rfl rfl (hb hby at_61)
  have N19 := Fr.snoc X19 N17 ge_b1
  have O19 := O17.wr W19 ge_b1
  have R19 : Arv Z h19 b1 k1 (.object "com/example/loose_grip/loosegrip/wire/ApiKey") (13 : Int32) [(.ref w_FETCH), (.ref w_LIST_OFFSETS), (.ref w_METADATA), (.ref w_OFFSET_COMMIT), (.ref w_OFFSET_FETCH), (.ref w_FIND_COORDINATOR), (.ref w_JOIN_GROUP), (.ref w_HEARTBEAT), (.ref w_LEAVE_GROUP), .null, .null, .null, .null] .null := Arv.set Ar19 qa19 qs19 qn19 qh19 qg19 rfl W19 8 rfl (Nat.le_of_ble_eq_true rfl)
  refine own_st st19 ?_
  show own_G p.tables e below _ (T19.setTop (mkF m 62 #[.val (.int p1), .val (.int p2), .unset, .unset, .unset, .unset, .unset, .unset, .unset] [(.ref b1)]))
  refine own_st (fun _ kS => XS.dup X19.here hx rfl (hb hby at_62) rfl rfl kS) ?_
  show own_G p.tables e below _ (T19.setTop (mkF m 63 #[.val (.int p1), .val (.int p2), .unset, .unset, .unset, .unset, .unset, .unset, .unset] [(.ref b1), (.ref b1)]))
  refine own_st (fun _ kS => XS.bipush X19.here hx rfl (hb hby at_63) kS) ?_
  show own_G p.tables e below _ (T19.setTop (mkF m 65 #[.val (.int p1), .val (.int p2), .unset, .unset, .unset, .unset, .unset, .unset, .unset] [(.int (9 : Int32)), (.ref b1), (.ref b1)]))
  obtain ⟨T20, X20, e20, st20⟩ := getS2 X19 hx hZ hown (host := "") (Or.inl (hw _ (List.mem_of_getElem? (i := 22) rfl))) Via.refl e19 (Sta.ext O19.2 S_SYNC_GROUP) (g := (mkF m 65 #[.val (.int p1), .val (.int p2), .unset, .unset, .unset, .unset, .unset, .unset, .unset] [(.int (9 : Int32)), (.ref b1), (.ref b1)])) rfl (hb hby at_65)
  refine own_st st20 ?_
  show own_G p.tables e below _ (T20.setTop (mkF m 68 #[.val (.int p1), .val (.int p2), .unset, .unset, .unset, .unset, .unset, .unset, .unset] [(.ref w_SYNC_GROUP), (.int (9 : Int32)), (.ref b1), (.ref b1)]))
  obtain ⟨cl21, Ar21, qa21, qs21, qn21, qh21, qg21⟩ := id R19
  obtain ⟨T21, h21, X21, e21, W21, st21⟩ := stR X20 hx hZ e20 Ar21 (j := (9 : Int32)) (inb_of qs21 ⟨by decide, by decide⟩) rfl (Sto.ofV Ar21 qa21 V1 (Ins.self (Exa.ext O19.2 E_SYNC_GROUP))) (g := (mkF m 68 #[.val (.int p1), .val (.int p2), .unset, .unset, .unset, .unset, .unset, .unset, .unset] [(.ref w_SYNC_GROUP), (.int (9 : Int32)), (.ref b1), (.ref b1)])) rfl rfl (hb hby at_68)
  have N21 := Fr.snoc X21 N19 ge_b1
  have O21 := O19.wr W21 ge_b1
  have R21 : Arv Z h21 b1 k1 (.object "com/example/loose_grip/loosegrip/wire/ApiKey") (13 : Int32) [(.ref w_FETCH), (.ref w_LIST_OFFSETS), (.ref w_METADATA), (.ref w_OFFSET_COMMIT), (.ref w_OFFSET_FETCH), (.ref w_FIND_COORDINATOR), (.ref w_JOIN_GROUP), (.ref w_HEARTBEAT), (.ref w_LEAVE_GROUP), (.ref w_SYNC_GROUP), .null, .null, .null] .null := Arv.set Ar21 qa21 qs21 qn21 qh21 qg21 rfl W21 9 rfl (Nat.le_of_ble_eq_true rfl)
  refine own_st st21 ?_
  show own_G p.tables e below _ (T21.setTop (mkF m 69 #[.val (.int p1), .val (.int p2), .unset, .unset, .unset, .unset, .unset, .unset, .unset] [(.ref b1)]))
  refine own_st (fun _ kS => XS.dup X21.here hx rfl (hb hby at_69) rfl rfl kS) ?_
  show own_G p.tables e below _ (T21.setTop (mkF m 70 #[.val (.int p1), .val (.int p2), .unset, .unset, .unset, .unset, .unset, .unset, .unset] [(.ref b1), (.ref b1)]))
  refine own_st (fun _ kS => XS.bipush X21.here hx rfl (hb hby at_70) kS) ?_
  show own_G p.tables e below _ (T21.setTop (mkF m 72 #[.val (.int p1), .val (.int p2), .unset, .unset, .unset, .unset, .unset, .unset, .unset] [(.int (10 : Int32)), (.ref b1), (.ref b1)]))
  obtain ⟨T22, X22, e22, st22⟩ := getS2 X21 hx hZ hown (host := "") (Or.inl (hw _ (List.mem_of_getElem? (i := 24) rfl))) Via.refl e21 (Sta.ext O21.2 S_DESCRIBE_GROUPS) (g := (mkF m 72 #[.val (.int p1), .val (.int p2), .unset, .unset, .unset, .unset, .unset, .unset, .unset] [(.int (10 : Int32)), (.ref b1), (.ref b1)])) rfl (hb hby at_72)
  refine own_st st22 ?_
  show own_G p.tables e below _ (T22.setTop (mkF m 75 #[.val (.int p1), .val (.int p2), .unset, .unset, .unset, .unset, .unset, .unset, .unset] [(.ref w_DESCRIBE_GROUPS), (.int (10 : Int32)), (.ref b1), (.ref b1)]))
  obtain ⟨cl23, Ar23, qa23, qs23, qn23, qh23, qg23⟩ := id R21
  obtain ⟨T23, h23, X23, e23, W23, st23⟩ := stR X22 hx hZ e22 Ar23 (j := (10 : Int32)) (inb_of qs23 ⟨by decide, by decide⟩) rfl (Sto.ofV Ar23 qa23 V1 (Ins.self (Exa.ext O21.2 E_DESCRIBE_GROUPS))) (g := (mkF m 75 #[.val (.int p1), .val (.int p2), .unset, .unset, .unset, .unset, .unset, .unset, .unset] [(.ref w_DESCRIBE_GROUPS), (.int (10 : Int32)), (.ref b1), (.ref b1)])) rfl rfl (hb hby at_75)
  have N23 := Fr.snoc X23 N21 ge_b1
  have O23 := O21.wr W23 ge_b1
  have R23 : Arv Z h23 b1 k1 (.object "com/example/loose_grip/loosegrip/wire/ApiKey") (13 : Int32) [(.ref w_FETCH), (.ref w_LIST_OFFSETS), (.ref w_METADATA), (.ref w_OFFSET_COMMIT), (.ref w_OFFSET_FETCH), (.ref w_FIND_COORDINATOR), (.ref w_JOIN_GROUP), (.ref w_HEARTBEAT), (.ref w_LEAVE_GROUP), (.ref w_SYNC_GROUP), (.ref w_DESCRIBE_GROUPS), .null, .null] .null := Arv.set Ar23 qa23 qs23 qn23 qh23 qg23 rfl W23 10 rfl (Nat.le_of_ble_eq_true rfl)
  refine own_st st23 ?_
  show own_G p.tables e below _ (T23.setTop (mkF m 76 #[.val (.int p1), .val (.int p2), .unset, .unset, .unset, .unset, .unset, .unset, .unset] [(.ref b1)]))
  refine own_st (fun _ kS => XS.dup X23.here hx rfl (hb hby at_76) rfl rfl kS) ?_
  show own_G p.tables e below _ (T23.setTop (mkF m 77 #[.val (.int p1), .val (.int p2), .unset, .unset, .unset, .unset, .unset, .unset, .unset] [(.ref b1), (.ref b1)]))
  refine own_st (fun _ kS => XS.bipush X23.here hx rfl (hb hby at_77) kS) ?_
  show own_G p.tables e below _ (T23.setTop (mkF m 79 #[.val (.int p1), .val (.int p2), .unset, .unset, .unset, .unset, .unset, .unset, .unset] [(.int (11 : Int32)), (.ref b1), (.ref b1)]))
  obtain ⟨T24, X24, e24, st24⟩ := getS2 X23 hx hZ hown (host := "") (Or.inl (hw _ (List.mem_of_getElem? (i := 26) rfl))) Via.refl e23 (Sta.ext O23.2 S_LIST_GROUPS) (g := (mkF m 79 #[.val (.int p1), .val (.int p2), .unset, .unset, .unset, .unset, .unset, .unset, .unset] [(.int (11 : Int32)), (.ref b1), (.ref b1)])) rfl (hb hby at_79)
  refine own_st st24 ?_
  show own_G p.tables e below _ (T24.setTop (mkF m 82 #[.val (.int p1), .val (.int p2), .unset, .unset, .unset, .unset, .unset, .unset, .unset] [(.ref w_LIST_GROUPS), (.int (11 : Int32)), (.ref b1), (.ref b1)]))
  obtain ⟨cl25, Ar25, qa25, qs25, qn25, qh25, qg25⟩ := id R23
  obtain ⟨T25, h25, X25, e25, W25, st25⟩ := stR X24 hx hZ e24 Ar25 (j := (11 : Int32)) (inb_of qs25 ⟨by decide, by decide⟩) rfl (Sto.ofV Ar25 qa25 V1 (Ins.self (Exa.ext O23.2 E_LIST_GROUPS))) (g := (mkF m 82 #[.val (.int p1), .val (.int p2), .unset, .unset, .unset, .unset, .unset, .unset, .unset] [(.ref w_LIST_GROUPS), (.int (11 : Int32)), (.ref b1), (.ref b1)])) rfl rfl (hb hby at_82)
  have N25 := Fr.snoc X25 N23 ge_b1
  have O25 := O23.wr W25 ge_b1
  have R25 : Arv Z h25 b1 k1 (.object "com/example/loose_grip/loosegrip/wire/ApiKey") (13 : Int32) [(.ref w_FETCH), (.ref w_LIST_OFFSETS), (.ref w_METADATA), (.ref w_OFFSET_COMMIT), (.ref w_OFFSET_FETCH), (.ref w_FIND_COORDINATOR), (.ref w_JOIN_GROUP), (.ref w_HEARTBEAT), (.ref w_LEAVE_GROUP), (.ref w_SYNC_GROUP), (.ref w_DESCRIBE_GROUPS), (.ref w_LIST_GROUPS), .null] .null := Arv.set Ar25 qa25 qs25 qn25 qh25 qg25 rfl W25 11 rfl (Nat.le_of_ble_eq_true rfl)
  refine own_st st25 ?_
  show own_G p.tables e below _ (T25.setTop (mkF m 83 #[.val (.int p1), .val (.int p2), .unset, .unset, .unset, .unset, .unset, .unset, .unset] [(.ref b1)]))
  refine own_st (fun _ kS => XS.dup X25.here hx rfl (hb hby at_83) rfl rfl kS) ?_
  show own_G p.tables e below _ (T25.setTop (mkF m 84 #[.val (.int p1), .val (.int p2), .unset, .unset, .unset, .unset, .unset, .unset, .unset] [(.ref b1), (.ref b1)]))
  refine own_st (fun _ kS => XS.bipush X25.here hx rfl (hb hby at_84) kS) ?_
  show own_G p.tables e below _ (T25.setTop (mkF m 86 #[.val (.int p1), .val (.int p2), .unset, .unset, .unset, .unset, .unset, .unset, .unset] [(.int (12 : Int32)), (.ref b1), (.ref b1)]))
  obtain ⟨T26, X26, e26, st26⟩ := getS2 X25 hx hZ hown (host := "") (Or.inl (hw _ (List.mem_of_getElem? (i := 28) rfl))) Via.refl e25 (Sta.ext O25.2 S_API_VERSIONS) (g := (mkF m 86 #[.val (.int p1), .val (.int p2), .unset, .unset, .unset, .unset, .unset, .unset, .unset] [(.int (12 : Int32)), (.ref b1), (.ref b1)])) rfl (hb hby at_86)
  refine own_st st26 ?_
  show own_G p.tables e below _ (T26.setTop (mkF m 89 #[.val (.int p1), .val (.int p2), .unset, .unset, .unset, .unset, .unset, .unset, .unset] [(.ref w_API_VERSIONS), (.int (12 : Int32)), (.ref b1), (.ref b1)]))
  obtain ⟨cl27, Ar27, qa27, qs27, qn27, qh27, qg27⟩ := id R25
  obtain ⟨T27, h27, X27, e27, W27, st27⟩ := stR X26 hx hZ e26 Ar27 (j := (12 : Int32)) (inb_of qs27 ⟨by decide, by decide⟩) rfl (Sto.ofV Ar27 qa27 V1 (Ins.self (Exa.ext O25.2 E_API_VERSIONS))) (g := (mkF m 89 #[.val (.int p1), .val (.int p2), .unset, .unset, .unset, .unset, .unset, .unset, .unset] [(.ref w_API_VERSIONS), (.int (12 : Int32)), (.ref b1), (.ref b1)])) rfl rfl (hb hby at_89)
  have N27 := Fr.snoc X27 N25 ge_b1
  have O27 := O25.wr W27 ge_b1
  have R27 : Arv Z h27 b1 k1 (.object "com/example/loose_grip/loosegrip/wire/ApiKey") (13 : Int32) [(.ref w_FETCH), (.ref w_LIST_OFFSETS), (.ref w_METADATA), (.ref w_OFFSET_COMMIT), (.ref w_OFFSET_FETCH), (.ref w_FIND_COORDINATOR), (.ref w_JOIN_GROUP), (.ref w_HEARTBEAT), (.ref w_LEAVE_GROUP), (.ref w_SYNC_GROUP), (.ref w_DESCRIBE_GROUPS), (.ref w_LIST_GROUPS), (.ref w_API_VERSIONS)] .null := Arv.set Ar27 qa27 qs27 qn27 qh27 qg27 rfl W27 12 rfl (Nat.le_of_ble_eq_true rfl)
  refine own_st st27 ?_
  show own_G p.tables e below _ (T27.setTop (mkF m 90 #[.val (.int p1), .val (.int p2), .unset, .unset, .unset, .unset, .unset, .unset, .unset] [(.ref b1)]))
  refine own_st (fun _ kS => XS.astoreN X27.here hx rfl (hb hby at_90) rfl rfl (l' := #[.val (.int p1), .val (.int p2), .val (.ref b1), .unset, .unset, .unset, .unset, .unset, .unset]) rfl kS) ?_
  show own_G p.tables e below _ (T27.setTop (mkF m 91 #[.val (.int p1), .val (.int p2), .val (.ref b1), .unset, .unset, .unset, .unset, .unset, .unset] []))
  exact sg_A hx hby hml hown hlk hret hZ hw (Nat.le_trans (Nat.le_trans (Nat.le_trans (Nat.le_trans (Nat.le_trans (Nat.le_trans (Nat.le_trans (Nat.le_trans (Nat.le_trans (Nat.le_trans (Nat.le_trans (Nat.le_trans (Nat.le_trans (Nat.le_trans Z0 E1.1) (Keep.of_wr W3).1) (Keep.of_wr W5).1) (Keep.of_wr W7).1) (Keep.of_wr W9).1) (Keep.of_wr W11).1) (Keep.of_wr W13).1) (Keep.of_wr W15).1) (Keep.of_wr W17).1) (Keep.of_wr W19).1) (Keep.of_wr W21).1) (Keep.of_wr W23).1) (Keep.of_wr W25).1) (Keep.of_wr W27).1)  X27 e27 N27 O27 p1 p2 w_FETCH w_LIST_OFFSETS w_METADATA w_OFFSET_COMMIT w_OFFSET_FETCH w_FIND_COORDINATOR w_JOIN_GROUP w_HEARTBEAT w_LEAVE_GROUP w_SYNC_GROUP w_DESCRIBE_GROUPS w_LIST_GROUPS w_API_VERSIONS b1 k1 S_FETCH S_LIST_OFFSETS S_METADATA S_OFFSET_COMMIT S_OFFSET_FETCH S_FIND_COORDINATOR S_JOIN_GROUP S_HEARTBEAT S_LEAVE_GROUP S_SYNC_GROUP S_DESCRIBE_GROUPS S_LIST_GROUPS S_API_VERSIONS E_FETCH E_LIST_OFFSETS E_METADATA E_OFFSET_COMMIT E_OFFSET_FETCH E_FIND_COORDINATOR E_JOIN_GROUP E_HEARTBEAT E_LEAVE_GROUP E_SYNC_GROUP E_DESCRIBE_GROUPS E_LIST_GROUPS E_API_VERSIONS F_FETCH_minVersion F_FETCH_maxVersion F_LIST_OFFSETS_minVersion F_LIST_OFFSETS_maxVersion F_METADATA_minVersion F_METADATA_maxVersion F_OFFSET_COMMIT_minVersion F_OFFSET_COMMIT_maxVersion F_OFFSET_FETCH_minVersion F_OFFSET_FETCH_maxVersion F_FIND_COORDINATOR_minVersion F_FIND_COORDINATOR_maxVersion F_JOIN_GROUP_minVersion F_JOIN_GROUP_maxVersion F_HEARTBEAT_minVersion F_HEARTBEAT_maxVersion F_LEAVE_GROUP_minVersion F_LEAVE_GROUP_maxVersion F_SYNC_GROUP_minVersion F_SYNC_GROUP_maxVersion F_DESCRIBE_GROUPS_minVersion F_DESCRIBE_GROUPS_maxVersion F_LIST_GROUPS_minVersion F_LIST_GROUPS_maxVersion F_API_VERSIONS_minVersion F_API_VERSIONS_maxVersion R27
set_option maxRecDepth 65536 in
set_option maxHeartbeats 40000000 in
theorem comes_1 {Post : Tables → Env → Array Value → State → Outcome → State → Prop} (hpost : ∀ tb e args s v u, (limb_1_1.after args s (.returned v) u = true ∧ limb_1_2.after args s (.returned v) u = true ∧ True) → FrameEnd s (.returned v) u (Jvm.fieldLocs frame_1_writes args s ++ Jvm.arrayLocs frame_1_arrays args s ++ Jvm.staticLocs frame_1_statics s) 16 192 → Post tb e args s (.returned v) u) :
    ArmFor flags0 classFile x code maxLocals ret World_1 tables_1 room_1 Calls_1 rest_1 Pre_1 Post := by
  intro l hfl _ _ p e ha hc hk s m args below hf hA hF happ hP
  obtain ⟨hcalls, hrest, hpre⟩ := hP
  obtain ⟨-, -, -, hnamed, -, -, -, hat⟩ := (Spec.applies_iff hf).mp happ
  obtain ⟨hg, hn⟩ := and_e (Cond.before_iff.mp (show (Jvm.Cond.and given_1 narrow_1).before args s = true from hpre))
  obtain ⟨g1a, g1b⟩ := and_e hg
  obtain ⟨g2a, g2b⟩ := and_e g1b
  obtain ⟨w0, w1, rfl⟩ : ∃ w0 w1 : Value, args = #[w0, w1] := by
    have hs : args.size = 2 := by simpa [Cond.value, given_1] using g1a
    obtain ⟨L⟩ := args
    match L, hs with
    | [w0, w1], _ => exact ⟨w0, w1, rfl⟩
  have hw := fun d (hd : d ∈ tables_1) => atoms_spec (ws := Jvm.Cond.code x code maxLocals ret :: tables_1) hat d (List.mem_cons_of_mem _ hd)
  have hfit : Fit s := fun {y c} hc i hi => by
    obtain ⟨ha, rfl⟩ := Array.getElem?_eq_some_iff.mp hc
    have q := List.all_eq_true.mp ((Array.all_eq_true_iff_forall_mem.mp hF) _ (Array.getElem_mem ha)) i (List.mem_range.mpr hi)
    simpa [Array.getElem?_eq_getElem hi] using q
  obtain ⟨i0, ei0⟩ := is_v g2a
  obtain rfl : w0 = (.int i0) := Option.some.inj ei0
  obtain ⟨i1, ei1⟩ := is_v g2b
  obtain rfl : w1 = (.int i1) := Option.some.inj ei1
  obtain ⟨g3a, g3b⟩ := and_e hn
  obtain ⟨g4a, g4b⟩ := and_e g3b
  obtain ⟨g5a, g5b⟩ := and_e g4b
  obtain ⟨g6a, g6b⟩ := and_e g5b
  obtain ⟨g7a, g7b⟩ := and_e g6b
  obtain ⟨g8a, g8b⟩ := and_e g7b
  obtain ⟨g9a, g9b⟩ := and_e g8b
  obtain ⟨g10a, g10b⟩ := and_e g9b
  obtain ⟨g11a, g11b⟩ := and_e g10b
  obtain ⟨g12a, g12b⟩ := and_e g11b
  obtain ⟨g13a, g13b⟩ := and_e g12b
  obtain ⟨g14a, g14b⟩ := and_e g13b
  obtain ⟨g15a, g15b⟩ := and_e g14b
  obtain ⟨g16a, g16b⟩ := and_e g15b
  obtain ⟨g17a, g17b⟩ := and_e g16b
  obtain ⟨g18a, g18b⟩ := and_e g17b
  obtain ⟨g19a, g19b⟩ := and_e g18b
  obtain ⟨g20a, g20b⟩ := and_e g19b
  obtain ⟨g21a, g21b⟩ := and_e g20b
  obtain ⟨g22a, g22b⟩ := and_e g21b
  obtain ⟨g23a, g23b⟩ := and_e g22b
  obtain ⟨g24a, g24b⟩ := and_e g23b
  obtain ⟨g25a, g25b⟩ := and_e g24b
  obtain ⟨g26a, g26b⟩ := and_e g25b
  obtain ⟨g27a, g27b⟩ := and_e g26b
  obtain ⟨g28a, g28b⟩ := and_e g27b
  obtain ⟨g29a, g29b⟩ := and_e g28b
  obtain ⟨g30a, g30b⟩ := and_e g29b
  obtain ⟨g31a, g31b⟩ := and_e g30b
  obtain ⟨g32a, g32b⟩ := and_e g31b
  obtain ⟨g33a, g33b⟩ := and_e g32b
  obtain ⟨g34a, g34b⟩ := and_e g33b
  obtain ⟨g35a, g35b⟩ := and_e g34b
  obtain ⟨g36a, g36b⟩ := and_e g35b
  obtain ⟨g37a, g37b⟩ := and_e g36b
  obtain ⟨g38a, g38b⟩ := and_e g37b
  obtain ⟨g39a, g39b⟩ := and_e g38b
  obtain ⟨g40a, g40b⟩ := and_e g39b
  obtain ⟨w_FETCH, v_FETCH⟩ := exa_v g3a
  have E_FETCH := Exa.start v_FETCH g3a
  have S_FETCH := Sta.start v_FETCH (Or.inr ⟨(hw _ (List.mem_of_getElem? (i := 3) rfl)), (hw _ (List.mem_of_getElem? (i := 4) rfl))⟩)
  obtain ⟨w_LIST_OFFSETS, v_LIST_OFFSETS⟩ := exa_v g4a
  have E_LIST_OFFSETS := Exa.start v_LIST_OFFSETS g4a
  have S_LIST_OFFSETS := Sta.start v_LIST_OFFSETS (Or.inr ⟨(hw _ (List.mem_of_getElem? (i := 3) rfl)), (hw _ (List.mem_of_getElem? (i := 7) rfl))⟩)
  obtain ⟨w_METADATA, v_METADATA⟩ := exa_v g5a
  have E_METADATA := Exa.start v_METADATA g5a
  have S_METADATA := Sta.start v_METADATA (Or.inr ⟨(hw _ (List.mem_of_getElem? (i := 3) rfl)), (hw _ (List.mem_of_getElem? (i := 9) rfl))⟩)
  obtain ⟨w_OFFSET_COMMIT, v_OFFSET_COMMIT⟩ := exa_v g6a
  have E_OFFSET_COMMIT := Exa.start v_OFFSET_COMMIT g6a
  have S_OFFSET_COMMIT := Sta.start v_OFFSET_COMMIT (Or.inr ⟨(hw _ (List.mem_of_getElem? (i := 3) rfl)), (hw _ (List.mem_of_getElem? (i := 11) rfl))⟩)
  obtain ⟨w_OFFSET_FETCH, v_OFFSET_FETCH⟩ := exa_v g7a
  have E_OFFSET_FETCH := Exa.start v_OFFSET_FETCH g7a
  have S_OFFSET_FETCH := Sta.start v_OFFSET_FETCH (Or.inr ⟨(hw _ (List.mem_of_getElem? (i := 3) rfl)), (hw _ (List.mem_of_getElem? (i := 13) rfl))⟩)
  obtain ⟨w_FIND_COORDINATOR, v_FIND_COORDINATOR⟩ := exa_v g8a
  have E_FIND_COORDINATOR := Exa.start v_FIND_COORDINATOR g8a
  have S_FIND_COORDINATOR := Sta.start v_FIND_COORDINATOR (Or.inr ⟨(hw _ (List.mem_of_getElem? (i := 3) rfl)), (hw _ (List.mem_of_getElem? (i := 15) rfl))⟩)
  obtain ⟨w_JOIN_GROUP, v_JOIN_GROUP⟩ := exa_v g9a
  have E_JOIN_GROUP := Exa.start v_JOIN_GROUP g9a
  have S_JOIN_GROUP := Sta.start v_JOIN_GROUP (Or.inr ⟨(hw _ (List.mem_of_getElem? (i := 3) rfl)), (hw _ (List.mem_of_getElem? (i := 17) rfl))⟩)
  obtain ⟨w_HEARTBEAT, v_HEARTBEAT⟩ := exa_v g10a
  have E_HEARTBEAT := Exa.start v_HEARTBEAT g10a
  have S_HEARTBEAT := Sta.start v_HEARTBEAT (Or.inr ⟨(hw _ (List.mem_of_getElem? (i := 3) rfl)), (hw _ (List.mem_of_getElem? (i := 19) rfl))⟩)
  obtain ⟨w_LEAVE_GROUP, v_LEAVE_GROUP⟩ := exa_v g11a
  have E_LEAVE_GROUP := Exa.start v_LEAVE_GROUP g11a
  have S_LEAVE_GROUP := Sta.start v_LEAVE_GROUP (Or.inr ⟨(hw _ (List.mem_of_getElem? (i := 3) rfl)), (hw _ (List.mem_of_getElem? (i := 21) rfl))⟩)
  obtain ⟨w_SYNC_GROUP, v_SYNC_GROUP⟩ := exa_v g12a
  have E_SYNC_GROUP := Exa.start v_SYNC_GROUP g12a
  have S_SYNC_GROUP := Sta.start v_SYNC_GROUP (Or.inr ⟨(hw _ (List.mem_of_getElem? (i := 3) rfl)), (hw _ (List.mem_of_getElem? (i := 23) rfl))⟩)
  obtain ⟨w_DESCRIBE_GROUPS, v_DESCRIBE_GROUPS⟩ := exa_v g13a
  have E_DESCRIBE_GROUPS := Exa.start v_DESCRIBE_GROUPS g13a
  have S_DESCRIBE_GROUPS := Sta.start v_DESCRIBE_GROUPS (Or.inr ⟨(hw _ (List.mem_of_getElem? (i := 3) rfl)), (hw _ (List.mem_of_getElem? (i := 25) rfl))⟩)
  obtain ⟨w_LIST_GROUPS, v_LIST_GROUPS⟩ := exa_v g14a
  have E_LIST_GROUPS := Exa.start v_LIST_GROUPS g14a
  have S_LIST_GROUPS := Sta.start v_LIST_GROUPS (Or.inr ⟨(hw _ (List.mem_of_getElem? (i := 3) rfl)), (hw _ (List.mem_of_getElem? (i := 27) rfl))⟩)
  obtain ⟨w_API_VERSIONS, v_API_VERSIONS⟩ := exa_v g15a
  have E_API_VERSIONS := Exa.start v_API_VERSIONS g15a
  have S_API_VERSIONS := Sta.start v_API_VERSIONS (Or.inr ⟨(hw _ (List.mem_of_getElem? (i := 3) rfl)), (hw _ (List.mem_of_getElem? (i := 29) rfl))⟩)
  have F_FETCH_minVersion : Fld s s.heap w_FETCH "com/example/loose_grip/loosegrip/wire/ApiKey" "minVersion" "S" (.int (0 : Int32)) := Fld.start ((fld_at v_FETCH).symm.trans (eqv_i (Term.int_eval (0)) g16a))
  have F_FETCH_maxVersion : Fld s s.heap w_FETCH "com/example/loose_grip/loosegrip/wire/ApiKey" "maxVersion" "S" (.int (11 : Int32)) := Fld.start ((fld_at v_FETCH).symm.trans (eqv_i (Term.int_eval (11)) g17a))
  have F_LIST_OFFSETS_minVersion : Fld s s.heap w_LIST_OFFSETS "com/example/loose_grip/loosegrip/wire/ApiKey" "minVersion" "S" (.int (0 : Int32)) := Fld.start ((fld_at v_LIST_OFFSETS).symm.trans (eqv_i (Term.int_eval (0)) g18a))
  have F_LIST_OFFSETS_maxVersion : Fld s s.heap w_LIST_OFFSETS "com/example/loose_grip/loosegrip/wire/ApiKey" "maxVersion" "S" (.int (5 : Int32)) := Fld.start ((fld_at v_LIST_OFFSETS).symm.trans (eqv_i (Term.int_eval (5)) g19a))
  have F_OFFSET_FETCH_minVersion : Fld s s.heap w_OFFSET_FETCH "com/example/loose_grip/loosegrip/wire/ApiKey" "minVersion" "S" (.int (1 : Int32)) := Fld.start ((fld_at v_OFFSET_FETCH).symm.trans (eqv_i (Term.int_eval (1)) g20a))
  have F_OFFSET_FETCH_maxVersion : Fld s s.heap w_OFFSET_FETCH "com/example/loose_grip/loosegrip/wire/ApiKey" "maxVersion" "S" (.int (5 : Int32)) := Fld.start ((fld_at v_OFFSET_FETCH).symm.trans (eqv_i (Term.int_eval (5)) g21a))
  have F_OFFSET_COMMIT_minVersion : Fld s s.heap w_OFFSET_COMMIT "com/example/loose_grip/loosegrip/wire/ApiKey" "minVersion" "S" (.int (2 : Int32)) := Fld.start ((fld_at v_OFFSET_COMMIT).symm.trans (eqv_i (Term.int_eval (2)) g22a))
  have F_SYNC_GROUP_minVersion : Fld s s.heap w_SYNC_GROUP "com/example/loose_grip/loosegrip/wire/ApiKey" "minVersion" "S" (.int (0 : Int32)) := Fld.start ((fld_at v_SYNC_GROUP).symm.trans (eqv_i (Term.int_eval (0)) g23a))
  have F_SYNC_GROUP_maxVersion : Fld s s.heap w_SYNC_GROUP "com/example/loose_grip/loosegrip/wire/ApiKey" "maxVersion" "S" (.int (3 : Int32)) := Fld.start ((fld_at v_SYNC_GROUP).symm.trans (eqv_i (Term.int_eval (3)) g24a))
  have F_FIND_COORDINATOR_minVersion : Fld s s.heap w_FIND_COORDINATOR "com/example/loose_grip/loosegrip/wire/ApiKey" "minVersion" "S" (.int (0 : Int32)) := Fld.start ((fld_at v_FIND_COORDINATOR).symm.trans (eqv_i (Term.int_eval (0)) g25a))
  have F_FIND_COORDINATOR_maxVersion : Fld s s.heap w_FIND_COORDINATOR "com/example/loose_grip/loosegrip/wire/ApiKey" "maxVersion" "S" (.int (2 : Int32)) := Fld.start ((fld_at v_FIND_COORDINATOR).symm.trans (eqv_i (Term.int_eval (2)) g26a))
  have F_JOIN_GROUP_minVersion : Fld s s.heap w_JOIN_GROUP "com/example/loose_grip/loosegrip/wire/ApiKey" "minVersion" "S" (.int (0 : Int32)) := Fld.start ((fld_at v_JOIN_GROUP).symm.trans (eqv_i (Term.int_eval (0)) g27a))
  have F_JOIN_GROUP_maxVersion : Fld s s.heap w_JOIN_GROUP "com/example/loose_grip/loosegrip/wire/ApiKey" "maxVersion" "S" (.int (5 : Int32)) := Fld.start ((fld_at v_JOIN_GROUP).symm.trans (eqv_i (Term.int_eval (5)) g28a))
  have F_LEAVE_GROUP_minVersion : Fld s s.heap w_LEAVE_GROUP "com/example/loose_grip/loosegrip/wire/ApiKey" "minVersion" "S" (.int (0 : Int32)) := Fld.start ((fld_at v_LEAVE_GROUP).symm.trans (eqv_i (Term.int_eval (0)) g29a))
  have F_API_VERSIONS_minVersion : Fld s s.heap w_API_VERSIONS "com/example/loose_grip/loosegrip/wire/ApiKey" "minVersion" "S" (.int (0 : Int32)) := Fld.start ((fld_at v_API_VERSIONS).symm.trans (eqv_i (Term.int_eval (0)) g30a))
  have F_API_VERSIONS_maxVersion : Fld s s.heap w_API_VERSIONS "com/example/loose_grip/loosegrip/wire/ApiKey" "maxVersion" "S" (.int (2 : Int32)) := Fld.start ((fld_at v_API_VERSIONS).symm.trans (eqv_i (Term.int_eval (2)) g31a))
  have F_METADATA_minVersion : Fld s s.heap w_METADATA "com/example/loose_grip/loosegrip/wire/ApiKey" "minVersion" "S" (.int (0 : Int32)) := Fld.start ((fld_at v_METADATA).symm.trans (eqv_i (Term.int_eval (0)) g32a))
  have F_METADATA_maxVersion : Fld s s.heap w_METADATA "com/example/loose_grip/loosegrip/wire/ApiKey" "maxVersion" "S" (.int (4 : Int32)) := Fld.start ((fld_at v_METADATA).symm.trans (eqv_i (Term.int_eval (4)) g33a))
  have F_LEAVE_GROUP_maxVersion : Fld s s.heap w_LEAVE_GROUP "com/example/loose_grip/loosegrip/wire/ApiKey" "maxVersion" "S" (.int (3 : Int32)) := Fld.start ((fld_at v_LEAVE_GROUP).symm.trans (eqv_i (Term.int_eval (3)) g34a))
  have F_DESCRIBE_GROUPS_minVersion : Fld s s.heap w_DESCRIBE_GROUPS "com/example/loose_grip/loosegrip/wire/ApiKey" "minVersion" "S" (.int (0 : Int32)) := Fld.start ((fld_at v_DESCRIBE_GROUPS).symm.trans (eqv_i (Term.int_eval (0)) g35a))
  have F_LIST_GROUPS_minVersion : Fld s s.heap w_LIST_GROUPS "com/example/loose_grip/loosegrip/wire/ApiKey" "minVersion" "S" (.int (0 : Int32)) := Fld.start ((fld_at v_LIST_GROUPS).symm.trans (eqv_i (Term.int_eval (0)) g36a))
  have F_LIST_GROUPS_maxVersion : Fld s s.heap w_LIST_GROUPS "com/example/loose_grip/loosegrip/wire/ApiKey" "maxVersion" "S" (.int (2 : Int32)) := Fld.start ((fld_at v_LIST_GROUPS).symm.trans (eqv_i (Term.int_eval (2)) g37a))
  have F_OFFSET_COMMIT_maxVersion : Fld s s.heap w_OFFSET_COMMIT "com/example/loose_grip/loosegrip/wire/ApiKey" "maxVersion" "S" (.int (7 : Int32)) := Fld.start ((fld_at v_OFFSET_COMMIT).symm.trans (eqv_i (Term.int_eval (7)) g38a))
  have F_DESCRIBE_GROUPS_maxVersion : Fld s s.heap w_DESCRIBE_GROUPS "com/example/loose_grip/loosegrip/wire/ApiKey" "maxVersion" "S" (.int (4 : Int32)) := Fld.start ((fld_at v_DESCRIBE_GROUPS).symm.trans (eqv_i (Term.int_eval (4)) g39a))
  have F_HEARTBEAT_minVersion : Fld s s.heap w_HEARTBEAT "com/example/loose_grip/loosegrip/wire/ApiKey" "minVersion" "S" (.int (0 : Int32)) := Fld.start ((fld_at v_HEARTBEAT).symm.trans (eqv_i (Term.int_eval (0)) g40a))
  have F_HEARTBEAT_maxVersion : Fld s s.heap w_HEARTBEAT "com/example/loose_grip/loosegrip/wire/ApiKey" "maxVersion" "S" (.int (3 : Int32)) := Fld.start ((fld_at v_HEARTBEAT).symm.trans (eqv_i (Term.int_eval (3)) g40b))
  obtain ⟨n, o, h1, h2, h3, _, L, rfl, ⟨rfl, N⟩, hq⟩ := rm_law l s _ hw tables_1 i0 i1 w_FETCH w_LIST_OFFSETS w_METADATA w_OFFSET_COMMIT w_OFFSET_FETCH w_FIND_COORDINATOR w_JOIN_GROUP w_HEARTBEAT w_LEAVE_GROUP w_SYNC_GROUP w_DESCRIBE_GROUPS w_LIST_GROUPS w_API_VERSIONS s.heap s.heap.size (Nat.le_refl _) (Old.start s) S_FETCH S_LIST_OFFSETS S_METADATA S_OFFSET_COMMIT S_OFFSET_FETCH S_FIND_COORDINATOR S_JOIN_GROUP S_HEARTBEAT S_LEAVE_GROUP S_SYNC_GROUP S_DESCRIBE_GROUPS S_LIST_GROUPS S_API_VERSIONS E_FETCH E_LIST_OFFSETS E_METADATA E_OFFSET_COMMIT E_OFFSET_FETCH E_FIND_COORDINATOR E_JOIN_GROUP E_HEARTBEAT E_LEAVE_GROUP E_SYNC_GROUP E_DESCRIBE_GROUPS E_LIST_GROUPS E_API_VERSIONS F_FETCH_minVersion F_FETCH_maxVersion F_LIST_OFFSETS_minVersion F_LIST_OFFSETS_maxVersion F_METADATA_minVersion F_METADATA_maxVersion F_OFFSET_COMMIT_minVersion F_OFFSET_COMMIT_maxVersion F_OFFSET_FETCH_minVersion F_OFFSET_FETCH_maxVersion F_FIND_COORDINATOR_minVersion F_FIND_COORDINATOR_maxVersion F_JOIN_GROUP_minVersion F_JOIN_GROUP_maxVersion F_HEARTBEAT_minVersion F_HEARTBEAT_maxVersion F_LEAVE_GROUP_minVersion F_LEAVE_GROUP_maxVersion F_SYNC_GROUP_minVersion F_SYNC_GROUP_maxVersion F_DESCRIBE_GROUPS_minVersion F_DESCRIBE_GROUPS_maxVersion F_LIST_GROUPS_minVersion F_LIST_GROUPS_maxVersion F_API_VERSIONS_minVersion F_API_VERSIONS_maxVersion p e ha hc hk s m _ below hf ((Spec.applies_iff_loose hf).mp happ).1 ⟨rfl, State.Warmed39.refl s, rfl⟩ trivial
  refine ⟨n, _, h1, h2, h3, hpost _ _ _ _ _ _ ⟨Cond.after_iff.mpr rfl, Cond.after_iff.mpr (eq_i res_at (Term.int_eval (1)) rfl), trivial⟩ ⟨hq.1, hq.2.1, (hq.2.2.sift fun y hy => Or.inr (N y hy)).mono (by decide) (by decide)⟩⟩
theorem main_1_1 : Claimed_1_1 := comes_1 fun _ _ _ _ _ _ h hF => ⟨h.1, hF⟩
theorem main_1_2 : Claimed_1_2 := comes_1 fun _ _ _ _ _ _ h hF => ⟨h.2.1, hF⟩
end Jvm.Pilot.@@N@@
namespace Jvm.Pilot.@@N@@
open Jvm Jvm.ClassFile Sem Op Lib Jvm.Free Jvm.Stand Jvm.Pilot.@@N@@.Jvm.D
/-! MADE BY PROGRAM (witnessworld.py) out of the Statement's table words and the real class files: 13 classes; the members and pool entries that the words name. The judged class is class 1, her method 1. -/
namespace start1
open Jvm.ClassFile
def u (s : String) : CpInfo := .utf8 (stringToUtf16 s)
/-- a pool by its gaps: so many unusable entries, then the entry; so many at the end -/
def gap : Nat → List CpInfo → List CpInfo
  | 0, r => r
  | n + 1, r => .unusable :: gap n r
def poolList (es : List (Nat × CpInfo)) (last : Nat) : List CpInfo := es.foldr (fun e r => gap e.1 (e.2 :: r)) (gap last [])
def pool (es : List (Nat × CpInfo)) (last : Nat) : Array CpInfo := ⟨poolList es last⟩
def fileOf (pool : Array CpInfo) (this : Nat) (attrs : Array Attribute := #[]) (ms : Array MethodInfo := #[]) (fl : Nat := 33) (sup : Nat := 0) (ifs : Array Nat := #[]) (fds : Array FieldInfo := #[]) : ClassFile where
  minorVersion := 0
  majorVersion := 65
  constantPool := pool
  accessFlags := fl
  thisClass := this
  superClass := sup
  interfaces := ifs
  fields := fds
  methods := ms
  attributes := attrs
def plain (name : String) (sup : Option ClassId) : Class where
  name := name
  kind := .ordinary
  loader := none
  accessFlags := 33
  super := sup
  interfaces := #[]
  cf := none
  fields := #[]
  methods := #[]
  instanceTypes := #[]
  staticTypes := #[]
  resolved := #[]
  callSites := []
  init := .initialized
  statics := none
  mirror := none

def pool0 : Array CpInfo := pool [(5, u "<init>"), (0, u "()V"), (1, .class_ 10), (1, u "java/lang/Object")] 113

def k0m0 : Method := { name := "<init>", desc := "()V", sig := { parameters := [], returnType := none }, accessFlags := 1, code := none }
/-- java/lang/Object -/
def k0 : Class := { plain "java/lang/Object" none with
  accessFlags := 33
  interfaces := #[]
  cf := some (fileOf pool0 8 #[] #[{ accessFlags := 1, nameIndex := 5, descriptorIndex := 6, attributes := #[] }] 33 0 #[] #[])
  fields := #[]
  methods := #[k0m0]
  instanceTypes := #[]
  staticTypes := #[]
  resolved := Array.replicate 124 none
  statics := none }

def pool1 : Array CpInfo := pool [(2, .class_ 4), (1, u "java/lang/Object"), (0, u "<init>"), (0, u "()V"), (0, .class_ 8), (0, u "com/example/loose_grip/loosegrip/wire/ApiKey"), (0, .fieldref 7 10), (0, .nameAndType 11 12), (0, u "FETCH"), (0, u "Lcom/example/loose_grip/loosegrip/wire/ApiKey;"), (0, .fieldref 7 14), (0, .nameAndType 15 12), (0, u "LIST_OFFSETS"), (0, .fieldref 7 17), (0, .nameAndType 18 12), (0, u "METADATA"), (0, .fieldref 7 20), (0, .nameAndType 21 12), (0, u "OFFSET_COMMIT"), (0, .fieldref 7 23), (0, .nameAndType 24 12), (0, u "OFFSET_FETCH"), (0, .fieldref 7 26), (0, .nameAndType 27 12), (0, u "FIND_COORDINATOR"), (0, .fieldref 7 29), (0, .nameAndType 30 12), (0, u "JOIN_GROUP"), (0, .fieldref 7 32), (0, .nameAndType 33 12), (0, u "HEARTBEAT"), (0, .fieldref 7 35), (0, .nameAndType 36 12), (0, u "LEAVE_GROUP"), (0, .fieldref 7 38), (0, .nameAndType 39 12), (0, u "SYNC_GROUP"), (0, .fieldref 7 41), (0, .nameAndType 42 12), (0, u "DESCRIBE_GROUPS"), (0, .fieldref 7 44), (0, .nameAndType 45 12), (0, u "LIST_GROUPS"), (0, .fieldref 7 47), (0, .nameAndType 48 12), (0, u "API_VERSIONS"), (0, .integer 2147483647), (0, .methodref 7 51), (0, .nameAndType 52 53), (0, u "supports"), (0, u "(S)Z"), (0, .class_ 55), (0, u "com/example/loose_grip/loosegrip/wire/ApiKeySupportsPinLaw"), (2, u "law"), (0, u "(II)Z")] 7

def k1m0 : Method := { name := "<init>", desc := "()V", sig := { parameters := [], returnType := none }, accessFlags := 1, code := none }
def k1c1 : Code := { maxStack := 4, maxLocals := 9, code := code, exceptionTable := #[], attributes := #[] }
def k1m1 : Method := { name := "law", desc := "(II)Z", sig := { parameters := [.int, .int], returnType := some .boolean }, accessFlags := 9, code := some k1c1 }
/-- com/example/loose_grip/loosegrip/wire/ApiKeySupportsPinLaw -/
def k1 : Class := { plain "com/example/loose_grip/loosegrip/wire/ApiKeySupportsPinLaw" (some 0) with
  accessFlags := 49
  interfaces := #[]
  cf := some (fileOf pool1 54 #[] #[{ accessFlags := 1, nameIndex := 5, descriptorIndex := 6, attributes := #[] }, { accessFlags := 9, nameIndex := 58, descriptorIndex := 59, attributes := #[] }] 49 2 #[] #[])
  fields := #[]
  methods := #[k1m0, k1m1]
  instanceTypes := #[]
  staticTypes := #[]
  resolved := Array.replicate 67 none
  statics := none }

def pool2 : Array CpInfo := pool [(1, .class_ 2), (0, u "java/lang/constant/Constable"), (0, .class_ 4), (0, u "java/lang/Object")] 6

/-- java/lang/constant/Constable -/
def k2 : Class := { plain "java/lang/constant/Constable" (some 0) with
  accessFlags := 1537
  interfaces := #[]
  cf := some (fileOf pool2 1 #[] #[] 1537 3 #[] #[])
  fields := #[]
  methods := #[]
  instanceTypes := #[]
  staticTypes := #[]
  resolved := Array.replicate 11 none
  statics := none }

def pool3 : Array CpInfo := pool [(1, .class_ 2), (0, u "java/lang/Comparable"), (0, .class_ 4), (0, u "java/lang/Object")] 7

/-- java/lang/Comparable -/
def k3 : Class := { plain "java/lang/Comparable" (some 0) with
  accessFlags := 1537
  interfaces := #[]
  cf := some (fileOf pool3 1 #[] #[] 1537 3 #[] #[])
  fields := #[]
  methods := #[]
  instanceTypes := #[]
  staticTypes := #[]
  resolved := Array.replicate 12 none
  statics := none }

def pool4 : Array CpInfo := pool [(1, .class_ 2), (0, u "java/io/Serializable"), (0, .class_ 4), (0, u "java/lang/Object")] 2

/-- java/io/Serializable -/
def k4 : Class := { plain "java/io/Serializable" (some 0) with
  accessFlags := 1537
  interfaces := #[]
  cf := some (fileOf pool4 1 #[] #[] 1537 3 #[] #[])
  fields := #[]
  methods := #[]
  instanceTypes := #[]
  staticTypes := #[]
  resolved := Array.replicate 7 none
  statics := none }

def pool5 : Array CpInfo := pool [(2, .class_ 4), (1, u "java/lang/Enum"), (0, u "name"), (0, u "Ljava/lang/String;"), (2, u "ordinal"), (0, u "I"), (1, .class_ 14), (1, u "java/lang/Object"), (4, u "hash"), (86, .class_ 108), (1, u "java/lang/Enum$EnumDesc"), (2, .class_ 112), (0, u "java/lang/constant/Constable"), (0, .class_ 114), (0, u "java/lang/Comparable"), (0, .class_ 116), (0, u "java/io/Serializable")] 87

/-- java/lang/Enum -/
def k5 : Class := { plain "java/lang/Enum" (some 0) with
  accessFlags := 1057
  interfaces := #[2, 3, 4]
  cf := some (fileOf pool5 2 #[.nestMembers #[106]] #[] 1057 12 #[111, 113, 115] #[{ accessFlags := 18, nameIndex := 5, descriptorIndex := 6, attributes := #[] }, { accessFlags := 18, nameIndex := 9, descriptorIndex := 10, attributes := #[] }, { accessFlags := 2, nameIndex := 19, descriptorIndex := 10, attributes := #[] }])
  fields := #[{ name := "name", type := (.object "java/lang/String"), accessFlags := 18, slot := 0, constantValue := 0 }, { name := "ordinal", type := .int, accessFlags := 18, slot := 1, constantValue := 0 }, { name := "hash", type := .int, accessFlags := 2, slot := 2, constantValue := 0 }]
  methods := #[]
  instanceTypes := #[(.object "java/lang/String"), .int, .int]
  staticTypes := #[]
  resolved := Array.replicate 204 none
  statics := none }

def pool6 : Array CpInfo := pool [(1, .class_ 2), (0, u "com/example/loose_grip/loosegrip/wire/ApiKey"), (2, u "FETCH"), (0, u "Lcom/example/loose_grip/loosegrip/wire/ApiKey;"), (2, u "LIST_OFFSETS"), (2, u "METADATA"), (2, u "OFFSET_COMMIT"), (2, u "OFFSET_FETCH"), (2, u "FIND_COORDINATOR"), (2, u "JOIN_GROUP"), (2, u "HEARTBEAT"), (2, u "LEAVE_GROUP"), (2, u "SYNC_GROUP"), (2, u "DESCRIBE_GROUPS"), (2, u "LIST_GROUPS"), (2, u "API_VERSIONS"), (2, u "$VALUES"), (0, u "[Lcom/example/loose_grip/loosegrip/wire/ApiKey;"), (6, .class_ 55), (1, u "java/lang/Enum"), (8, u "id"), (0, u "S"), (2, u "protocolName"), (0, u "Ljava/lang/String;"), (0, .fieldref 1 71), (0, .nameAndType 72 65), (0, u "minVersion"), (0, .fieldref 1 74), (0, .nameAndType 75 65), (0, u "maxVersion"), (58, u "supports"), (0, u "(S)Z")] 11

def k6c0 : Code := { maxStack := 2, maxLocals := 2, code := prog_36_method_5_code, exceptionTable := #[], attributes := #[] }
def k6m0 : Method := { name := "supports", desc := "(S)Z", sig := { parameters := [.short], returnType := some .boolean }, accessFlags := 1, code := some k6c0 }
/-- com/example/loose_grip/loosegrip/wire/ApiKey -/
def k6 : Class := { plain "com/example/loose_grip/loosegrip/wire/ApiKey" (some 5) with
  accessFlags := 16433
  interfaces := #[]
  cf := some (fileOf pool6 1 #[] #[{ accessFlags := 1, nameIndex := 134, descriptorIndex := 135, attributes := #[] }] 16433 53 #[] #[{ accessFlags := 16409, nameIndex := 5, descriptorIndex := 6, attributes := #[] }, { accessFlags := 16409, nameIndex := 9, descriptorIndex := 6, attributes := #[] }, { accessFlags := 16409, nameIndex := 12, descriptorIndex := 6, attributes := #[] }, { accessFlags := 16409, nameIndex := 15, descriptorIndex := 6, attributes := #[] }, { accessFlags := 16409, nameIndex := 18, descriptorIndex := 6, attributes := #[] }, { accessFlags := 16409, nameIndex := 21, descriptorIndex := 6, attributes := #[] }, { accessFlags := 16409, nameIndex := 24, descriptorIndex := 6, attributes := #[] }, { accessFlags := 16409, nameIndex := 27, descriptorIndex := 6, attributes := #[] }, { accessFlags := 16409, nameIndex := 30, descriptorIndex := 6, attributes := #[] }, { accessFlags := 16409, nameIndex := 33, descriptorIndex := 6, attributes := #[] }, { accessFlags := 16409, nameIndex := 36, descriptorIndex := 6, attributes := #[] }, { accessFlags := 16409, nameIndex := 39, descriptorIndex := 6, attributes := #[] }, { accessFlags := 16409, nameIndex := 42, descriptorIndex := 6, attributes := #[] }, { accessFlags := 18, nameIndex := 64, descriptorIndex := 65, attributes := #[] }, { accessFlags := 18, nameIndex := 68, descriptorIndex := 69, attributes := #[] }, { accessFlags := 18, nameIndex := 72, descriptorIndex := 65, attributes := #[] }, { accessFlags := 18, nameIndex := 75, descriptorIndex := 65, attributes := #[] }, { accessFlags := 4122, nameIndex := 45, descriptorIndex := 46, attributes := #[] }])
  fields := #[{ name := "FETCH", type := (.object "com/example/loose_grip/loosegrip/wire/ApiKey"), accessFlags := 16409, slot := 0, constantValue := 0 }, { name := "LIST_OFFSETS", type := (.object "com/example/loose_grip/loosegrip/wire/ApiKey"), accessFlags := 16409, slot := 1, constantValue := 0 }, { name := "METADATA", type := (.object "com/example/loose_grip/loosegrip/wire/ApiKey"), accessFlags := 16409, slot := 2, constantValue := 0 }, { name := "OFFSET_COMMIT", type := (.object "com/example/loose_grip/loosegrip/wire/ApiKey"), accessFlags := 16409, slot := 3, constantValue := 0 }, { name := "OFFSET_FETCH", type := (.object "com/example/loose_grip/loosegrip/wire/ApiKey"), accessFlags := 16409, slot := 4, constantValue := 0 }, { name := "FIND_COORDINATOR", type := (.object "com/example/loose_grip/loosegrip/wire/ApiKey"), accessFlags := 16409, slot := 5, constantValue := 0 }, { name := "JOIN_GROUP", type := (.object "com/example/loose_grip/loosegrip/wire/ApiKey"), accessFlags := 16409, slot := 6, constantValue := 0 }, { name := "HEARTBEAT", type := (.object "com/example/loose_grip/loosegrip/wire/ApiKey"), accessFlags := 16409, slot := 7, constantValue := 0 }, { name := "LEAVE_GROUP", type := (.object "com/example/loose_grip/loosegrip/wire/ApiKey"), accessFlags := 16409, slot := 8, constantValue := 0 }, { name := "SYNC_GROUP", type := (.object "com/example/loose_grip/loosegrip/wire/ApiKey"), accessFlags := 16409, slot := 9, constantValue := 0 }, { name := "DESCRIBE_GROUPS", type := (.object "com/example/loose_grip/loosegrip/wire/ApiKey"), accessFlags := 16409, slot := 10, constantValue := 0 }, { name := "LIST_GROUPS", type := (.object "com/example/loose_grip/loosegrip/wire/ApiKey"), accessFlags := 16409, slot := 11, constantValue := 0 }, { name := "API_VERSIONS", type := (.object "com/example/loose_grip/loosegrip/wire/ApiKey"), accessFlags := 16409, slot := 12, constantValue := 0 }, { name := "id", type := .short, accessFlags := 18, slot := 3, constantValue := 0 }, { name := "protocolName", type := (.object "java/lang/String"), accessFlags := 18, slot := 4, constantValue := 0 }, { name := "minVersion", type := .short, accessFlags := 18, slot := 5, constantValue := 0 }, { name := "maxVersion", type := .short, accessFlags := 18, slot := 6, constantValue := 0 }, { name := "$VALUES", type := (.array (.object "com/example/loose_grip/loosegrip/wire/ApiKey")), accessFlags := 4122, slot := 13, constantValue := 0 }]
  methods := #[k6m0]
  instanceTypes := #[(.object "java/lang/String"), .int, .int, .short, (.object "java/lang/String"), .short, .short]
  staticTypes := #[(.object "com/example/loose_grip/loosegrip/wire/ApiKey"), (.object "com/example/loose_grip/loosegrip/wire/ApiKey"), (.object "com/example/loose_grip/loosegrip/wire/ApiKey"), (.object "com/example/loose_grip/loosegrip/wire/ApiKey"), (.object "com/example/loose_grip/loosegrip/wire/ApiKey"), (.object "com/example/loose_grip/loosegrip/wire/ApiKey"), (.object "com/example/loose_grip/loosegrip/wire/ApiKey"), (.object "com/example/loose_grip/loosegrip/wire/ApiKey"), (.object "com/example/loose_grip/loosegrip/wire/ApiKey"), (.object "com/example/loose_grip/loosegrip/wire/ApiKey"), (.object "com/example/loose_grip/loosegrip/wire/ApiKey"), (.object "com/example/loose_grip/loosegrip/wire/ApiKey"), (.object "com/example/loose_grip/loosegrip/wire/ApiKey"), (.array (.object "com/example/loose_grip/loosegrip/wire/ApiKey"))]
  resolved := Array.replicate 147 none
  statics := some 0 }

def pool7 : Array CpInfo := pool [(1, u "java/lang/Cloneable"), (0, .class_ 1), (0, u "java/lang/Object"), (0, .class_ 3)] 3

/-- java/lang/Cloneable -/
def k7 : Class := { plain "java/lang/Cloneable" (some 0) with
  accessFlags := 1537
  interfaces := #[]
  cf := some (fileOf pool7 2 #[] #[] 1537 4 #[] #[])
  fields := #[]
  methods := #[]
  instanceTypes := #[]
  staticTypes := #[]
  resolved := Array.replicate 8 none
  statics := none }

/-- the primitive byte -/
def k8 : Class := { plain "byte" none with kind := .primitive 'B', accessFlags := 0x411 }
/-- [B -/
def k9 : Class := { plain "[B" (some 0) with kind := .array 8 .byte, interfaces := #[7, 4], accessFlags := 1041 }

/-- the primitive int -/
def k10 : Class := { plain "int" none with kind := .primitive 'I', accessFlags := 0x411 }
/-- [I -/
def k11 : Class := { plain "[I" (some 0) with kind := .array 10 .int, interfaces := #[7, 4], accessFlags := 1041 }

/-- [Lcom/example/loose_grip/loosegrip/wire/ApiKey; -/
def k12 : Class := { plain "[Lcom/example/loose_grip/loosegrip/wire/ApiKey;" (some 0) with kind := .array 6 (.object "com/example/loose_grip/loosegrip/wire/ApiKey"), interfaces := #[7, 4], accessFlags := 1041 }

def heap : Heap := #[{ cls := 6, slots := #[.ref 1, .ref 2, .ref 3, .ref 4, .ref 5, .ref 6, .ref 7, .ref 8, .ref 9, .ref 10, .ref 11, .ref 12, .ref 13, .null], vm := .statics 6 },
  { cls := 6, slots := #[.null, .int 0, .int 0, .int 1, .null, .int 0, .int 11], vm := .none },
  { cls := 6, slots := #[.null, .int 1, .int 0, .int 2, .null, .int 0, .int 5], vm := .none },
  { cls := 6, slots := #[.null, .int 2, .int 0, .int 3, .null, .int 0, .int 4], vm := .none },
  { cls := 6, slots := #[.null, .int 3, .int 0, .int 8, .null, .int 2, .int 7], vm := .none },
  { cls := 6, slots := #[.null, .int 4, .int 0, .int 9, .null, .int 1, .int 5], vm := .none },
  { cls := 6, slots := #[.null, .int 5, .int 0, .int 10, .null, .int 0, .int 2], vm := .none },
  { cls := 6, slots := #[.null, .int 6, .int 0, .int 11, .null, .int 0, .int 5], vm := .none },
  { cls := 6, slots := #[.null, .int 7, .int 0, .int 12, .null, .int 0, .int 3], vm := .none },
  { cls := 6, slots := #[.null, .int 8, .int 0, .int 13, .null, .int 0, .int 3], vm := .none },
  { cls := 6, slots := #[.null, .int 9, .int 0, .int 14, .null, .int 0, .int 3], vm := .none },
  { cls := 6, slots := #[.null, .int 10, .int 0, .int 15, .null, .int 0, .int 4], vm := .none },
  { cls := 6, slots := #[.null, .int 11, .int 0, .int 16, .null, .int 0, .int 2], vm := .none },
  { cls := 6, slots := #[.null, .int 12, .int 0, .int 18, .null, .int 0, .int 2], vm := .none }]
def classes : Array Class := #[k0, k1, k2, k3, k4, k5, k6, k7, k8, k9, k10, k11, k12]
def interned : List (Array UInt16 × Addr) := []
def slotsUsed : Nat := 105
def theMethod : MethodId := ⟨1, 1⟩
def args0 : Array Value := #[.int 5, .int 1]
def aboutOver (below : List Frame) : State where
  vm := { classes := classes, interned := interned.toArray }
  heap := heap
  slotsUsed := slotsUsed
  threads := #[{ frames := .invoking theMethod args0 :: below }]
def below0 : List Frame := [.native { method := ⟨0, 0⟩, args := #[] }]
def about1 : State := aboutOver below0
def p0 : Program := .bare "" "" ""
def e0 : Env := launch0.env 0 0 0
theorem w_frames : about1.frames = Frame.invoking theMethod args0 :: below0 := rfl
set_option maxRecDepth 65536 in
theorem w_args : argsFit about1.vm theMethod args0 = true := by decide +kernel
set_option maxRecDepth 65536 in
theorem w_heap : heapFits about1 = true := by decide +kernel
set_option maxRecDepth 65536 in
theorem w_runnable : about1.curStatus? = some .runnable := by decide +kernel
set_option maxRecDepth 65536 in
theorem w_alone : about1.alone = true := by decide +kernel
set_option maxRecDepth 65536 in
theorem w_named : about1.methodNamed? x = some theMethod := by decide +kernel
set_option maxRecDepth 65536 in
theorem w_hears : about1.hears theMethod below0 = true := by decide +kernel
set_option maxRecDepth 65536 in
theorem w_ripe : about1.ripe theMethod args0 below0 = true := by decide +kernel
theorem w_running : about1.status = .running := rfl
set_option maxRecDepth 65536 in
theorem w_room : about1.hasRoom e0.platform room_1 = true :=
  launch0.hasRoom_least _ room_1 (by decide +kernel) (by decide +kernel) (by decide +kernel) (by decide +kernel) (by decide +kernel) (by decide +kernel)
theorem allAtoms_all (ts : List Jvm.Cond) (a : Array Jvm.Value) (st : Jvm.State) : (allAtoms ts).before a st = ts.all (fun c => c.before a st) := by
  induction ts with
  | nil => rfl
  | cons c t ih =>
    show (Jvm.Cond.and c (allAtoms t)).before a st = _
    rw [Jvm.Cond.before_and, ih, List.all_cons]
def words1 : List Jvm.Cond := Jvm.Cond.code x code maxLocals ret :: tables_1
/-- a 'code' word, met by the world's own term for the bytes: nothing is compared byte by byte -/
theorem code_word {y : MethodName} {bytes : ByteArray} {mx : Nat} {rt : Option FieldType} {a : Array Value} {s : State} {m : MethodId} {meth : Method} {c : Code} (h1 : s.methodNamed? y = some m) (h2 : s.vm.method? m = some meth) (h3 : meth.code = some c) (h4 : c.code = bytes)
    (h5 : (c.maxLocals == mx && c.exceptionTable.isEmpty && decide (c.maxStack ≤ mostOperands) && decide (meth.sig.returnType = rt) && !meth.locks && decide (parseMethodDescriptor y.desc = some meth.sig)) = true) : (Jvm.Cond.code y bytes mx rt).before a s = true := by
  simp only [Bool.and_eq_true, beq_iff_eq, Bool.not_eq_true', decide_eq_true_eq] at h5
  obtain ⟨⟨⟨⟨⟨g1, g2⟩, g3⟩, g4⟩, g5⟩, g6⟩ := h5
  simp [Cond.before, Cond.holds, Cond.value, h1, h2, h3, h4, g1, g2, g3, g4, g5, g6]
def isCode : Jvm.Cond → Bool
  | .code _ _ _ _ => true
  | _ => false
theorem all_split {L : List Jvm.Cond} {P : Jvm.Cond → Bool} (h1 : L.all (fun c => isCode c || P c) = true) (h2 : ∀ c ∈ L.filter isCode, P c = true) : L.all P = true := by
  refine List.all_eq_true.mpr fun c hc => ?_
  have h := List.all_eq_true.mp h1 c hc
  rcases Bool.eq_false_or_eq_true (isCode c) with hi | hi
  · exact h2 c (List.mem_filter.mpr ⟨hc, hi⟩)
  · simpa [hi] using h
set_option maxRecDepth 65536 in
theorem w_c0 : (Jvm.Cond.code x code maxLocals ret).before args0 about1 = true := code_word (m := ⟨1, 1⟩) (meth := k1m1) (c := k1c1) (by decide +kernel) rfl rfl rfl (by decide +kernel)
set_option maxRecDepth 65536 in
theorem w_c1 : (Jvm.Cond.code ({ cls := "com/example/loose_grip/loosegrip/wire/ApiKey", name := "supports", desc := "(S)Z" } : Jvm.MethodName) prog_36_method_5_code (2 : Nat) (Option.some Jvm.ClassFile.FieldType.boolean)).before args0 about1 = true := code_word (m := ⟨6, 0⟩) (meth := k6m0) (c := k6c0) (by decide +kernel) rfl rfl rfl (by decide +kernel)
def codes1 : List Jvm.Cond := [Jvm.Cond.code x code maxLocals ret, Jvm.Cond.code ({ cls := "com/example/loose_grip/loosegrip/wire/ApiKey", name := "supports", desc := "(S)Z" } : Jvm.MethodName) prog_36_method_5_code (2 : Nat) (Option.some Jvm.ClassFile.FieldType.boolean)]
set_option maxRecDepth 65536 in
theorem codes_eq : words1.filter isCode = codes1 := rfl
theorem w_codes : ∀ c ∈ words1.filter isCode, c.before args0 about1 = true := by
  rw [codes_eq]
  intro c hc
  simp only [codes1, List.mem_cons, List.not_mem_nil, or_false] at hc
  rcases hc with rfl | rfl
  · exact w_c0
  · exact w_c1
set_option maxRecDepth 65536 in
theorem w_t1 : (words1.take 24).all (fun c => isCode c || c.before args0 about1) = true := by decide +kernel
set_option maxRecDepth 65536 in
theorem w_t2 : (words1.drop 24).all (fun c => isCode c || c.before args0 about1) = true := by decide +kernel
theorem w_tables : (allAtoms (Jvm.Cond.code x code maxLocals ret :: tables_1)).before args0 about1 = true := by
  rw [allAtoms_all]
  show words1.all (fun c => c.before args0 about1) = true
  refine all_split ?_ w_codes
  rw [← List.take_append_drop 24 words1, List.all_append, w_t1, w_t2]
  rfl
set_option maxRecDepth 65536 in
theorem w_case : (Jvm.Cond.and given_1 narrow_1).before args0 about1 = true := by decide +kernel
theorem w_applies : (headSpec (Jvm.Cond.code x code maxLocals ret :: tables_1) room_1).applies x e0.platform about1 = true :=
  (Spec.applies_iff w_frames).mpr ⟨w_running, w_runnable, w_alone, w_named, w_hears, w_ripe, w_room, w_tables⟩
theorem atStart : AtStart classFile x code maxLocals ret World_1 tables_1 room_1 Calls_1 rest_1 Pre_1 launch0 p0 e0 about1 theMethod args0 below0 :=
  ⟨lists_1, trivial, launch0.admits_env _ _ _, launch0.least_env, fairChoices_fair.cas, fairChoices_fair.clock, w_frames, w_args, w_heap, w_applies, trivial, trivial, w_case⟩
end start1
theorem witness_1 : WitnessClaimed_1 := ⟨start1.p0, start1.e0, start1.about1, start1.theMethod, start1.args0, start1.below0, start1.atStart⟩
end Jvm.Pilot.@@N@@
