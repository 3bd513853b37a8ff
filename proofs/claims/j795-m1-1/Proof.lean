import JvmDerived
import JvmDerived.Pilot.@@N@@Statement
import JvmDerived.Pilot.@@N@@Code
set_option linter.unusedVariables false
set_option linter.unusedSimpArgs false
namespace Jvm.Pilot.@@N@@
open Jvm Jvm.ClassFile Sem Op Lib Jvm.Free Jvm.Stand Jvm.LawKit Jvm.RoadKit Bundle Jvm.Pilot.@@N@@.Jvm.D
section OwnKit
variable {p : Program} {l : Launch} {e : Env} {R : Room} {s : State} {m : MethodId} {args : Array Value} {below : List Frame} {meth : Method} {c : Code} {T : State} {locs : List Loc} {cells slots : Nat}
/-- from S the run comes to an end that Φ takes -/
def own_G (tb : Tables) (e : Env) (below : List Frame) (Φ : State → Outcome → Prop) (S : State) : Prop := ∃ t o, Steps tb e below S t ∧ t.status = .running ∧ Ended t below o ∧ Φ t o
def own_E (s : State) (Q : Option Value → Heap → List Loc → Prop) (kc ks : Nat) : State → Outcome → Prop := fun t o => ∃ v L, o = .returned v ∧ Q v t.heap L ∧ FrameEnd s o t L kc ks
theorem own_st {tb : Tables} {Φ : State → Outcome → Prop} {S S' : State} (h : ∀ t, Steps tb e below S' t → Steps tb e below S t) (g : own_G tb e below Φ S') : own_G tb e below Φ S := by
  obtain ⟨t, o, a, b⟩ := g
  exact ⟨t, o, h t a, b⟩
theorem own_tr {tb : Tables} {Φ : State → Outcome → Prop} {S S' : State} (h : Steps tb e below S S') (g : own_G tb e below Φ S') : own_G tb e below Φ S := by
  obtain ⟨t, o, a, b⟩ := g
  exact ⟨t, o, h.trans a, b⟩
theorem own_in {s₁ : State} (kc ks : Nat) (Q : Option Value → Heap → List Loc → Prop) {mL : Nat} {g : JFrame} (ef : entryFrame m args mL = g) (k : own_G p.tables e below (own_E s Q kc ks) (s₁.setTop g)) :
    ∃ s₂ o, Steps p.tables e below (s₁.setTop (entryFrame m args mL)) s₂ ∧ s₂.status = .running ∧ Ended s₂ below o ∧ ∃ v L, o = .returned v ∧ Q v s₂.heap L ∧ FrameEnd s o s₂ L kc ks := by
  rw [ef]
  exact k
theorem own_retI0 (X : Stand p l e R s m args below meth c T locs cells slots) (hx : p.tables.exec = Jvm.exec) {pc : Nat} {Ls : Array Slot} {z : Int32} {rest : List Value} (hret : meth.sig.returnType = some .int) (hd : decode c.code pc = .ok (.ireturn, 1)) {fs : List Frame}
    (hl : ∀ (f : JFrame) (acts : List Action), f.method = m → f.locked = none → f.entered = [] → (doReturn e (T.setTop f) acts (some (.int z))).1 = T.setFrames fs) : Steps p.tables e below (T.setTop (mkF m pc Ls (.int z :: rest))) (T.setFrames fs) :=
  retOut X hx hret rfl (Or.inl ⟨rfl, Or.inl rfl, z, rfl⟩) hd hl
theorem own_retI (X : Stand p l e R s m args below meth c T locs cells slots) (hx : p.tables.exec = Jvm.exec) (hlk : meth.locks = false) {pc : Nat} {Ls : Array Slot} {z : Int32} {rest : List Value} (hret : meth.sig.returnType = some .int) (hd : decode c.code pc = .ok (.ireturn, 1))
    {Q : Option Value → Heap → List Loc → Prop} {kc ks : Nat} (hc : cells ≤ kc) (hs : slots ≤ ks) (q : Q (some (.int z)) T.heap locs) : own_G p.tables e below (own_E s Q kc ks) (T.setTop (mkF m pc Ls (.int z :: rest))) := by
  obtain ⟨fs, hr, hrun, hended, hW, hsame⟩ := X.leave (v := some (.int z)) (fun h => by rw [hret] at h; cases h)
  exact ⟨_, _, own_retI0 X hx hret hd hr, hrun, hended, _, _, rfl, q, ⟨_, rfl⟩, hW, hsame.mono hc hs⟩
theorem own_retN (X : Stand p l e R s m args below meth c T locs cells slots) (hx : p.tables.exec = Jvm.exec) (hlk : meth.locks = false) {pc : Nat} {Ls : Array Slot} {z : Int32} {t : FieldType} {rest : List Value} (hret : meth.sig.returnType = some t) (ht : t = .boolean ∨ t = .byte ∨ t = .char ∨ t = .short) (hd : decode c.code pc = .ok (.ireturn, 1))
    {Q : Option Value → Heap → List Loc → Prop} {kc ks : Nat} (hc : cells ≤ kc) (hs : slots ≤ ks) {v' : Int32} (hv : nar t z = v') (q : Q (some (.int v')) T.heap locs) : own_G p.tables e below (own_E s Q kc ks) (T.setTop (mkF m pc Ls (.int z :: rest))) := by
  subst hv
  obtain ⟨fs, hr, hrun, hended, hW, hsame⟩ := X.leave (v := some (.int (nar t z))) (fun h => by rw [hret] at h; cases h)
  exact ⟨_, _, retN X hx hret ht hd hr, hrun, hended, _, _, rfl, q, ⟨_, rfl⟩, hW, hsame.mono hc hs⟩
theorem own_retA (X : Stand p l e R s m args below meth c T locs cells slots) (hx : p.tables.exec = Jvm.exec) (hlk : meth.locks = false) {pc : Nat} {Ls : Array Slot} {w : Value} {t : FieldType} {rest : List Value} (hret : meth.sig.returnType = some t) (ht : t.isReference = true) (hw : w.isRef = true) (hd : decode c.code pc = .ok (.areturn, 1))
    {Q : Option Value → Heap → List Loc → Prop} {kc ks : Nat} (hc : cells ≤ kc) (hs : slots ≤ ks) (q : Q (some w) T.heap locs) : own_G p.tables e below (own_E s Q kc ks) (T.setTop (mkF m pc Ls (w :: rest))) := by
  obtain ⟨fs, hr, hrun, hended, hW, hsame⟩ := X.leave (v := some w) (fun h => by rw [hret] at h; cases h)
  have hn : narrow t w = w := by rcases ref_cases hw with rfl | ⟨a, rfl⟩ <;> cases t <;> rfl
  exact ⟨_, _, retOut X hx hret hn (Or.inr (Or.inr (Or.inr (Or.inr ⟨rfl, ht, hw⟩)))) hd hr, hrun, hended, _, _, rfl, q, ⟨_, rfl⟩, hW, hsame.mono hc hs⟩
theorem own_retJ (X : Stand p l e R s m args below meth c T locs cells slots) (hx : p.tables.exec = Jvm.exec) (hlk : meth.locks = false) {pc : Nat} {Ls : Array Slot} {z : Int64} {rest : List Value} (hret : meth.sig.returnType = some .long) (hd : decode c.code pc = .ok (.lreturn, 1))
    {Q : Option Value → Heap → List Loc → Prop} {kc ks : Nat} (hc : cells ≤ kc) (hs : slots ≤ ks) (q : Q (some (.long z)) T.heap locs) : own_G p.tables e below (own_E s Q kc ks) (T.setTop (mkF m pc Ls (.long z :: rest))) := by
  obtain ⟨fs, hr, hrun, hended, hW, hsame⟩ := X.leave (v := some (.long z)) (fun h => by rw [hret] at h; cases h)
  exact ⟨_, _, retOut X hx hret rfl (Or.inr (Or.inl ⟨rfl, rfl, z, rfl⟩)) hd hr, hrun, hended, _, _, rfl, q, ⟨_, rfl⟩, hW, hsame.mono hc hs⟩
theorem own_retV (X : Stand p l e R s m args below meth c T locs cells slots) (hx : p.tables.exec = Jvm.exec) (hlk : meth.locks = false) {pc : Nat} {Ls : Array Slot} (hret : meth.sig.returnType = none) (hd : decode c.code pc = .ok (.return_, 1))
    {Q : Option Value → Heap → List Loc → Prop} {kc ks : Nat} (hc : cells ≤ kc) (hs : slots ≤ ks) (q : Q none T.heap locs) : own_G p.tables e below (own_E s Q kc ks) (T.setTop (mkF m pc Ls [])) := by
  obtain ⟨fs, hr, hrun, hended, hW, hsame⟩ := X.leave (v := none) (fun _ => rfl)
  exact ⟨_, _, X.returnOut hx hret hd hr, hrun, hended, _, _, rfl, q, ⟨_, rfl⟩, hW, hsame.mono hc hs⟩
end OwnKit
theorem own_cat {v : Value} (h : v.isRef = true) : v.category = 1 := by cases v <;> first | rfl | (simp [Value.isRef] at h)
theorem own_i32 {a b : Int32} (h : a.toInt = b.toInt) : a = b := Int32.toInt_inj.mp h
theorem own_i64 {a b : Int64} (h : a.toInt = b.toInt) : a = b := Int64.toInt_inj.mp h
/-- (x & 0x7fffffff) % d lies from 0 to d - 1 -/
theorem own_mod (x y : Int32) (d : Int) (hy : y.toInt = d) (hd : 0 < d) : 0 ≤ ((x &&& 2147483647) % y).toInt ∧ ((x &&& 2147483647) % y).toInt < d ∧ ((x &&& 2147483647) % y).toInt = (x.toInt % 2147483648) % d := by
  have h1 := c_mask x 2147483647 31 (by decide) (by decide)
  have h2 := (c_irem (x &&& 2147483647) y d hy).1 (by rw [h1]; omega)
  rw [h2, h1]
  refine ⟨Int.emod_nonneg _ (by omega), Int.emod_lt_of_pos _ hd, rfl⟩
theorem own_mod6 (x : Int32) : (x &&& 2147483647) % 6 = (0 : Int32) ∨ (x &&& 2147483647) % 6 = (1 : Int32) ∨ (x &&& 2147483647) % 6 = (2 : Int32) ∨ (x &&& 2147483647) % 6 = (3 : Int32) ∨ (x &&& 2147483647) % 6 = (4 : Int32) ∨ (x &&& 2147483647) % 6 = (5 : Int32) := by
  have h := own_mod x 6 6 (by decide) (by decide)
  have : ((x &&& 2147483647) % 6).toInt = 0 ∨ ((x &&& 2147483647) % 6).toInt = 1 ∨ ((x &&& 2147483647) % 6).toInt = 2 ∨ ((x &&& 2147483647) % 6).toInt = 3 ∨ ((x &&& 2147483647) % 6).toInt = 4 ∨ ((x &&& 2147483647) % 6).toInt = 5 := by omega
  rcases this with h | h | h | h | h | h
  · exact Or.inl (own_i32 (h.trans (by decide)))
  · exact Or.inr (Or.inl (own_i32 (h.trans (by decide))))
  · exact Or.inr (Or.inr (Or.inl (own_i32 (h.trans (by decide)))))
  · exact Or.inr (Or.inr (Or.inr (Or.inl (own_i32 (h.trans (by decide))))))
  · exact Or.inr (Or.inr (Or.inr (Or.inr (Or.inl (own_i32 (h.trans (by decide)))))))
  · exact Or.inr (Or.inr (Or.inr (Or.inr (Or.inr (own_i32 (h.trans (by decide)))))))
theorem own_and3 (x : Int32) : x &&& 3 = (0 : Int32) ∨ x &&& 3 = (1 : Int32) ∨ x &&& 3 = (2 : Int32) ∨ x &&& 3 = (3 : Int32) := by
  have h := c_mask x 3 2 (by decide) (by decide)
  have h2 : (x &&& 3).toInt = x.toInt % 4 := h
  have : (x &&& 3).toInt = 0 ∨ (x &&& 3).toInt = 1 ∨ (x &&& 3).toInt = 2 ∨ (x &&& 3).toInt = 3 := by omega
  rcases this with h | h | h | h
  · exact Or.inl (own_i32 (h.trans (by decide)))
  · exact Or.inr (Or.inl (own_i32 (h.trans (by decide))))
  · exact Or.inr (Or.inr (Or.inl (own_i32 (h.trans (by decide)))))
  · exact Or.inr (Or.inr (Or.inr (own_i32 (h.trans (by decide)))))
theorem d1_0 : decode prog_8_method_8_code 0 = .ok (.lload_n 1, 1) := by decide +kernel
theorem d1_1 : decode prog_8_method_8_code 1 = .ok (.lconst 1, 1) := by decide +kernel
theorem d1_2 : decode prog_8_method_8_code 2 = .ok (.lcmp, 1) := by decide +kernel
theorem d1_3 : decode prog_8_method_8_code 3 = .ok (.ifCond .lt 17, 3) := by decide +kernel
theorem d1_6 : decode prog_8_method_8_code 6 = .ok (.lload_n 1, 1) := by decide +kernel
theorem d1_7 : decode prog_8_method_8_code 7 = .ok (.aload_n 0, 1) := by decide +kernel
theorem d1_8 : decode prog_8_method_8_code 8 = .ok (.getfield 45, 3) := by decide +kernel
theorem d1_11 : decode prog_8_method_8_code 11 = .ok (.i2l, 1) := by decide +kernel
theorem d1_12 : decode prog_8_method_8_code 12 = .ok (.lcmp, 1) := by decide +kernel
theorem d1_13 : decode prog_8_method_8_code 13 = .ok (.ifCond .gt 7, 3) := by decide +kernel
theorem d1_16 : decode prog_8_method_8_code 16 = .ok (.iconst 1, 1) := by decide +kernel
theorem d1_17 : decode prog_8_method_8_code 17 = .ok (.goto 4, 3) := by decide +kernel
theorem d1_20 : decode prog_8_method_8_code 20 = .ok (.iconst 0, 1) := by decide +kernel
theorem d1_21 : decode prog_8_method_8_code 21 = .ok (.ireturn, 1) := by decide +kernel
theorem pn_1 : plainName "com/example/recurring_jobs/recurringjobs/model/Frequency" = true := by first | (simp [plainName, overriddenIn]; done) | decide +kernel
theorem ef_alw_lt (m : MethodId) (x0 : Addr) (x1 : Int64) : entryFrame m #[(.ref x0), (.long x1)] 3 = mkF m 0 #[.val (.ref x0), .val (.long x1), .second] [] := by first | (simp [entryFrame, mkF, argsToLocals, Value.category]; done) | rfl
def Q_alw_lt (Z : State) (a1 : Addr) (q1 : Int64) (h0 : Heap) (n0 : Nat) (v : Option Value) (h : Heap) (L : List Loc) : Prop := v = some (.int (0 : Int32)) ∧ Fr n0 L ∧ h = h0
set_option maxRecDepth 65536 in
set_option maxHeartbeats 40000000 in
theorem rm_alw_lt (l : Launch) (Z : State) (a0 : Array Value) (hw : ∀ d ∈ tables_1, d.before a0 Z = true) (ws : List Jvm.Cond) (a1 : Addr) (q1 : Int64) (h0 : Heap) (n0 : Nat) (Z0 : n0 ≤ h0.size) (O0 : Old Z n0 h0) (hy0 : (XT.cmpL q1 (1 : Int64)) < (0 : Int32)) :
    MetFree l (⟨"com/example/recurring_jobs/recurringjobs/model/Frequency", "allowsInterval", "(J)Z"⟩ : MethodName) (head1 (Jvm.Cond.code (⟨"com/example/recurring_jobs/recurringjobs/model/Frequency", "allowsInterval", "(J)Z"⟩ : MethodName) prog_8_method_8_code 3 (some .boolean) :: ws) ({ frames := 0, cells := 0, slots := 0, locals := 0 } : Room)) (fun a U => a = #[(.ref a1), (.long q1)] ∧ Z.Warmed39 U.vm ∧ U.heap = h0) (fun _ _ _ _ _ => True) (fun _ U o U' => ∃ v L, o = .returned v ∧ Q_alw_lt Z a1 q1 h0 n0 v U'.heap L ∧ FrameEnd U o U' L ({ frames := 0, cells := 0, slots := 0, locals := 0 } : Room).cells ({ frames := 0, cells := 0, slots := 0, locals := 0 } : Room).slots) := by
  refine MetFree.of_bodySF (plainFor_of_name pn_1) hisR ?_
  intro p e s m args below meth c s₁ Bd hml0 hP hK
  obtain ⟨rfl, hZ, hh⟩ := hP
  have hx := Bd.exec
  have hby := Bd.bytes
  have hml : c.maxLocals = 3 := hml0
  have hown : s.vm.findClass "com/example/recurring_jobs/recurringjobs/model/Frequency" = some m.cls := findClass_of_methodNamed Bd.named
  have hnm := (name_of_methodNamed Bd.named Bd.method).1
  have hlk := Bd.notSynchronized
  have hret := Bd.returns
  have X0 : Stand p l e ({ frames := 0, cells := 0, slots := 0, locals := 0 } : Room) s m #[(.ref a1), (.long q1)] below meth c s₁ [] 0 0 := Stand.of_body Bd
  have e0 : s₁.heap = h0 := by rw [← hh, Bd.state]; rfl
  have N0 := Fr.nil n0
  refine own_in ({ frames := 0, cells := 0, slots := 0, locals := 0 } : Room).cells ({ frames := 0, cells := 0, slots := 0, locals := 0 } : Room).slots (Q_alw_lt Z a1 q1 h0 n0) (ef_alw_lt m a1 q1) ?_
  show own_G p.tables e below _ (s₁.setTop (mkF m 0 #[.val (.ref a1), .val (.long q1), .second] []))
  refine own_st (fun _ kS => XT.lloadN X0.here hx rfl (hb hby d1_0) rfl kS) ?_
  show own_G p.tables e below _ (s₁.setTop (mkF m 1 #[.val (.ref a1), .val (.long q1), .second] [(.long q1)]))
  refine own_st (fun _ kS => XT.lconst X0.here hx rfl (hb hby d1_1) kS) ?_
  show own_G p.tables e below _ (s₁.setTop (mkF m 2 #[.val (.ref a1), .val (.long q1), .second] [(.long (1 : Int64)), (.long q1)]))
  refine own_st (fun _ kS => XT.lcmp X0.here hx rfl (hb hby d1_2) rfl kS) ?_
  show own_G p.tables e below _ (s₁.setTop (mkF m 3 #[.val (.ref a1), .val (.long q1), .second] [(.int (XT.cmpL q1 (1 : Int64)))]))
  refine own_st (fun _ kS => XS.ifYes X0.here hx rfl (pc0 := 3) (pc' := 20) rfl (hb hby d1_3) rfl ((if0 _ _).trans (tlt (hy0 : (XT.cmpL q1 (1 : Int64)) < (0 : Int32))).1) (by decide) (by decide) kS) ?_
  show own_G p.tables e below _ (s₁.setTop (mkF m 20 #[.val (.ref a1), .val (.long q1), .second] []))
  refine own_st (fun _ kS => XS.iconst X0.here hx rfl (hb hby d1_20) kS) ?_
  show own_G p.tables e below _ (s₁.setTop (mkF m 21 #[.val (.ref a1), .val (.long q1), .second] [(.int (0 : Int32))]))
  exact own_retN X0 hx hlk (t := .boolean) hret (by simp) (hb hby d1_21) (by decide) (by decide) (v' := (0 : Int32)) rfl (by rw [e0]; exact ⟨rfl, N0, rfl⟩)
theorem ef_alw_gt (m : MethodId) (x0 : Addr) (x1 : Int64) : entryFrame m #[(.ref x0), (.long x1)] 3 = mkF m 0 #[.val (.ref x0), .val (.long x1), .second] [] := by first | (simp [entryFrame, mkF, argsToLocals, Value.category]; done) | rfl
def Q_alw_gt (Z : State) (a1 : Addr) (q1 : Int64) (m1 : Int32) (h0 : Heap) (n0 : Nat) (v : Option Value) (h : Heap) (L : List Loc) : Prop := v = some (.int (0 : Int32)) ∧ Fr n0 L ∧ h = h0
set_option maxRecDepth 65536 in
set_option maxHeartbeats 40000000 in
theorem rm_alw_gt (l : Launch) (Z : State) (a0 : Array Value) (hw : ∀ d ∈ tables_1, d.before a0 Z = true) (ws : List Jvm.Cond) (a1 : Addr) (q1 : Int64) (m1 : Int32) (h0 : Heap) (n0 : Nat) (Z0 : n0 ≤ h0.size) (O0 : Old Z n0 h0) (F1 : Fld Z Z.heap a1 "com/example/recurring_jobs/recurringjobs/model/Frequency" "maxInterval" "I" (.int m1)) (hy0 : ¬ ((XT.cmpL q1 (1 : Int64)) < (0 : Int32))) (hy1 : (0 : Int32) < (XT.cmpL q1 (m1.toInt64))) :
    MetFree l (⟨"com/example/recurring_jobs/recurringjobs/model/Frequency", "allowsInterval", "(J)Z"⟩ : MethodName) (head1 (Jvm.Cond.code (⟨"com/example/recurring_jobs/recurringjobs/model/Frequency", "allowsInterval", "(J)Z"⟩ : MethodName) prog_8_method_8_code 3 (some .boolean) :: ws) ({ frames := 0, cells := 0, slots := 0, locals := 0 } : Room)) (fun a U => a = #[(.ref a1), (.long q1)] ∧ Z.Warmed39 U.vm ∧ U.heap = h0) (fun _ _ _ _ _ => True) (fun _ U o U' => ∃ v L, o = .returned v ∧ Q_alw_gt Z a1 q1 m1 h0 n0 v U'.heap L ∧ FrameEnd U o U' L ({ frames := 0, cells := 0, slots := 0, locals := 0 } : Room).cells ({ frames := 0, cells := 0, slots := 0, locals := 0 } : Room).slots) := by
  refine MetFree.of_bodySF (plainFor_of_name pn_1) hisR ?_
  intro p e s m args below meth c s₁ Bd hml0 hP hK
  obtain ⟨rfl, hZ, hh⟩ := hP
  have hx := Bd.exec
  have hby := Bd.bytes
  have hml : c.maxLocals = 3 := hml0
  have hown : s.vm.findClass "com/example/recurring_jobs/recurringjobs/model/Frequency" = some m.cls := findClass_of_methodNamed Bd.named
  have hnm := (name_of_methodNamed Bd.named Bd.method).1
  have hlk := Bd.notSynchronized
  have hret := Bd.returns
  have X0 : Stand p l e ({ frames := 0, cells := 0, slots := 0, locals := 0 } : Room) s m #[(.ref a1), (.long q1)] below meth c s₁ [] 0 0 := Stand.of_body Bd
  have e0 : s₁.heap = h0 := by rw [← hh, Bd.state]; rfl
  have N0 := Fr.nil n0
  refine own_in ({ frames := 0, cells := 0, slots := 0, locals := 0 } : Room).cells ({ frames := 0, cells := 0, slots := 0, locals := 0 } : Room).slots (Q_alw_gt Z a1 q1 m1 h0 n0) (ef_alw_gt m a1 q1) ?_
  show own_G p.tables e below _ (s₁.setTop (mkF m 0 #[.val (.ref a1), .val (.long q1), .second] []))
  refine own_st (fun _ kS => XT.lloadN X0.here hx rfl (hb hby d1_0) rfl kS) ?_
  show own_G p.tables e below _ (s₁.setTop (mkF m 1 #[.val (.ref a1), .val (.long q1), .second] [(.long q1)]))
  refine own_st (fun _ kS => XT.lconst X0.here hx rfl (hb hby d1_1) kS) ?_
  show own_G p.tables e below _ (s₁.setTop (mkF m 2 #[.val (.ref a1), .val (.long q1), .second] [(.long (1 : Int64)), (.long q1)]))
  refine own_st (fun _ kS => XT.lcmp X0.here hx rfl (hb hby d1_2) rfl kS) ?_
  show own_G p.tables e below _ (s₁.setTop (mkF m 3 #[.val (.ref a1), .val (.long q1), .second] [(.int (XT.cmpL q1 (1 : Int64)))]))
  refine own_st (fun _ kS => XS.ifNo X0.here hx rfl (hb hby d1_3) rfl ((if0 _ _).trans (flt (hy0 : ¬ ((XT.cmpL q1 (1 : Int64)) < (0 : Int32)))).1) kS) ?_
  show own_G p.tables e below _ (s₁.setTop (mkF m 6 #[.val (.ref a1), .val (.long q1), .second] []))
  refine own_st (fun _ kS => XT.lloadN X0.here hx rfl (hb hby d1_6) rfl kS) ?_
  show own_G p.tables e below _ (s₁.setTop (mkF m 7 #[.val (.ref a1), .val (.long q1), .second] [(.long q1)]))
  refine own_st (fun _ kS => XS.aloadN X0.here hx rfl (hb hby d1_7) rfl rfl kS) ?_
  show own_G p.tables e below _ (s₁.setTop (mkF m 8 #[.val (.ref a1), .val (.long q1), .second] [(.ref a1), (.long q1)]))
  obtain ⟨T1, X1, e1, st1⟩ := getF X0 hx hZ hown (host := "") (Or.inl (hw _ (List.mem_of_getElem? (i := 12) rfl))) Via.refl e0 (Fld.ext O0.2 F1) (g := (mkF m 8 #[.val (.ref a1), .val (.long q1), .second] [(.ref a1), (.long q1)])) rfl rfl (hb hby d1_8)
  refine own_st st1 ?_
  show own_G p.tables e below _ (T1.setTop (mkF m 11 #[.val (.ref a1), .val (.long q1), .second] [(.int m1), (.long q1)]))
  refine own_st (fun _ kS => XT.i2l X1.here hx rfl (hb hby d1_11) rfl kS) ?_
  show own_G p.tables e below _ (T1.setTop (mkF m 12 #[.val (.ref a1), .val (.long q1), .second] [(.long (m1.toInt64)), (.long q1)]))
  refine own_st (fun _ kS => XT.lcmp X1.here hx rfl (hb hby d1_12) rfl kS) ?_
  show own_G p.tables e below _ (T1.setTop (mkF m 13 #[.val (.ref a1), .val (.long q1), .second] [(.int (XT.cmpL q1 (m1.toInt64)))]))
  refine own_st (fun _ kS => XS.ifYes X1.here hx rfl (pc0 := 13) (pc' := 20) rfl (hb hby d1_13) rfl ((if0 _ _).trans (tlt (hy1 : (0 : Int32) < (XT.cmpL q1 (m1.toInt64)))).2.2.1) (by decide) (by decide) kS) ?_
  show own_G p.tables e below _ (T1.setTop (mkF m 20 #[.val (.ref a1), .val (.long q1), .second] []))
  refine own_st (fun _ kS => XS.iconst X1.here hx rfl (hb hby d1_20) kS) ?_
  show own_G p.tables e below _ (T1.setTop (mkF m 21 #[.val (.ref a1), .val (.long q1), .second] [(.int (0 : Int32))]))
  exact own_retN X1 hx hlk (t := .boolean) hret (by simp) (hb hby d1_21) (by decide) (by decide) (v' := (0 : Int32)) rfl (by rw [e1]; exact ⟨rfl, N0, rfl⟩)
theorem ef_alw_in (m : MethodId) (x0 : Addr) (x1 : Int64) : entryFrame m #[(.ref x0), (.long x1)] 3 = mkF m 0 #[.val (.ref x0), .val (.long x1), .second] [] := by first | (simp [entryFrame, mkF, argsToLocals, Value.category]; done) | rfl
def Q_alw_in (Z : State) (a1 : Addr) (q1 : Int64) (m1 : Int32) (h0 : Heap) (n0 : Nat) (v : Option Value) (h : Heap) (L : List Loc) : Prop := v = some (.int (1 : Int32)) ∧ Fr n0 L ∧ h = h0
set_option maxRecDepth 65536 in
set_option maxHeartbeats 40000000 in
theorem rm_alw_in (l : Launch) (Z : State) (a0 : Array Value) (hw : ∀ d ∈ tables_1, d.before a0 Z = true) (ws : List Jvm.Cond) (a1 : Addr) (q1 : Int64) (m1 : Int32) (h0 : Heap) (n0 : Nat) (Z0 : n0 ≤ h0.size) (O0 : Old Z n0 h0) (F1 : Fld Z Z.heap a1 "com/example/recurring_jobs/recurringjobs/model/Frequency" "maxInterval" "I" (.int m1)) (hy0 : ¬ ((XT.cmpL q1 (1 : Int64)) < (0 : Int32))) (hy1 : ¬ ((0 : Int32) < (XT.cmpL q1 (m1.toInt64)))) :
    MetFree l (⟨"com/example/recurring_jobs/recurringjobs/model/Frequency", "allowsInterval", "(J)Z"⟩ : MethodName) (head1 (Jvm.Cond.code (⟨"com/example/recurring_jobs/recurringjobs/model/Frequency", "allowsInterval", "(J)Z"⟩ : MethodName) prog_8_method_8_code 3 (some .boolean) :: ws) ({ frames := 0, cells := 0, slots := 0, locals := 0 } : Room)) (fun a U => a = #[(.ref a1), (.long q1)] ∧ Z.Warmed39 U.vm ∧ U.heap = h0) (fun _ _ _ _ _ => True) (fun _ U o U' => ∃ v L, o = .returned v ∧ Q_alw_in Z a1 q1 m1 h0 n0 v U'.heap L ∧ FrameEnd U o U' L ({ frames := 0, cells := 0, slots := 0, locals := 0 } : Room).cells ({ frames := 0, cells := 0, slots := 0, locals := 0 } : Room).slots) := by
  refine MetFree.of_bodySF (plainFor_of_name pn_1) hisR ?_
  intro p e s m args below meth c s₁ Bd hml0 hP hK
  obtain ⟨rfl, hZ, hh⟩ := hP
  have hx := Bd.exec
  have hby := Bd.bytes
  have hml : c.maxLocals = 3 := hml0
  have hown : s.vm.findClass "com/example/recurring_jobs/recurringjobs/model/Frequency" = some m.cls := findClass_of_methodNamed Bd.named
  have hnm := (name_of_methodNamed Bd.named Bd.method).1
  have hlk := Bd.notSynchronized
  have hret := Bd.returns
  have X0 : Stand p l e ({ frames := 0, cells := 0, slots := 0, locals := 0 } : Room) s m #[(.ref a1), (.long q1)] below meth c s₁ [] 0 0 := Stand.of_body Bd
  have e0 : s₁.heap = h0 := by rw [← hh, Bd.state]; rfl
  have N0 := Fr.nil n0
  refine own_in ({ frames := 0, cells := 0, slots := 0, locals := 0 } : Room).cells ({ frames := 0, cells := 0, slots := 0, locals := 0 } : Room).slots (Q_alw_in Z a1 q1 m1 h0 n0) (ef_alw_in m a1 q1) ?_
  show own_G p.tables e below _ (s₁.setTop (mkF m 0 #[.val (.ref a1), .val (.long q1), .second] []))
  refine own_st (fun _ kS => XT.lloadN X0.here hx rfl (hb hby d1_0) rfl kS) ?_
  show own_G p.tables e below _ (s₁.setTop (mkF m 1 #[.val (.ref a1), .val (.long q1), .second] [(.long q1)]))
  refine own_st (fun _ kS => XT.lconst X0.here hx rfl (hb hby d1_1) kS) ?_
  show own_G p.tables e below _ (s₁.setTop (mkF m 2 #[.val (.ref a1), .val (.long q1), .second] [(.long (1 : Int64)), (.long q1)]))
  refine own_st (fun _ kS => XT.lcmp X0.here hx rfl (hb hby d1_2) rfl kS) ?_
  show own_G p.tables e below _ (s₁.setTop (mkF m 3 #[.val (.ref a1), .val (.long q1), .second] [(.int (XT.cmpL q1 (1 : Int64)))]))
  refine own_st (fun _ kS => XS.ifNo X0.here hx rfl (hb hby d1_3) rfl ((if0 _ _).trans (flt (hy0 : ¬ ((XT.cmpL q1 (1 : Int64)) < (0 : Int32)))).1) kS) ?_
  show own_G p.tables e below _ (s₁.setTop (mkF m 6 #[.val (.ref a1), .val (.long q1), .second] []))
  refine own_st (fun _ kS => XT.lloadN X0.here hx rfl (hb hby d1_6) rfl kS) ?_
  show own_G p.tables e below _ (s₁.setTop (mkF m 7 #[.val (.ref a1), .val (.long q1), .second] [(.long q1)]))
  refine own_st (fun _ kS => XS.aloadN X0.here hx rfl (hb hby d1_7) rfl rfl kS) ?_
  show own_G p.tables e below _ (s₁.setTop (mkF m 8 #[.val (.ref a1), .val (.long q1), .second] [(.ref a1), (.long q1)]))
  obtain ⟨T1, X1, e1, st1⟩ := getF X0 hx hZ hown (host := "") (Or.inl (hw _ (List.mem_of_getElem? (i := 12) rfl))) Via.refl e0 (Fld.ext O0.2 F1) (g := (mkF m 8 #[.val (.ref a1), .val (.long q1), .second] [(.ref a1), (.long q1)])) rfl rfl (hb hby d1_8)
  refine own_st st1 ?_
  show own_G p.tables e below _ (T1.setTop (mkF m 11 #[.val (.ref a1), .val (.long q1), .second] [(.int m1), (.long q1)]))
  refine own_st (fun _ kS => XT.i2l X1.here hx rfl (hb hby d1_11) rfl kS) ?_
  show own_G p.tables e below _ (T1.setTop (mkF m 12 #[.val (.ref a1), .val (.long q1), .second] [(.long (m1.toInt64)), (.long q1)]))
  refine own_st (fun _ kS => XT.lcmp X1.here hx rfl (hb hby d1_12) rfl kS) ?_
  show own_G p.tables e below _ (T1.setTop (mkF m 13 #[.val (.ref a1), .val (.long q1), .second] [(.int (XT.cmpL q1 (m1.toInt64)))]))
  refine own_st (fun _ kS => XS.ifNo X1.here hx rfl (hb hby d1_13) rfl ((if0 _ _).trans (flt (hy1 : ¬ ((0 : Int32) < (XT.cmpL q1 (m1.toInt64))))).2.2.1) kS) ?_
  show own_G p.tables e below _ (T1.setTop (mkF m 16 #[.val (.ref a1), .val (.long q1), .second] []))
  refine own_st (fun _ kS => XS.iconst X1.here hx rfl (hb hby d1_16) kS) ?_
  show own_G p.tables e below _ (T1.setTop (mkF m 17 #[.val (.ref a1), .val (.long q1), .second] [(.int (1 : Int32))]))
  refine own_st (fun _ kS => XS.goto X1.here hx rfl (pc0 := 17) (pc' := 21) rfl (hb hby d1_17) (by decide) (by decide) kS) ?_
  show own_G p.tables e below _ (T1.setTop (mkF m 21 #[.val (.ref a1), .val (.long q1), .second] [(.int (1 : Int32))]))
  exact own_retN X1 hx hlk (t := .boolean) hret (by simp) (hb hby d1_21) (by decide) (by decide) (v' := (1 : Int32)) rfl (by rw [e1]; exact ⟨rfl, N0, rfl⟩)
theorem pn_0 : plainName "com/example/recurring_jobs/recurringjobs/model/FrequencyAllowsIntervalPinLaw" = true := by first | (simp [plainName, overriddenIn]; done) | decide +kernel
def Q_law (n0 : Nat) (v : Option Value) (h : Heap) (L : List Loc) : Prop := v = some (.int (1 : Int32)) ∧ Fr n0 L
theorem own_pd0 : parseMethodDescriptor "(J)Z" = some ⟨[.long], some .boolean⟩ := by decide +kernel
set_option maxRecDepth 65536 in
set_option maxHeartbeats 40000000 in
theorem sg_B {p : Program} {l : Launch} {e : Env} {s : State} {m : MethodId} {args : Array Value} {below : List Frame} {meth : Method} {c : Code} {T0 : State} {locs : List Loc} {Z : State} {a0 : Array Value} {h0 : Heap} {n0 : Nat} (hx : p.tables.exec = Jvm.exec) (hby : c.code = code) (hml : c.maxLocals = 13) (hown : s.vm.findClass "com/example/recurring_jobs/recurringjobs/model/FrequencyAllowsIntervalPinLaw" = some m.cls) (hlk : meth.locks = false) (hret : meth.sig.returnType = some .boolean) (hZ : Z.Warmed39 s.vm) (hw : ∀ d ∈ tables_1, d.before a0 Z = true) (Z0 : n0 ≤ h0.size)
    (X0 : Stand p l e room_1 s m args below meth c T0 locs 0 0) (e0 : T0.heap = h0) (N0 : Fr n0 locs) (O0 : Old Z n0 h0) (p1 : Int32) (p2 : Int32) (q3 : Int64) (k : Int32) (wf : Addr) (mx : Int64) (mi : Int32) (mm : Int32) (off : Int32) (iv : Int64) (Ef : Exa Z Z.heap wf "com/example/recurring_jobs/recurringjobs/model/Frequency") (Ff : Fld Z Z.heap wf "com/example/recurring_jobs/recurringjobs/model/Frequency" "maxInterval" "I" (.int mi)) (hmx : mi.toInt64 = mx) :
    own_G p.tables e below (own_E s (Q_law n0) room_1.cells room_1.slots) (T0.setTop (mkF m 203 #[.val (.int p1), .val (.int p2), .val (.long q3), .second, .val (.int k), .val (.ref wf), .val (.long mx), .second, .val (.int mm), .val (.int off), .val (.long iv), .second, .unset] [])) := by
  show own_G p.tables e below _ (T0.setTop (mkF m 203 #[.val (.int p1), .val (.int p2), .val (.long q3), .second, .val (.int k), .val (.ref wf), .val (.long mx), .second, .val (.int mm), .val (.int off), .val (.long iv), .second, .unset] []))
  refine own_st (fun _ kS => XT.lload X0.here hx rfl (hb hby at_203) rfl kS) ?_
  show own_G p.tables e below _ (T0.setTop (mkF m 205 #[.val (.int p1), .val (.int p2), .val (.long q3), .second, .val (.int k), .val (.ref wf), .val (.long mx), .second, .val (.int mm), .val (.int off), .val (.long iv), .second, .unset] [(.long iv)]))
  refine own_st (fun _ kS => XT.lconst X0.here hx rfl (hb hby at_205) kS) ?_
  show own_G p.tables e below _ (T0.setTop (mkF m 206 #[.val (.int p1), .val (.int p2), .val (.long q3), .second, .val (.int k), .val (.ref wf), .val (.long mx), .second, .val (.int mm), .val (.int off), .val (.long iv), .second, .unset] [(.long (1 : Int64)), (.long iv)]))
  refine own_st (fun _ kS => XT.lcmp X0.here hx rfl (hb hby at_206) rfl kS) ?_
  show own_G p.tables e below _ (T0.setTop (mkF m 207 #[.val (.int p1), .val (.int p2), .val (.long q3), .second, .val (.int k), .val (.ref wf), .val (.long mx), .second, .val (.int mm), .val (.int off), .val (.long iv), .second, .unset] [(.int (XT.cmpL iv (1 : Int64)))]))
  by_cases hc207_1 : (XT.cmpL iv (1 : Int64)) < (0 : Int32)
  · skip
    refine own_st (fun _ kS => XS.ifNo X0.here hx rfl (hb hby at_207) rfl ((if0 _ _).trans (tlt hc207_1).2.1) kS) ?_
    show own_G p.tables e below _ (T0.setTop (mkF m 210 #[.val (.int p1), .val (.int p2), .val (.long q3), .second, .val (.int k), .val (.ref wf), .val (.long mx), .second, .val (.int mm), .val (.int off), .val (.long iv), .second, .unset] []))
    refine own_st (fun _ kS => XS.iconst X0.here hx rfl (hb hby at_210) kS) ?_
    show own_G p.tables e below _ (T0.setTop (mkF m 211 #[.val (.int p1), .val (.int p2), .val (.long q3), .second, .val (.int k), .val (.ref wf), .val (.long mx), .second, .val (.int mm), .val (.int off), .val (.long iv), .second, .unset] [(.int (0 : Int32))]))
    refine own_st (fun _ kS => XS.istore X0.here hx rfl (hb hby at_211) rfl (l' := #[.val (.int p1), .val (.int p2), .val (.long q3), .second, .val (.int k), .val (.ref wf), .val (.long mx), .second, .val (.int mm), .val (.int off), .val (.long iv), .second, .val (.int (0 : Int32))]) rfl kS) ?_
    show own_G p.tables e below _ (T0.setTop (mkF m 213 #[.val (.int p1), .val (.int p2), .val (.long q3), .second, .val (.int k), .val (.ref wf), .val (.long mx), .second, .val (.int mm), .val (.int off), .val (.long iv), .second, .val (.int (0 : Int32))] []))
    refine own_st (fun _ kS => XS.goto X0.here hx rfl (pc0 := 213) (pc' := 233) rfl (hb hby at_213) (by decide) (by decide) kS) ?_
    show own_G p.tables e below _ (T0.setTop (mkF m 233 #[.val (.int p1), .val (.int p2), .val (.long q3), .second, .val (.int k), .val (.ref wf), .val (.long mx), .second, .val (.int mm), .val (.int off), .val (.long iv), .second, .val (.int (0 : Int32))] []))
    refine own_st (fun _ kS => XS.aload X0.here hx rfl (hb hby at_233) rfl rfl kS) ?_
    show own_G p.tables e below _ (T0.setTop (mkF m 235 #[.val (.int p1), .val (.int p2), .val (.long q3), .second, .val (.int k), .val (.ref wf), .val (.long mx), .second, .val (.int mm), .val (.int off), .val (.long iv), .second, .val (.int (0 : Int32))] [(.ref wf)]))
    refine own_st (fun _ kS => XT.lload X0.here hx rfl (hb hby at_235) rfl kS) ?_
    show own_G p.tables e below _ (T0.setTop (mkF m 237 #[.val (.int p1), .val (.int p2), .val (.long q3), .second, .val (.int k), .val (.ref wf), .val (.long mx), .second, .val (.int mm), .val (.int off), .val (.long iv), .second, .val (.int (0 : Int32))] [(.long iv), (.ref wf)]))
    obtain ⟨cq2, kq2, q2a, q2b, q2c⟩ := isOf hZ e0 (Exa.ext O0.2 Ef)
    obtain ⟨_, _, ⟨T2, L2, k2, n2⟩, -, X2, ⟨Lc2, hQ2, l2, y2, z2⟩, st2⟩ := X0.virtualBack hx (y := (⟨"com/example/recurring_jobs/recurringjobs/model/Frequency", "allowsInterval", "(J)Z"⟩ : MethodName)) (z := (⟨"com/example/recurring_jobs/recurringjobs/model/Frequency", "allowsInterval", "(J)Z"⟩ : MethodName)) hown (mvT hZ (hw _ (List.mem_of_getElem? (i := 6) rfl))) (mvT hZ (hw _ (List.mem_of_getElem? (i := 7) rfl))) (notFace_of_selects (args := #[]) (mvT hZ (hw _ (List.mem_of_getElem? (i := 9) rfl)))) (mvT hZ (hw _ (List.mem_of_getElem? (i := 9) rfl))) (mvT hZ (hw _ (List.mem_of_getElem? (i := 8) rfl))) (by decide) (backOf (W := 0) (rm_alw_lt l Z a0 hw [] wf iv h0 n0 Z0 O0 hc207_1) hZ (hw _ (List.mem_of_getElem? (i := 10) rfl)) (hw _ (List.mem_of_getElem? (i := 2) rfl)) (by decide) (by decide)) q2a q2c (g := (mkF m 237 #[.val (.int p1), .val (.int p2), .val (.long q3), .second, .val (.int k), .val (.ref wf), .val (.long mx), .second, .val (.int mm), .val (.int off), .val (.long iv), .second, .val (.int (0 : Int32))] [(.long iv), (.ref wf)])) rfl (by rw [hml]; rfl) (Steps.refl _) (argsL := [(.long iv)]) (rest := []) (lenOf own_pd0 rfl) rfl (by show 2 * 0 + _ ≤ _; exact Nat.le_of_eq rfl) (hb hby at_237) (fun _ _ => ⟨rfl, e0, (by decide : 0 + 0 ≤ _), (by decide : 0 + 0 ≤ _)⟩)
    dsimp only [Pt.U, Pt.locs, Pt.cells, Pt.slots] at X2 l2 y2 z2 st2 hQ2
    subst l2 y2 z2
    obtain ⟨rfl, Nq2, eq2⟩ := hQ2
    have N2 := Fr.app N0 Nq2
    refine own_tr st2 ?_
    show own_G p.tables e below _ (T2.setTop (mkF m 240 #[.val (.int p1), .val (.int p2), .val (.long q3), .second, .val (.int k), .val (.ref wf), .val (.long mx), .second, .val (.int mm), .val (.int off), .val (.long iv), .second, .val (.int (0 : Int32))] [(.int (0 : Int32))]))
    refine own_st (fun _ kS => XS.iload X2.here hx rfl (hb hby at_240) rfl kS) ?_
    show own_G p.tables e below _ (T2.setTop (mkF m 242 #[.val (.int p1), .val (.int p2), .val (.long q3), .second, .val (.int k), .val (.ref wf), .val (.long mx), .second, .val (.int mm), .val (.int off), .val (.long iv), .second, .val (.int (0 : Int32))] [(.int (0 : Int32)), (.int (0 : Int32))]))
    refine own_st (fun _ kS => XS.icmpNo X2.here hx rfl (hb hby at_242) rfl (teq (by decide : (0 : Int32) = (0 : Int32))).2 kS) ?_
    show own_G p.tables e below _ (T2.setTop (mkF m 245 #[.val (.int p1), .val (.int p2), .val (.long q3), .second, .val (.int k), .val (.ref wf), .val (.long mx), .second, .val (.int mm), .val (.int off), .val (.long iv), .second, .val (.int (0 : Int32))] []))
    refine own_st (fun _ kS => XS.iconst X2.here hx rfl (hb hby at_245) kS) ?_
    show own_G p.tables e below _ (T2.setTop (mkF m 246 #[.val (.int p1), .val (.int p2), .val (.long q3), .second, .val (.int k), .val (.ref wf), .val (.long mx), .second, .val (.int mm), .val (.int off), .val (.long iv), .second, .val (.int (0 : Int32))] [(.int (1 : Int32))]))
    refine own_st (fun _ kS => XS.goto X2.here hx rfl (pc0 := 246) (pc' := 250) rfl (hb hby at_246) (by decide) (by decide) kS) ?_
    show own_G p.tables e below _ (T2.setTop (mkF m 250 #[.val (.int p1), .val (.int p2), .val (.long q3), .second, .val (.int k), .val (.ref wf), .val (.long mx), .second, .val (.int mm), .val (.int off), .val (.long iv), .second, .val (.int (0 : Int32))] [(.int (1 : Int32))]))
    exact own_retN X2 hx hlk (t := .boolean) hret (by simp) (hb hby at_250) (by decide) (by decide) (v' := (1 : Int32)) rfl (by rw [eq2]; exact ⟨rfl, N2⟩)
  · skip
    refine own_st (fun _ kS => XS.ifYes X0.here hx rfl (pc0 := 207) (pc' := 216) rfl (hb hby at_207) rfl ((if0 _ _).trans (flt hc207_1).2.1) (by decide) (by decide) kS) ?_
    show own_G p.tables e below _ (T0.setTop (mkF m 216 #[.val (.int p1), .val (.int p2), .val (.long q3), .second, .val (.int k), .val (.ref wf), .val (.long mx), .second, .val (.int mm), .val (.int off), .val (.long iv), .second, .unset] []))
    refine own_st (fun _ kS => XT.lload X0.here hx rfl (hb hby at_216) rfl kS) ?_
    show own_G p.tables e below _ (T0.setTop (mkF m 218 #[.val (.int p1), .val (.int p2), .val (.long q3), .second, .val (.int k), .val (.ref wf), .val (.long mx), .second, .val (.int mm), .val (.int off), .val (.long iv), .second, .unset] [(.long iv)]))
    refine own_st (fun _ kS => XT.lload X0.here hx rfl (hb hby at_218) rfl kS) ?_
    show own_G p.tables e below _ (T0.setTop (mkF m 220 #[.val (.int p1), .val (.int p2), .val (.long q3), .second, .val (.int k), .val (.ref wf), .val (.long mx), .second, .val (.int mm), .val (.int off), .val (.long iv), .second, .unset] [(.long mx), (.long iv)]))
    refine own_st (fun _ kS => XT.lcmp X0.here hx rfl (hb hby at_220) rfl kS) ?_
    show own_G p.tables e below _ (T0.setTop (mkF m 221 #[.val (.int p1), .val (.int p2), .val (.long q3), .second, .val (.int k), .val (.ref wf), .val (.long mx), .second, .val (.int mm), .val (.int off), .val (.long iv), .second, .unset] [(.int (XT.cmpL iv mx))]))
    by_cases hc221_3 : (0 : Int32) < (XT.cmpL iv mx)
    · skip
      refine own_st (fun _ kS => XS.ifNo X0.here hx rfl (hb hby at_221) rfl ((if0 _ _).trans (tlt hc221_3).2.2.2) kS) ?_
      show own_G p.tables e below _ (T0.setTop (mkF m 224 #[.val (.int p1), .val (.int p2), .val (.long q3), .second, .val (.int k), .val (.ref wf), .val (.long mx), .second, .val (.int mm), .val (.int off), .val (.long iv), .second, .unset] []))
      refine own_st (fun _ kS => XS.iconst X0.here hx rfl (hb hby at_224) kS) ?_
      show own_G p.tables e below _ (T0.setTop (mkF m 225 #[.val (.int p1), .val (.int p2), .val (.long q3), .second, .val (.int k), .val (.ref wf), .val (.long mx), .second, .val (.int mm), .val (.int off), .val (.long iv), .second, .unset] [(.int (0 : Int32))]))
      refine own_st (fun _ kS => XS.istore X0.here hx rfl (hb hby at_225) rfl (l' := #[.val (.int p1), .val (.int p2), .val (.long q3), .second, .val (.int k), .val (.ref wf), .val (.long mx), .second, .val (.int mm), .val (.int off), .val (.long iv), .second, .val (.int (0 : Int32))]) rfl kS) ?_
      show own_G p.tables e below _ (T0.setTop (mkF m 227 #[.val (.int p1), .val (.int p2), .val (.long q3), .second, .val (.int k), .val (.ref wf), .val (.long mx), .second, .val (.int mm), .val (.int off), .val (.long iv), .second, .val (.int (0 : Int32))] []))
      refine own_st (fun _ kS => XS.goto X0.here hx rfl (pc0 := 227) (pc' := 233) rfl (hb hby at_227) (by decide) (by decide) kS) ?_
      show own_G p.tables e below _ (T0.setTop (mkF m 233 #[.val (.int p1), .val (.int p2), .val (.long q3), .second, .val (.int k), .val (.ref wf), .val (.long mx), .second, .val (.int mm), .val (.int off), .val (.long iv), .second, .val (.int (0 : Int32))] []))
      refine own_st (fun _ kS => XS.aload X0.here hx rfl (hb hby at_233) rfl rfl kS) ?_
      show own_G p.tables e below _ (T0.setTop (mkF m 235 #[.val (.int p1), .val (.int p2), .val (.long q3), .second, .val (.int k), .val (.ref wf), .val (.long mx), .second, .val (.int mm), .val (.int off), .val (.long iv), .second, .val (.int (0 : Int32))] [(.ref wf)]))
      refine own_st (fun _ kS => XT.lload X0.here hx rfl (hb hby at_235) rfl kS) ?_
      show own_G p.tables e below _ (T0.setTop (mkF m 237 #[.val (.int p1), .val (.int p2), .val (.long q3), .second, .val (.int k), .val (.ref wf), .val (.long mx), .second, .val (.int mm), .val (.int off), .val (.long iv), .second, .val (.int (0 : Int32))] [(.long iv), (.ref wf)]))
      obtain ⟨cq4, kq4, q4a, q4b, q4c⟩ := isOf hZ e0 (Exa.ext O0.2 Ef)
      obtain ⟨_, _, ⟨T4, L4, k4, n4⟩, -, X4, ⟨Lc4, hQ4, l4, y4, z4⟩, st4⟩ := X0.virtualBack hx (y := (⟨"com/example/recurring_jobs/recurringjobs/model/Frequency", "allowsInterval", "(J)Z"⟩ : MethodName)) (z := (⟨"com/example/recurring_jobs/recurringjobs/model/Frequency", "allowsInterval", "(J)Z"⟩ : MethodName)) hown (mvT hZ (hw _ (List.mem_of_getElem? (i := 6) rfl))) (mvT hZ (hw _ (List.mem_of_getElem? (i := 7) rfl))) (notFace_of_selects (args := #[]) (mvT hZ (hw _ (List.mem_of_getElem? (i := 9) rfl)))) (mvT hZ (hw _ (List.mem_of_getElem? (i := 9) rfl))) (mvT hZ (hw _ (List.mem_of_getElem? (i := 8) rfl))) (by decide) (backOf (W := 0) (rm_alw_gt l Z a0 hw [] wf iv mi h0 n0 Z0 O0 Ff hc207_1 (by rw [hmx]; exact hc221_3)) hZ (hw _ (List.mem_of_getElem? (i := 10) rfl)) (hw _ (List.mem_of_getElem? (i := 2) rfl)) (by decide) (by decide)) q4a q4c (g := (mkF m 237 #[.val (.int p1), .val (.int p2), .val (.long q3), .second, .val (.int k), .val (.ref wf), .val (.long mx), .second, .val (.int mm), .val (.int off), .val (.long iv), .second, .val (.int (0 : Int32))] [(.long iv), (.ref wf)])) rfl (by rw [hml]; rfl) (Steps.refl _) (argsL := [(.long iv)]) (rest := []) (lenOf own_pd0 rfl) rfl (by show 2 * 0 + _ ≤ _; exact Nat.le_of_eq rfl) (hb hby at_237) (fun _ _ => ⟨rfl, e0, (by decide : 0 + 0 ≤ _), (by decide : 0 + 0 ≤ _)⟩)
      dsimp only [Pt.U, Pt.locs, Pt.cells, Pt.slots] at X4 l4 y4 z4 st4 hQ4
      subst l4 y4 z4
      obtain ⟨rfl, Nq4, eq4⟩ := hQ4
      have N4 := Fr.app N0 Nq4
      refine own_tr st4 ?_
      show own_G p.tables e below _ (T4.setTop (mkF m 240 #[.val (.int p1), .val (.int p2), .val (.long q3), .second, .val (.int k), .val (.ref wf), .val (.long mx), .second, .val (.int mm), .val (.int off), .val (.long iv), .second, .val (.int (0 : Int32))] [(.int (0 : Int32))]))
      refine own_st (fun _ kS => XS.iload X4.here hx rfl (hb hby at_240) rfl kS) ?_
      show own_G p.tables e below _ (T4.setTop (mkF m 242 #[.val (.int p1), .val (.int p2), .val (.long q3), .second, .val (.int k), .val (.ref wf), .val (.long mx), .second, .val (.int mm), .val (.int off), .val (.long iv), .second, .val (.int (0 : Int32))] [(.int (0 : Int32)), (.int (0 : Int32))]))
      refine own_st (fun _ kS => XS.icmpNo X4.here hx rfl (hb hby at_242) rfl (teq (by decide : (0 : Int32) = (0 : Int32))).2 kS) ?_
      show own_G p.tables e below _ (T4.setTop (mkF m 245 #[.val (.int p1), .val (.int p2), .val (.long q3), .second, .val (.int k), .val (.ref wf), .val (.long mx), .second, .val (.int mm), .val (.int off), .val (.long iv), .second, .val (.int (0 : Int32))] []))
      refine own_st (fun _ kS => XS.iconst X4.here hx rfl (hb hby at_245) kS) ?_
      show own_G p.tables e below _ (T4.setTop (mkF m 246 #[.val (.int p1), .val (.int p2), .val (.long q3), .second, .val (.int k), .val (.ref wf), .val (.long mx), .second, .val (.int mm), .val (.int off), .val (.long iv), .second, .val (.int (0 : Int32))] [(.int (1 : Int32))]))
      refine own_st (fun _ kS => XS.goto X4.here hx rfl (pc0 := 246) (pc' := 250) rfl (hb hby at_246) (by decide) (by decide) kS) ?_
      show own_G p.tables e below _ (T4.setTop (mkF m 250 #[.val (.int p1), .val (.int p2), .val (.long q3), .second, .val (.int k), .val (.ref wf), .val (.long mx), .second, .val (.int mm), .val (.int off), .val (.long iv), .second, .val (.int (0 : Int32))] [(.int (1 : Int32))]))
      exact own_retN X4 hx hlk (t := .boolean) hret (by simp) (hb hby at_250) (by decide) (by decide) (v' := (1 : Int32)) rfl (by rw [eq4]; exact ⟨rfl, N4⟩)
    · skip
      refine own_st (fun _ kS => XS.ifYes X0.here hx rfl (pc0 := 221) (pc' := 230) rfl (hb hby at_221) rfl ((if0 _ _).trans (flt hc221_3).2.2.2) (by decide) (by decide) kS) ?_
      show own_G p.tables e below _ (T0.setTop (mkF m 230 #[.val (.int p1), .val (.int p2), .val (.long q3), .second, .val (.int k), .val (.ref wf), .val (.long mx), .second, .val (.int mm), .val (.int off), .val (.long iv), .second, .unset] []))
      refine own_st (fun _ kS => XS.iconst X0.here hx rfl (hb hby at_230) kS) ?_
      show own_G p.tables e below _ (T0.setTop (mkF m 231 #[.val (.int p1), .val (.int p2), .val (.long q3), .second, .val (.int k), .val (.ref wf), .val (.long mx), .second, .val (.int mm), .val (.int off), .val (.long iv), .second, .unset] [(.int (1 : Int32))]))
      refine own_st (fun _ kS => XS.istore X0.here hx rfl (hb hby at_231) rfl (l' := #[.val (.int p1), .val (.int p2), .val (.long q3), .second, .val (.int k), .val (.ref wf), .val (.long mx), .second, .val (.int mm), .val (.int off), .val (.long iv), .second, .val (.int (1 : Int32))]) rfl kS) ?_
      show own_G p.tables e below _ (T0.setTop (mkF m 233 #[.val (.int p1), .val (.int p2), .val (.long q3), .second, .val (.int k), .val (.ref wf), .val (.long mx), .second, .val (.int mm), .val (.int off), .val (.long iv), .second, .val (.int (1 : Int32))] []))
      refine own_st (fun _ kS => XS.aload X0.here hx rfl (hb hby at_233) rfl rfl kS) ?_
      show own_G p.tables e below _ (T0.setTop (mkF m 235 #[.val (.int p1), .val (.int p2), .val (.long q3), .second, .val (.int k), .val (.ref wf), .val (.long mx), .second, .val (.int mm), .val (.int off), .val (.long iv), .second, .val (.int (1 : Int32))] [(.ref wf)]))
      refine own_st (fun _ kS => XT.lload X0.here hx rfl (hb hby at_235) rfl kS) ?_
      show own_G p.tables e below _ (T0.setTop (mkF m 237 #[.val (.int p1), .val (.int p2), .val (.long q3), .second, .val (.int k), .val (.ref wf), .val (.long mx), .second, .val (.int mm), .val (.int off), .val (.long iv), .second, .val (.int (1 : Int32))] [(.long iv), (.ref wf)]))
      obtain ⟨cq5, kq5, q5a, q5b, q5c⟩ := isOf hZ e0 (Exa.ext O0.2 Ef)
      obtain ⟨_, _, ⟨T5, L5, k5, n5⟩, -, X5, ⟨Lc5, hQ5, l5, y5, z5⟩, st5⟩ := X0.virtualBack hx (y := (⟨"com/example/recurring_jobs/recurringjobs/model/Frequency", "allowsInterval", "(J)Z"⟩ : MethodName)) (z := (⟨"com/example/recurring_jobs/recurringjobs/model/Frequency", "allowsInterval", "(J)Z"⟩ : MethodName)) hown (mvT hZ (hw _ (List.mem_of_getElem? (i := 6) rfl))) (mvT hZ (hw _ (List.mem_of_getElem? (i := 7) rfl))) (notFace_of_selects (args := #[]) (mvT hZ (hw _ (List.mem_of_getElem? (i := 9) rfl)))) (mvT hZ (hw _ (List.mem_of_getElem? (i := 9) rfl))) (mvT hZ (hw _ (List.mem_of_getElem? (i := 8) rfl))) (by decide) (backOf (W := 0) (rm_alw_in l Z a0 hw [] wf iv mi h0 n0 Z0 O0 Ff hc207_1 (by rw [hmx]; exact hc221_3)) hZ (hw _ (List.mem_of_getElem? (i := 10) rfl)) (hw _ (List.mem_of_getElem? (i := 2) rfl)) (by decide) (by decide)) q5a q5c (g := (mkF m 237 #[.val (.int p1), .val (.int p2), .val (.long q3), .second, .val (.int k), .val (.ref wf), .val (.long mx), .second, .val (.int mm), .val (.int off), .val (.long iv), .second, .val (.int (1 : Int32))] [(.long iv), (.ref wf)])) rfl (by rw [hml]; rfl) (Steps.refl _) (argsL := [(.long iv)]) (rest := []) (lenOf own_pd0 rfl) rfl (by show 2 * 0 + _ ≤ _; exact Nat.le_of_eq rfl) (hb hby at_237) (fun _ _ => ⟨rfl, e0, (by decide : 0 + 0 ≤ _), (by decide : 0 + 0 ≤ _)⟩)
      dsimp only [Pt.U, Pt.locs, Pt.cells, Pt.slots] at X5 l5 y5 z5 st5 hQ5
      subst l5 y5 z5
      obtain ⟨rfl, Nq5, eq5⟩ := hQ5
      have N5 := Fr.app N0 Nq5
      refine own_tr st5 ?_
      show own_G p.tables e below _ (T5.setTop (mkF m 240 #[.val (.int p1), .val (.int p2), .val (.long q3), .second, .val (.int k), .val (.ref wf), .val (.long mx), .second, .val (.int mm), .val (.int off), .val (.long iv), .second, .val (.int (1 : Int32))] [(.int (1 : Int32))]))
      refine own_st (fun _ kS => XS.iload X5.here hx rfl (hb hby at_240) rfl kS) ?_
      show own_G p.tables e below _ (T5.setTop (mkF m 242 #[.val (.int p1), .val (.int p2), .val (.long q3), .second, .val (.int k), .val (.ref wf), .val (.long mx), .second, .val (.int mm), .val (.int off), .val (.long iv), .second, .val (.int (1 : Int32))] [(.int (1 : Int32)), (.int (1 : Int32))]))
      refine own_st (fun _ kS => XS.icmpNo X5.here hx rfl (hb hby at_242) rfl (teq (by decide : (1 : Int32) = (1 : Int32))).2 kS) ?_
      show own_G p.tables e below _ (T5.setTop (mkF m 245 #[.val (.int p1), .val (.int p2), .val (.long q3), .second, .val (.int k), .val (.ref wf), .val (.long mx), .second, .val (.int mm), .val (.int off), .val (.long iv), .second, .val (.int (1 : Int32))] []))
      refine own_st (fun _ kS => XS.iconst X5.here hx rfl (hb hby at_245) kS) ?_
      show own_G p.tables e below _ (T5.setTop (mkF m 246 #[.val (.int p1), .val (.int p2), .val (.long q3), .second, .val (.int k), .val (.ref wf), .val (.long mx), .second, .val (.int mm), .val (.int off), .val (.long iv), .second, .val (.int (1 : Int32))] [(.int (1 : Int32))]))
      refine own_st (fun _ kS => XS.goto X5.here hx rfl (pc0 := 246) (pc' := 250) rfl (hb hby at_246) (by decide) (by decide) kS) ?_
      show own_G p.tables e below _ (T5.setTop (mkF m 250 #[.val (.int p1), .val (.int p2), .val (.long q3), .second, .val (.int k), .val (.ref wf), .val (.long mx), .second, .val (.int mm), .val (.int off), .val (.long iv), .second, .val (.int (1 : Int32))] [(.int (1 : Int32))]))
      exact own_retN X5 hx hlk (t := .boolean) hret (by simp) (hb hby at_250) (by decide) (by decide) (v' := (1 : Int32)) rfl (by rw [eq5]; exact ⟨rfl, N5⟩)
set_option maxRecDepth 65536 in
set_option maxHeartbeats 40000000 in
theorem sg_A {p : Program} {l : Launch} {e : Env} {s : State} {m : MethodId} {args : Array Value} {below : List Frame} {meth : Method} {c : Code} {T0 : State} {locs : List Loc} {Z : State} {a0 : Array Value} {h0 : Heap} {n0 : Nat} (hx : p.tables.exec = Jvm.exec) (hby : c.code = code) (hml : c.maxLocals = 13) (hown : s.vm.findClass "com/example/recurring_jobs/recurringjobs/model/FrequencyAllowsIntervalPinLaw" = some m.cls) (hlk : meth.locks = false) (hret : meth.sig.returnType = some .boolean) (hZ : Z.Warmed39 s.vm) (hw : ∀ d ∈ tables_1, d.before a0 Z = true) (Z0 : n0 ≤ h0.size)
    (X0 : Stand p l e room_1 s m args below meth c T0 locs 0 0) (e0 : T0.heap = h0) (N0 : Fr n0 locs) (O0 : Old Z n0 h0) (p1 : Int32) (p2 : Int32) (q3 : Int64) (k : Int32) (wf : Addr) (mx : Int64) (mi : Int32) (Ef : Exa Z Z.heap wf "com/example/recurring_jobs/recurringjobs/model/Frequency") (Ff : Fld Z Z.heap wf "com/example/recurring_jobs/recurringjobs/model/Frequency" "maxInterval" "I" (.int mi)) (hmx : mi.toInt64 = mx) :
    own_G p.tables e below (own_E s (Q_law n0) room_1.cells room_1.slots) (T0.setTop (mkF m 111 #[.val (.int p1), .val (.int p2), .val (.long q3), .second, .val (.int k), .val (.ref wf), .val (.long mx), .second, .unset, .unset, .unset, .unset, .unset] [])) := by
  show own_G p.tables e below _ (T0.setTop (mkF m 111 #[.val (.int p1), .val (.int p2), .val (.long q3), .second, .val (.int k), .val (.ref wf), .val (.long mx), .second, .unset, .unset, .unset, .unset, .unset] []))
  refine own_st (fun _ kS => XS.iloadN X0.here hx rfl (hb hby at_111) rfl kS) ?_
  show own_G p.tables e below _ (T0.setTop (mkF m 112 #[.val (.int p1), .val (.int p2), .val (.long q3), .second, .val (.int k), .val (.ref wf), .val (.long mx), .second, .unset, .unset, .unset, .unset, .unset] [(.int p2)]))
  refine own_st (fun _ kS => XS.iconst X0.here hx rfl (hb hby at_112) kS) ?_
  show own_G p.tables e below _ (T0.setTop (mkF m 113 #[.val (.int p1), .val (.int p2), .val (.long q3), .second, .val (.int k), .val (.ref wf), .val (.long mx), .second, .unset, .unset, .unset, .unset, .unset] [(.int (3 : Int32)), (.int p2)]))
  refine own_st (fun _ kS => XS.iand X0.here hx rfl (hb hby at_113) rfl kS) ?_
  show own_G p.tables e below _ (T0.setTop (mkF m 114 #[.val (.int p1), .val (.int p2), .val (.long q3), .second, .val (.int k), .val (.ref wf), .val (.long mx), .second, .unset, .unset, .unset, .unset, .unset] [(.int (p2 &&& (3 : Int32)))]))
  rcases own_and3 p2 with hk1 | hk1 | hk1 | hk1
  · rw [hk1]
    show own_G p.tables e below _ (T0.setTop (mkF m 114 #[.val (.int p1), .val (.int p2), .val (.long q3), .second, .val (.int k), .val (.ref wf), .val (.long mx), .second, .unset, .unset, .unset, .unset, .unset] [(.int (0 : Int32))]))
    refine own_st (fun _ kS => XS.istore X0.here hx rfl (hb hby at_114) rfl (l' := #[.val (.int p1), .val (.int p2), .val (.long q3), .second, .val (.int k), .val (.ref wf), .val (.long mx), .second, .val (.int (0 : Int32)), .unset, .unset, .unset, .unset]) rfl kS) ?_
    show own_G p.tables e below _ (T0.setTop (mkF m 116 #[.val (.int p1), .val (.int p2), .val (.long q3), .second, .val (.int k), .val (.ref wf), .val (.long mx), .second, .val (.int (0 : Int32)), .unset, .unset, .unset, .unset] []))
    refine own_st (fun _ kS => XS.iloadN X0.here hx rfl (hb hby at_116) rfl kS) ?_
    show own_G p.tables e below _ (T0.setTop (mkF m 117 #[.val (.int p1), .val (.int p2), .val (.long q3), .second, .val (.int k), .val (.ref wf), .val (.long mx), .second, .val (.int (0 : Int32)), .unset, .unset, .unset, .unset] [(.int p2)]))
    refine own_st (fun _ kS => XS.iconst X0.here hx rfl (hb hby at_117) kS) ?_
    show own_G p.tables e below _ (T0.setTop (mkF m 118 #[.val (.int p1), .val (.int p2), .val (.long q3), .second, .val (.int k), .val (.ref wf), .val (.long mx), .second, .val (.int (0 : Int32)), .unset, .unset, .unset, .unset] [(.int (2 : Int32)), (.int p2)]))
    refine own_st (fun _ kS => XT.iushr X0.here hx rfl (hb hby at_118) rfl kS) ?_
    show own_G p.tables e below _ (T0.setTop (mkF m 119 #[.val (.int p1), .val (.int p2), .val (.long q3), .second, .val (.int k), .val (.ref wf), .val (.long mx), .second, .val (.int (0 : Int32)), .unset, .unset, .unset, .unset] [(.int (XT.ushr p2 (2 : Int32)))]))
    refine own_st (fun _ kS => XS.bipush X0.here hx rfl (hb hby at_119) kS) ?_
    show own_G p.tables e below _ (T0.setTop (mkF m 121 #[.val (.int p1), .val (.int p2), .val (.long q3), .second, .val (.int k), .val (.ref wf), .val (.long mx), .second, .val (.int (0 : Int32)), .unset, .unset, .unset, .unset] [(.int (7 : Int32)), (.int (XT.ushr p2 (2 : Int32)))]))
    refine own_st (fun _ kS => XS.iand X0.here hx rfl (hb hby at_121) rfl kS) ?_
    show own_G p.tables e below _ (T0.setTop (mkF m 122 #[.val (.int p1), .val (.int p2), .val (.long q3), .second, .val (.int k), .val (.ref wf), .val (.long mx), .second, .val (.int (0 : Int32)), .unset, .unset, .unset, .unset] [(.int ((XT.ushr p2 (2 : Int32)) &&& (7 : Int32)))]))
    refine own_st (fun _ kS => XS.iconst X0.here hx rfl (hb hby at_122) kS) ?_
    show own_G p.tables e below _ (T0.setTop (mkF m 123 #[.val (.int p1), .val (.int p2), .val (.long q3), .second, .val (.int k), .val (.ref wf), .val (.long mx), .second, .val (.int (0 : Int32)), .unset, .unset, .unset, .unset] [(.int (3 : Int32)), (.int ((XT.ushr p2 (2 : Int32)) &&& (7 : Int32)))]))
    refine own_st (fun _ kS => XS.isub X0.here hx rfl (hb hby at_123) rfl kS) ?_
    show own_G p.tables e below _ (T0.setTop (mkF m 124 #[.val (.int p1), .val (.int p2), .val (.long q3), .second, .val (.int k), .val (.ref wf), .val (.long mx), .second, .val (.int (0 : Int32)), .unset, .unset, .unset, .unset] [(.int (((XT.ushr p2 (2 : Int32)) &&& (7 : Int32)) - (3 : Int32)))]))
    refine own_st (fun _ kS => XS.istore X0.here hx rfl (hb hby at_124) rfl (l' := #[.val (.int p1), .val (.int p2), .val (.long q3), .second, .val (.int k), .val (.ref wf), .val (.long mx), .second, .val (.int (0 : Int32)), .val (.int (((XT.ushr p2 (2 : Int32)) &&& (7 : Int32)) - (3 : Int32))), .unset, .unset, .unset]) rfl kS) ?_
    show own_G p.tables e below _ (T0.setTop (mkF m 126 #[.val (.int p1), .val (.int p2), .val (.long q3), .second, .val (.int k), .val (.ref wf), .val (.long mx), .second, .val (.int (0 : Int32)), .val (.int (((XT.ushr p2 (2 : Int32)) &&& (7 : Int32)) - (3 : Int32))), .unset, .unset, .unset] []))
    refine own_st (fun _ kS => XS.iload X0.here hx rfl (hb hby at_126) rfl kS) ?_
    show own_G p.tables e below _ (T0.setTop (mkF m 128 #[.val (.int p1), .val (.int p2), .val (.long q3), .second, .val (.int k), .val (.ref wf), .val (.long mx), .second, .val (.int (0 : Int32)), .val (.int (((XT.ushr p2 (2 : Int32)) &&& (7 : Int32)) - (3 : Int32))), .unset, .unset, .unset] [(.int (0 : Int32))]))
    refine own_st (fun _ kS => XS.ifNo X0.here hx rfl (hb hby at_128) rfl ((if0 _ _).trans (teq (by decide : (0 : Int32) = (0 : Int32))).2) kS) ?_
    show own_G p.tables e below _ (T0.setTop (mkF m 131 #[.val (.int p1), .val (.int p2), .val (.long q3), .second, .val (.int k), .val (.ref wf), .val (.long mx), .second, .val (.int (0 : Int32)), .val (.int (((XT.ushr p2 (2 : Int32)) &&& (7 : Int32)) - (3 : Int32))), .unset, .unset, .unset] []))
    refine own_st (fun _ kS => XT.lloadN X0.here hx rfl (hb hby at_131) rfl kS) ?_
    show own_G p.tables e below _ (T0.setTop (mkF m 132 #[.val (.int p1), .val (.int p2), .val (.long q3), .second, .val (.int k), .val (.ref wf), .val (.long mx), .second, .val (.int (0 : Int32)), .val (.int (((XT.ushr p2 (2 : Int32)) &&& (7 : Int32)) - (3 : Int32))), .unset, .unset, .unset] [(.long q3)]))
    refine own_st (fun _ kS => XT.lstore X0.here hx rfl (hb hby at_132) rfl (l' := #[.val (.int p1), .val (.int p2), .val (.long q3), .second, .val (.int k), .val (.ref wf), .val (.long mx), .second, .val (.int (0 : Int32)), .val (.int (((XT.ushr p2 (2 : Int32)) &&& (7 : Int32)) - (3 : Int32))), .val (.long q3), .second, .unset]) rfl kS) ?_
    show own_G p.tables e below _ (T0.setTop (mkF m 134 #[.val (.int p1), .val (.int p2), .val (.long q3), .second, .val (.int k), .val (.ref wf), .val (.long mx), .second, .val (.int (0 : Int32)), .val (.int (((XT.ushr p2 (2 : Int32)) &&& (7 : Int32)) - (3 : Int32))), .val (.long q3), .second, .unset] []))
    refine own_st (fun _ kS => XS.goto X0.here hx rfl (pc0 := 134) (pc' := 203) rfl (hb hby at_134) (by decide) (by decide) kS) ?_
    show own_G p.tables e below _ (T0.setTop (mkF m 203 #[.val (.int p1), .val (.int p2), .val (.long q3), .second, .val (.int k), .val (.ref wf), .val (.long mx), .second, .val (.int (0 : Int32)), .val (.int (((XT.ushr p2 (2 : Int32)) &&& (7 : Int32)) - (3 : Int32))), .val (.long q3), .second, .unset] []))
    exact sg_B hx hby hml hown hlk hret hZ hw Z0  X0 e0 N0 O0 p1 p2 q3 k wf mx mi (0 : Int32) (((XT.ushr p2 (2 : Int32)) &&& (7 : Int32)) - (3 : Int32)) q3 Ef Ff hmx
  · rw [hk1]
    show own_G p.tables e below _ (T0.setTop (mkF m 114 #[.val (.int p1), .val (.int p2), .val (.long q3), .second, .val (.int k), .val (.ref wf), .val (.long mx), .second, .unset, .unset, .unset, .unset, .unset] [(.int (1 : Int32))]))
    refine own_st (fun _ kS => XS.istore X0.here hx rfl (hb hby at_114) rfl (l' := #[.val (.int p1), .val (.int p2), .val (.long q3), .second, .val (.int k), .val (.ref wf), .val (.long mx), .second, .val (.int (1 : Int32)), .unset, .unset, .unset, .unset]) rfl kS) ?_
    show own_G p.tables e below _ (T0.setTop (mkF m 116 #[.val (.int p1), .val (.int p2), .val (.long q3), .second, .val (.int k), .val (.ref wf), .val (.long mx), .second, .val (.int (1 : Int32)), .unset, .unset, .unset, .unset] []))
    refine own_st (fun _ kS => XS.iloadN X0.here hx rfl (hb hby at_116) rfl kS) ?_
    show own_G p.tables e below _ (T0.setTop (mkF m 117 #[.val (.int p1), .val (.int p2), .val (.long q3), .second, .val (.int k), .val (.ref wf), .val (.long mx), .second, .val (.int (1 : Int32)), .unset, .unset, .unset, .unset] [(.int p2)]))
    refine own_st (fun _ kS => XS.iconst X0.here hx rfl (hb hby at_117) kS) ?_
    show own_G p.tables e below _ (T0.setTop (mkF m 118 #[.val (.int p1), .val (.int p2), .val (.long q3), .second, .val (.int k), .val (.ref wf), .val (.long mx), .second, .val (.int (1 : Int32)), .unset, .unset, .unset, .unset] [(.int (2 : Int32)), (.int p2)]))
    refine own_st (fun _ kS => XT.iushr X0.here hx rfl (hb hby at_118) rfl kS) ?_
    show own_G p.tables e below _ (T0.setTop (mkF m 119 #[.val (.int p1), .val (.int p2), .val (.long q3), .second, .val (.int k), .val (.ref wf), .val (.long mx), .second, .val (.int (1 : Int32)), .unset, .unset, .unset, .unset] [(.int (XT.ushr p2 (2 : Int32)))]))
    refine own_st (fun _ kS => XS.bipush X0.here hx rfl (hb hby at_119) kS) ?_
    show own_G p.tables e below _ (T0.setTop (mkF m 121 #[.val (.int p1), .val (.int p2), .val (.long q3), .second, .val (.int k), .val (.ref wf), .val (.long mx), .second, .val (.int (1 : Int32)), .unset, .unset, .unset, .unset] [(.int (7 : Int32)), (.int (XT.ushr p2 (2 : Int32)))]))
    refine own_st (fun _ kS => XS.iand X0.here hx rfl (hb hby at_121) rfl kS) ?_
    show own_G p.tables e below _ (T0.setTop (mkF m 122 #[.val (.int p1), .val (.int p2), .val (.long q3), .second, .val (.int k), .val (.ref wf), .val (.long mx), .second, .val (.int (1 : Int32)), .unset, .unset, .unset, .unset] [(.int ((XT.ushr p2 (2 : Int32)) &&& (7 : Int32)))]))
    refine own_st (fun _ kS => XS.iconst X0.here hx rfl (hb hby at_122) kS) ?_
    show own_G p.tables e below _ (T0.setTop (mkF m 123 #[.val (.int p1), .val (.int p2), .val (.long q3), .second, .val (.int k), .val (.ref wf), .val (.long mx), .second, .val (.int (1 : Int32)), .unset, .unset, .unset, .unset] [(.int (3 : Int32)), (.int ((XT.ushr p2 (2 : Int32)) &&& (7 : Int32)))]))
    refine own_st (fun _ kS => XS.isub X0.here hx rfl (hb hby at_123) rfl kS) ?_
    show own_G p.tables e below _ (T0.setTop (mkF m 124 #[.val (.int p1), .val (.int p2), .val (.long q3), .second, .val (.int k), .val (.ref wf), .val (.long mx), .second, .val (.int (1 : Int32)), .unset, .unset, .unset, .unset] [(.int (((XT.ushr p2 (2 : Int32)) &&& (7 : Int32)) - (3 : Int32)))]))
    refine own_st (fun _ kS => XS.istore X0.here hx rfl (hb hby at_124) rfl (l' := #[.val (.int p1), .val (.int p2), .val (.long q3), .second, .val (.int k), .val (.ref wf), .val (.long mx), .second, .val (.int (1 : Int32)), .val (.int (((XT.ushr p2 (2 : Int32)) &&& (7 : Int32)) - (3 : Int32))), .unset, .unset, .unset]) rfl kS) ?_
    show own_G p.tables e below _ (T0.setTop (mkF m 126 #[.val (.int p1), .val (.int p2), .val (.long q3), .second, .val (.int k), .val (.ref wf), .val (.long mx), .second, .val (.int (1 : Int32)), .val (.int (((XT.ushr p2 (2 : Int32)) &&& (7 : Int32)) - (3 : Int32))), .unset, .unset, .unset] []))
    refine own_st (fun _ kS => XS.iload X0.here hx rfl (hb hby at_126) rfl kS) ?_
    show own_G p.tables e below _ (T0.setTop (mkF m 128 #[.val (.int p1), .val (.int p2), .val (.long q3), .second, .val (.int k), .val (.ref wf), .val (.long mx), .second, .val (.int (1 : Int32)), .val (.int (((XT.ushr p2 (2 : Int32)) &&& (7 : Int32)) - (3 : Int32))), .unset, .unset, .unset] [(.int (1 : Int32))]))
    refine own_st (fun _ kS => XS.ifYes X0.here hx rfl (pc0 := 128) (pc' := 137) rfl (hb hby at_128) rfl ((if0 _ _).trans (feq (by decide : ¬ ((1 : Int32) = (0 : Int32)))).2) (by decide) (by decide) kS) ?_
    show own_G p.tables e below _ (T0.setTop (mkF m 137 #[.val (.int p1), .val (.int p2), .val (.long q3), .second, .val (.int k), .val (.ref wf), .val (.long mx), .second, .val (.int (1 : Int32)), .val (.int (((XT.ushr p2 (2 : Int32)) &&& (7 : Int32)) - (3 : Int32))), .unset, .unset, .unset] []))
    refine own_st (fun _ kS => XS.iload X0.here hx rfl (hb hby at_137) rfl kS) ?_
    show own_G p.tables e below _ (T0.setTop (mkF m 139 #[.val (.int p1), .val (.int p2), .val (.long q3), .second, .val (.int k), .val (.ref wf), .val (.long mx), .second, .val (.int (1 : Int32)), .val (.int (((XT.ushr p2 (2 : Int32)) &&& (7 : Int32)) - (3 : Int32))), .unset, .unset, .unset] [(.int (1 : Int32))]))
    refine own_st (fun _ kS => XS.iconst X0.here hx rfl (hb hby at_139) kS) ?_
    show own_G p.tables e below _ (T0.setTop (mkF m 140 #[.val (.int p1), .val (.int p2), .val (.long q3), .second, .val (.int k), .val (.ref wf), .val (.long mx), .second, .val (.int (1 : Int32)), .val (.int (((XT.ushr p2 (2 : Int32)) &&& (7 : Int32)) - (3 : Int32))), .unset, .unset, .unset] [(.int (1 : Int32)), (.int (1 : Int32))]))
    refine own_st (fun _ kS => XS.icmpNo X0.here hx rfl (hb hby at_140) rfl (teq (by decide : (1 : Int32) = (1 : Int32))).2 kS) ?_
    show own_G p.tables e below _ (T0.setTop (mkF m 143 #[.val (.int p1), .val (.int p2), .val (.long q3), .second, .val (.int k), .val (.ref wf), .val (.long mx), .second, .val (.int (1 : Int32)), .val (.int (((XT.ushr p2 (2 : Int32)) &&& (7 : Int32)) - (3 : Int32))), .unset, .unset, .unset] []))
    refine own_st (fun _ kS => XT.lload X0.here hx rfl (hb hby at_143) rfl kS) ?_
    show own_G p.tables e below _ (T0.setTop (mkF m 145 #[.val (.int p1), .val (.int p2), .val (.long q3), .second, .val (.int k), .val (.ref wf), .val (.long mx), .second, .val (.int (1 : Int32)), .val (.int (((XT.ushr p2 (2 : Int32)) &&& (7 : Int32)) - (3 : Int32))), .unset, .unset, .unset] [(.long mx)]))
    refine own_st (fun _ kS => XS.iload X0.here hx rfl (hb hby at_145) rfl kS) ?_
    show own_G p.tables e below _ (T0.setTop (mkF m 147 #[.val (.int p1), .val (.int p2), .val (.long q3), .second, .val (.int k), .val (.ref wf), .val (.long mx), .second, .val (.int (1 : Int32)), .val (.int (((XT.ushr p2 (2 : Int32)) &&& (7 : Int32)) - (3 : Int32))), .unset, .unset, .unset] [(.int (((XT.ushr p2 (2 : Int32)) &&& (7 : Int32)) - (3 : Int32))), (.long mx)]))
    refine own_st (fun _ kS => XT.i2l X0.here hx rfl (hb hby at_147) rfl kS) ?_
    show own_G p.tables e below _ (T0.setTop (mkF m 148 #[.val (.int p1), .val (.int p2), .val (.long q3), .second, .val (.int k), .val (.ref wf), .val (.long mx), .second, .val (.int (1 : Int32)), .val (.int (((XT.ushr p2 (2 : Int32)) &&& (7 : Int32)) - (3 : Int32))), .unset, .unset, .unset] [(.long ((((XT.ushr p2 (2 : Int32)) &&& (7 : Int32)) - (3 : Int32)).toInt64)), (.long mx)]))
    refine own_st (fun _ kS => XT.ladd X0.here hx rfl (hb hby at_148) rfl kS) ?_
    show own_G p.tables e below _ (T0.setTop (mkF m 149 #[.val (.int p1), .val (.int p2), .val (.long q3), .second, .val (.int k), .val (.ref wf), .val (.long mx), .second, .val (.int (1 : Int32)), .val (.int (((XT.ushr p2 (2 : Int32)) &&& (7 : Int32)) - (3 : Int32))), .unset, .unset, .unset] [(.long (mx + ((((XT.ushr p2 (2 : Int32)) &&& (7 : Int32)) - (3 : Int32)).toInt64)))]))
    refine own_st (fun _ kS => XT.lstore X0.here hx rfl (hb hby at_149) rfl (l' := #[.val (.int p1), .val (.int p2), .val (.long q3), .second, .val (.int k), .val (.ref wf), .val (.long mx), .second, .val (.int (1 : Int32)), .val (.int (((XT.ushr p2 (2 : Int32)) &&& (7 : Int32)) - (3 : Int32))), .val (.long (mx + ((((XT.ushr p2 (2 : Int32)) &&& (7 : Int32)) - (3 : Int32)).toInt64))), .second, .unset]) rfl kS) ?_
    show own_G p.tables e below _ (T0.setTop (mkF m 151 #[.val (.int p1), .val (.int p2), .val (.long q3), .second, .val (.int k), .val (.ref wf), .val (.long mx), .second, .val (.int (1 : Int32)), .val (.int (((XT.ushr p2 (2 : Int32)) &&& (7 : Int32)) - (3 : Int32))), .val (.long (mx + ((((XT.ushr p2 (2 : Int32)) &&& (7 : Int32)) - (3 : Int32)).toInt64))), .second, .unset] []))
    refine own_st (fun _ kS => XS.goto X0.here hx rfl (pc0 := 151) (pc' := 203) rfl (hb hby at_151) (by decide) (by decide) kS) ?_
    show own_G p.tables e below _ (T0.setTop (mkF m 203 #[.val (.int p1), .val (.int p2), .val (.long q3), .second, .val (.int k), .val (.ref wf), .val (.long mx), .second, .val (.int (1 : Int32)), .val (.int (((XT.ushr p2 (2 : Int32)) &&& (7 : Int32)) - (3 : Int32))), .val (.long (mx + ((((XT.ushr p2 (2 : Int32)) &&& (7 : Int32)) - (3 : Int32)).toInt64))), .second, .unset] []))
    exact sg_B hx hby hml hown hlk hret hZ hw Z0  X0 e0 N0 O0 p1 p2 q3 k wf mx mi (1 : Int32) (((XT.ushr p2 (2 : Int32)) &&& (7 : Int32)) - (3 : Int32)) (mx + ((((XT.ushr p2 (2 : Int32)) &&& (7 : Int32)) - (3 : Int32)).toInt64)) Ef Ff hmx
  · rw [hk1]
    show own_G p.tables e below _ (T0.setTop (mkF m 114 #[.val (.int p1), .val (.int p2), .val (.long q3), .second, .val (.int k), .val (.ref wf), .val (.long mx), .second, .unset, .unset, .unset, .unset, .unset] [(.int (2 : Int32))]))
    refine own_st (fun _ kS => XS.istore X0.here hx rfl (hb hby at_114) rfl (l' := #[.val (.int p1), .val (.int p2), .val (.long q3), .second, .val (.int k), .val (.ref wf), .val (.long mx), .second, .val (.int (2 : Int32)), .unset, .unset, .unset, .unset]) rfl kS) ?_
    show own_G p.tables e below _ (T0.setTop (mkF m 116 #[.val (.int p1), .val (.int p2), .val (.long q3), .second, .val (.int k), .val (.ref wf), .val (.long mx), .second, .val (.int (2 : Int32)), .unset, .unset, .unset, .unset] []))
    refine own_st (fun _ kS => XS.iloadN X0.here hx rfl (hb hby at_116) rfl kS) ?_
    show own_G p.tables e below _ (T0.setTop (mkF m 117 #[.val (.int p1), .val (.int p2), .val (.long q3), .second, .val (.int k), .val (.ref wf), .val (.long mx), .second, .val (.int (2 : Int32)), .unset, .unset, .unset, .unset] [(.int p2)]))
    refine own_st (fun _ kS => XS.iconst X0.here hx rfl (hb hby at_117) kS) ?_
    show own_G p.tables e below _ (T0.setTop (mkF m 118 #[.val (.int p1), .val (.int p2), .val (.long q3), .second, .val (.int k), .val (.ref wf), .val (.long mx), .second, .val (.int (2 : Int32)), .unset, .unset, .unset, .unset] [(.int (2 : Int32)), (.int p2)]))
    refine own_st (fun _ kS => XT.iushr X0.here hx rfl (hb hby at_118) rfl kS) ?_
    show own_G p.tables e below _ (T0.setTop (mkF m 119 #[.val (.int p1), .val (.int p2), .val (.long q3), .second, .val (.int k), .val (.ref wf), .val (.long mx), .second, .val (.int (2 : Int32)), .unset, .unset, .unset, .unset] [(.int (XT.ushr p2 (2 : Int32)))]))
    refine own_st (fun _ kS => XS.bipush X0.here hx rfl (hb hby at_119) kS) ?_
    show own_G p.tables e below _ (T0.setTop (mkF m 121 #[.val (.int p1), .val (.int p2), .val (.long q3), .second, .val (.int k), .val (.ref wf), .val (.long mx), .second, .val (.int (2 : Int32)), .unset, .unset, .unset, .unset] [(.int (7 : Int32)), (.int (XT.ushr p2 (2 : Int32)))]))
    refine own_st (fun _ kS => XS.iand X0.here hx rfl (hb hby at_121) rfl kS) ?_
    show own_G p.tables e below _ (T0.setTop (mkF m 122 #[.val (.int p1), .val (.int p2), .val (.long q3), .second, .val (.int k), .val (.ref wf), .val (.long mx), .second, .val (.int (2 : Int32)), .unset, .unset, .unset, .unset] [(.int ((XT.ushr p2 (2 : Int32)) &&& (7 : Int32)))]))
    refine own_st (fun _ kS => XS.iconst X0.here hx rfl (hb hby at_122) kS) ?_
    show own_G p.tables e below _ (T0.setTop (mkF m 123 #[.val (.int p1), .val (.int p2), .val (.long q3), .second, .val (.int k), .val (.ref wf), .val (.long mx), .second, .val (.int (2 : Int32)), .unset, .unset, .unset, .unset] [(.int (3 : Int32)), (.int ((XT.ushr p2 (2 : Int32)) &&& (7 : Int32)))]))
    refine own_st (fun _ kS => XS.isub X0.here hx rfl (hb hby at_123) rfl kS) ?_
    show own_G p.tables e below _ (T0.setTop (mkF m 124 #[.val (.int p1), .val (.int p2), .val (.long q3), .second, .val (.int k), .val (.ref wf), .val (.long mx), .second, .val (.int (2 : Int32)), .unset, .unset, .unset, .unset] [(.int (((XT.ushr p2 (2 : Int32)) &&& (7 : Int32)) - (3 : Int32)))]))
    refine own_st (fun _ kS => XS.istore X0.here hx rfl (hb hby at_124) rfl (l' := #[.val (.int p1), .val (.int p2), .val (.long q3), .second, .val (.int k), .val (.ref wf), .val (.long mx), .second, .val (.int (2 : Int32)), .val (.int (((XT.ushr p2 (2 : Int32)) &&& (7 : Int32)) - (3 : Int32))), .unset, .unset, .unset]) rfl kS) ?_
    show own_G p.tables e below _ (T0.setTop (mkF m 126 #[.val (.int p1), .val (.int p2), .val (.long q3), .second, .val (.int k), .val (.ref wf), .val (.long mx), .second, .val (.int (2 : Int32)), .val (.int (((XT.ushr p2 (2 : Int32)) &&& (7 : Int32)) - (3 : Int32))), .unset, .unset, .unset] []))
    refine own_st (fun _ kS => XS.iload X0.here hx rfl (hb hby at_126) rfl kS) ?_
    show own_G p.tables e below _ (T0.setTop (mkF m 128 #[.val (.int p1), .val (.int p2), .val (.long q3), .second, .val (.int k), .val (.ref wf), .val (.long mx), .second, .val (.int (2 : Int32)), .val (.int (((XT.ushr p2 (2 : Int32)) &&& (7 : Int32)) - (3 : Int32))), .unset, .unset, .unset] [(.int (2 : Int32))]))
    refine own_st (fun _ kS => XS.ifYes X0.here hx rfl (pc0 := 128) (pc' := 137) rfl (hb hby at_128) rfl ((if0 _ _).trans (feq (by decide : ¬ ((2 : Int32) = (0 : Int32)))).2) (by decide) (by decide) kS) ?_
    show own_G p.tables e below _ (T0.setTop (mkF m 137 #[.val (.int p1), .val (.int p2), .val (.long q3), .second, .val (.int k), .val (.ref wf), .val (.long mx), .second, .val (.int (2 : Int32)), .val (.int (((XT.ushr p2 (2 : Int32)) &&& (7 : Int32)) - (3 : Int32))), .unset, .unset, .unset] []))
    refine own_st (fun _ kS => XS.iload X0.here hx rfl (hb hby at_137) rfl kS) ?_
    show own_G p.tables e below _ (T0.setTop (mkF m 139 #[.val (.int p1), .val (.int p2), .val (.long q3), .second, .val (.int k), .val (.ref wf), .val (.long mx), .second, .val (.int (2 : Int32)), .val (.int (((XT.ushr p2 (2 : Int32)) &&& (7 : Int32)) - (3 : Int32))), .unset, .unset, .unset] [(.int (2 : Int32))]))
    refine own_st (fun _ kS => XS.iconst X0.here hx rfl (hb hby at_139) kS) ?_
    show own_G p.tables e below _ (T0.setTop (mkF m 140 #[.val (.int p1), .val (.int p2), .val (.long q3), .second, .val (.int k), .val (.ref wf), .val (.long mx), .second, .val (.int (2 : Int32)), .val (.int (((XT.ushr p2 (2 : Int32)) &&& (7 : Int32)) - (3 : Int32))), .unset, .unset, .unset] [(.int (1 : Int32)), (.int (2 : Int32))]))
    refine own_st (fun _ kS => XS.icmpYes X0.here hx rfl (pc0 := 140) (pc' := 154) rfl (hb hby at_140) rfl (feq (by decide : ¬ ((2 : Int32) = (1 : Int32)))).2 (by decide) (by decide) kS) ?_
    show own_G p.tables e below _ (T0.setTop (mkF m 154 #[.val (.int p1), .val (.int p2), .val (.long q3), .second, .val (.int k), .val (.ref wf), .val (.long mx), .second, .val (.int (2 : Int32)), .val (.int (((XT.ushr p2 (2 : Int32)) &&& (7 : Int32)) - (3 : Int32))), .unset, .unset, .unset] []))
    refine own_st (fun _ kS => XS.iload X0.here hx rfl (hb hby at_154) rfl kS) ?_
    show own_G p.tables e below _ (T0.setTop (mkF m 156 #[.val (.int p1), .val (.int p2), .val (.long q3), .second, .val (.int k), .val (.ref wf), .val (.long mx), .second, .val (.int (2 : Int32)), .val (.int (((XT.ushr p2 (2 : Int32)) &&& (7 : Int32)) - (3 : Int32))), .unset, .unset, .unset] [(.int (2 : Int32))]))
    refine own_st (fun _ kS => XS.iconst X0.here hx rfl (hb hby at_156) kS) ?_
    show own_G p.tables e below _ (T0.setTop (mkF m 157 #[.val (.int p1), .val (.int p2), .val (.long q3), .second, .val (.int k), .val (.ref wf), .val (.long mx), .second, .val (.int (2 : Int32)), .val (.int (((XT.ushr p2 (2 : Int32)) &&& (7 : Int32)) - (3 : Int32))), .unset, .unset, .unset] [(.int (2 : Int32)), (.int (2 : Int32))]))
    refine own_st (fun _ kS => XS.icmpNo X0.here hx rfl (hb hby at_157) rfl (teq (by decide : (2 : Int32) = (2 : Int32))).2 kS) ?_
    show own_G p.tables e below _ (T0.setTop (mkF m 160 #[.val (.int p1), .val (.int p2), .val (.long q3), .second, .val (.int k), .val (.ref wf), .val (.long mx), .second, .val (.int (2 : Int32)), .val (.int (((XT.ushr p2 (2 : Int32)) &&& (7 : Int32)) - (3 : Int32))), .unset, .unset, .unset] []))
    refine own_st (fun _ kS => XT.lconst X0.here hx rfl (hb hby at_160) kS) ?_
    show own_G p.tables e below _ (T0.setTop (mkF m 161 #[.val (.int p1), .val (.int p2), .val (.long q3), .second, .val (.int k), .val (.ref wf), .val (.long mx), .second, .val (.int (2 : Int32)), .val (.int (((XT.ushr p2 (2 : Int32)) &&& (7 : Int32)) - (3 : Int32))), .unset, .unset, .unset] [(.long (1 : Int64))]))
    refine own_st (fun _ kS => XS.iload X0.here hx rfl (hb hby at_161) rfl kS) ?_
    show own_G p.tables e below _ (T0.setTop (mkF m 163 #[.val (.int p1), .val (.int p2), .val (.long q3), .second, .val (.int k), .val (.ref wf), .val (.long mx), .second, .val (.int (2 : Int32)), .val (.int (((XT.ushr p2 (2 : Int32)) &&& (7 : Int32)) - (3 : Int32))), .unset, .unset, .unset] [(.int (((XT.ushr p2 (2 : Int32)) &&& (7 : Int32)) - (3 : Int32))), (.long (1 : Int64))]))
    refine own_st (fun _ kS => XT.i2l X0.here hx rfl (hb hby at_163) rfl kS) ?_
    show own_G p.tables e below _ (T0.setTop (mkF m 164 #[.val (.int p1), .val (.int p2), .val (.long q3), .second, .val (.int k), .val (.ref wf), .val (.long mx), .second, .val (.int (2 : Int32)), .val (.int (((XT.ushr p2 (2 : Int32)) &&& (7 : Int32)) - (3 : Int32))), .unset, .unset, .unset] [(.long ((((XT.ushr p2 (2 : Int32)) &&& (7 : Int32)) - (3 : Int32)).toInt64)), (.long (1 : Int64))]))
    refine own_st (fun _ kS => XT.ladd X0.here hx rfl (hb hby at_164) rfl kS) ?_
    show own_G p.tables e below _ (T0.setTop (mkF m 165 #[.val (.int p1), .val (.int p2), .val (.long q3), .second, .val (.int k), .val (.ref wf), .val (.long mx), .second, .val (.int (2 : Int32)), .val (.int (((XT.ushr p2 (2 : Int32)) &&& (7 : Int32)) - (3 : Int32))), .unset, .unset, .unset] [(.long ((1 : Int64) + ((((XT.ushr p2 (2 : Int32)) &&& (7 : Int32)) - (3 : Int32)).toInt64)))]))
    refine own_st (fun _ kS => XT.lstore X0.here hx rfl (hb hby at_165) rfl (l' := #[.val (.int p1), .val (.int p2), .val (.long q3), .second, .val (.int k), .val (.ref wf), .val (.long mx), .second, .val (.int (2 : Int32)), .val (.int (((XT.ushr p2 (2 : Int32)) &&& (7 : Int32)) - (3 : Int32))), .val (.long ((1 : Int64) + ((((XT.ushr p2 (2 : Int32)) &&& (7 : Int32)) - (3 : Int32)).toInt64))), .second, .unset]) rfl kS) ?_
    show own_G p.tables e below _ (T0.setTop (mkF m 167 #[.val (.int p1), .val (.int p2), .val (.long q3), .second, .val (.int k), .val (.ref wf), .val (.long mx), .second, .val (.int (2 : Int32)), .val (.int (((XT.ushr p2 (2 : Int32)) &&& (7 : Int32)) - (3 : Int32))), .val (.long ((1 : Int64) + ((((XT.ushr p2 (2 : Int32)) &&& (7 : Int32)) - (3 : Int32)).toInt64))), .second, .unset] []))
    refine own_st (fun _ kS => XS.goto X0.here hx rfl (pc0 := 167) (pc' := 203) rfl (hb hby at_167) (by decide) (by decide) kS) ?_
    show own_G p.tables e below _ (T0.setTop (mkF m 203 #[.val (.int p1), .val (.int p2), .val (.long q3), .second, .val (.int k), .val (.ref wf), .val (.long mx), .second, .val (.int (2 : Int32)), .val (.int (((XT.ushr p2 (2 : Int32)) &&& (7 : Int32)) - (3 : Int32))), .val (.long ((1 : Int64) + ((((XT.ushr p2 (2 : Int32)) &&& (7 : Int32)) - (3 : Int32)).toInt64))), .second, .unset] []))
    exact sg_B hx hby hml hown hlk hret hZ hw Z0  X0 e0 N0 O0 p1 p2 q3 k wf mx mi (2 : Int32) (((XT.ushr p2 (2 : Int32)) &&& (7 : Int32)) - (3 : Int32)) ((1 : Int64) + ((((XT.ushr p2 (2 : Int32)) &&& (7 : Int32)) - (3 : Int32)).toInt64)) Ef Ff hmx
  · rw [hk1]
    show own_G p.tables e below _ (T0.setTop (mkF m 114 #[.val (.int p1), .val (.int p2), .val (.long q3), .second, .val (.int k), .val (.ref wf), .val (.long mx), .second, .unset, .unset, .unset, .unset, .unset] [(.int (3 : Int32))]))
    refine own_st (fun _ kS => XS.istore X0.here hx rfl (hb hby at_114) rfl (l' := #[.val (.int p1), .val (.int p2), .val (.long q3), .second, .val (.int k), .val (.ref wf), .val (.long mx), .second, .val (.int (3 : Int32)), .unset, .unset, .unset, .unset]) rfl kS) ?_
    show own_G p.tables e below _ (T0.setTop (mkF m 116 #[.val (.int p1), .val (.int p2), .val (.long q3), .second, .val (.int k), .val (.ref wf), .val (.long mx), .second, .val (.int (3 : Int32)), .unset, .unset, .unset, .unset] []))
    refine own_st (fun _ kS => XS.iloadN X0.here hx rfl (hb hby at_116) rfl kS) ?_
    show own_G p.tables e below _ (T0.setTop (mkF m 117 #[.val (.int p1), .val (.int p2), .val (.long q3), .second, .val (.int k), .val (.ref wf), .val (.long mx), .second, .val (.int (3 : Int32)), .unset, .unset, .unset, .unset] [(.int p2)]))
    refine own_st (fun _ kS => XS.iconst X0.here hx rfl (hb hby at_117) kS) ?_
    show own_G p.tables e below _ (T0.setTop (mkF m 118 #[.val (.int p1), .val (.int p2), .val (.long q3), .second, .val (.int k), .val (.ref wf), .val (.long mx), .second, .val (.int (3 : Int32)), .unset, .unset, .unset, .unset] [(.int (2 : Int32)), (.int p2)]))
    refine own_st (fun _ kS => XT.iushr X0.here hx rfl (hb hby at_118) rfl kS) ?_
    show own_G p.tables e below _ (T0.setTop (mkF m 119 #[.val (.int p1), .val (.int p2), .val (.long q3), .second, .val (.int k), .val (.ref wf), .val (.long mx), .second, .val (.int (3 : Int32)), .unset, .unset, .unset, .unset] [(.int (XT.ushr p2 (2 : Int32)))]))
    refine own_st (fun _ kS => XS.bipush X0.here hx rfl (hb hby at_119) kS) ?_
    show own_G p.tables e below _ (T0.setTop (mkF m 121 #[.val (.int p1), .val (.int p2), .val (.long q3), .second, .val (.int k), .val (.ref wf), .val (.long mx), .second, .val (.int (3 : Int32)), .unset, .unset, .unset, .unset] [(.int (7 : Int32)), (.int (XT.ushr p2 (2 : Int32)))]))
    refine own_st (fun _ kS => XS.iand X0.here hx rfl (hb hby at_121) rfl kS) ?_
    show own_G p.tables e below _ (T0.setTop (mkF m 122 #[.val (.int p1), .val (.int p2), .val (.long q3), .second, .val (.int k), .val (.ref wf), .val (.long mx), .second, .val (.int (3 : Int32)), .unset, .unset, .unset, .unset] [(.int ((XT.ushr p2 (2 : Int32)) &&& (7 : Int32)))]))
    refine own_st (fun _ kS => XS.iconst X0.here hx rfl (hb hby at_122) kS) ?_
    show own_G p.tables e below _ (T0.setTop (mkF m 123 #[.val (.int p1), .val (.int p2), .val (.long q3), .second, .val (.int k), .val (.ref wf), .val (.long mx), .second, .val (.int (3 : Int32)), .unset, .unset, .unset, .unset] [(.int (3 : Int32)), (.int ((XT.ushr p2 (2 : Int32)) &&& (7 : Int32)))]))
    refine own_st (fun _ kS => XS.isub X0.here hx rfl (hb hby at_123) rfl kS) ?_
    show own_G p.tables e below _ (T0.setTop (mkF m 124 #[.val (.int p1), .val (.int p2), .val (.long q3), .second, .val (.int k), .val (.ref wf), .val (.long mx), .second, .val (.int (3 : Int32)), .unset, .unset, .unset, .unset] [(.int (((XT.ushr p2 (2 : Int32)) &&& (7 : Int32)) - (3 : Int32)))]))
    refine own_st (fun _ kS => XS.istore X0.here hx rfl (hb hby at_124) rfl (l' := #[.val (.int p1), .val (.int p2), .val (.long q3), .second, .val (.int k), .val (.ref wf), .val (.long mx), .second, .val (.int (3 : Int32)), .val (.int (((XT.ushr p2 (2 : Int32)) &&& (7 : Int32)) - (3 : Int32))), .unset, .unset, .unset]) rfl kS) ?_
    show own_G p.tables e below _ (T0.setTop (mkF m 126 #[.val (.int p1), .val (.int p2), .val (.long q3), .second, .val (.int k), .val (.ref wf), .val (.long mx), .second, .val (.int (3 : Int32)), .val (.int (((XT.ushr p2 (2 : Int32)) &&& (7 : Int32)) - (3 : Int32))), .unset, .unset, .unset] []))
    refine own_st (fun _ kS => XS.iload X0.here hx rfl (hb hby at_126) rfl kS) ?_
    show own_G p.tables e below _ (T0.setTop (mkF m 128 #[.val (.int p1), .val (.int p2), .val (.long q3), .second, .val (.int k), .val (.ref wf), .val (.long mx), .second, .val (.int (3 : Int32)), .val (.int (((XT.ushr p2 (2 : Int32)) &&& (7 : Int32)) - (3 : Int32))), .unset, .unset, .unset] [(.int (3 : Int32))]))
    refine own_st (fun _ kS => XS.ifYes X0.here hx rfl (pc0 := 128) (pc' := 137) rfl (hb hby at_128) rfl ((if0 _ _).trans (feq (by decide : ¬ ((3 : Int32) = (0 : Int32)))).2) (by decide) (by decide) kS) ?_
    show own_G p.tables e below _ (T0.setTop (mkF m 137 #[.val (.int p1), .val (.int p2), .val (.long q3), .second, .val (.int k), .val (.ref wf), .val (.long mx), .second, .val (.int (3 : Int32)), .val (.int (((XT.ushr p2 (2 : Int32)) &&& (7 : Int32)) - (3 : Int32))), .unset, .unset, .unset] []))
    refine own_st (fun _ kS => XS.iload X0.here hx rfl (hb hby at_137) rfl kS) ?_
    show own_G p.tables e below _ (T0.setTop (mkF m 139 #[.val (.int p1), .val (.int p2), .val (.long q3), .second, .val (.int k), .val (.ref wf), .val (.long mx), .second, .val (.int (3 : Int32)), .val (.int (((XT.ushr p2 (2 : Int32)) &&& (7 : Int32)) - (3 : Int32))), .unset, .unset, .unset] [(.int (3 : Int32))]))
    refine own_st (fun _ kS => XS.iconst X0.here hx rfl (hb hby at_139) kS) ?_
    show own_G p.tables e below _ (T0.setTop (mkF m 140 #[.val (.int p1), .val (.int p2), .val (.long q3), .second, .val (.int k), .val (.ref wf), .val (.long mx), .second, .val (.int (3 : Int32)), .val (.int (((XT.ushr p2 (2 : Int32)) &&& (7 : Int32)) - (3 : Int32))), .unset, .unset, .unset] [(.int (1 : Int32)), (.int (3 : Int32))]))
    refine own_st (fun _ kS => XS.icmpYes X0.here hx rfl (pc0 := 140) (pc' := 154) rfl (hb hby at_140) rfl (feq (by decide : ¬ ((3 : Int32) = (1 : Int32)))).2 (by decide) (by decide) kS) ?_
    show own_G p.tables e below _ (T0.setTop (mkF m 154 #[.val (.int p1), .val (.int p2), .val (.long q3), .second, .val (.int k), .val (.ref wf), .val (.long mx), .second, .val (.int (3 : Int32)), .val (.int (((XT.ushr p2 (2 : Int32)) &&& (7 : Int32)) - (3 : Int32))), .unset, .unset, .unset] []))
    refine own_st (fun _ kS => XS.iload X0.here hx rfl (hb hby at_154) rfl kS) ?_
    show own_G p.tables e below _ (T0.setTop (mkF m 156 #[.val (.int p1), .val (.int p2), .val (.long q3), .second, .val (.int k), .val (.ref wf), .val (.long mx), .second, .val (.int (3 : Int32)), .val (.int (((XT.ushr p2 (2 : Int32)) &&& (7 : Int32)) - (3 : Int32))), .unset, .unset, .unset] [(.int (3 : Int32))]))
    refine own_st (fun _ kS => XS.iconst X0.here hx rfl (hb hby at_156) kS) ?_
    show own_G p.tables e below _ (T0.setTop (mkF m 157 #[.val (.int p1), .val (.int p2), .val (.long q3), .second, .val (.int k), .val (.ref wf), .val (.long mx), .second, .val (.int (3 : Int32)), .val (.int (((XT.ushr p2 (2 : Int32)) &&& (7 : Int32)) - (3 : Int32))), .unset, .unset, .unset] [(.int (2 : Int32)), (.int (3 : Int32))]))
    refine own_st (fun _ kS => XS.icmpYes X0.here hx rfl (pc0 := 157) (pc' := 170) rfl (hb hby at_157) rfl (feq (by decide : ¬ ((3 : Int32) = (2 : Int32)))).2 (by decide) (by decide) kS) ?_
    show own_G p.tables e below _ (T0.setTop (mkF m 170 #[.val (.int p1), .val (.int p2), .val (.long q3), .second, .val (.int k), .val (.ref wf), .val (.long mx), .second, .val (.int (3 : Int32)), .val (.int (((XT.ushr p2 (2 : Int32)) &&& (7 : Int32)) - (3 : Int32))), .unset, .unset, .unset] []))
    refine own_st (fun _ kS => XT.lloadN X0.here hx rfl (hb hby at_170) rfl kS) ?_
    show own_G p.tables e below _ (T0.setTop (mkF m 171 #[.val (.int p1), .val (.int p2), .val (.long q3), .second, .val (.int k), .val (.ref wf), .val (.long mx), .second, .val (.int (3 : Int32)), .val (.int (((XT.ushr p2 (2 : Int32)) &&& (7 : Int32)) - (3 : Int32))), .unset, .unset, .unset] [(.long q3)]))
    refine own_st (fun _ kS => XT.lconst X0.here hx rfl (hb hby at_171) kS) ?_
    show own_G p.tables e below _ (T0.setTop (mkF m 172 #[.val (.int p1), .val (.int p2), .val (.long q3), .second, .val (.int k), .val (.ref wf), .val (.long mx), .second, .val (.int (3 : Int32)), .val (.int (((XT.ushr p2 (2 : Int32)) &&& (7 : Int32)) - (3 : Int32))), .unset, .unset, .unset] [(.long (1 : Int64)), (.long q3)]))
    refine own_st (fun _ kS => XT.land X0.here hx rfl (hb hby at_172) rfl kS) ?_
    show own_G p.tables e below _ (T0.setTop (mkF m 173 #[.val (.int p1), .val (.int p2), .val (.long q3), .second, .val (.int k), .val (.ref wf), .val (.long mx), .second, .val (.int (3 : Int32)), .val (.int (((XT.ushr p2 (2 : Int32)) &&& (7 : Int32)) - (3 : Int32))), .unset, .unset, .unset] [(.long (q3 &&& (1 : Int64)))]))
    refine own_st (fun _ kS => XT.lconst X0.here hx rfl (hb hby at_173) kS) ?_
    show own_G p.tables e below _ (T0.setTop (mkF m 174 #[.val (.int p1), .val (.int p2), .val (.long q3), .second, .val (.int k), .val (.ref wf), .val (.long mx), .second, .val (.int (3 : Int32)), .val (.int (((XT.ushr p2 (2 : Int32)) &&& (7 : Int32)) - (3 : Int32))), .unset, .unset, .unset] [(.long (0 : Int64)), (.long (q3 &&& (1 : Int64)))]))
    refine own_st (fun _ kS => XT.lcmp X0.here hx rfl (hb hby at_174) rfl kS) ?_
    show own_G p.tables e below _ (T0.setTop (mkF m 175 #[.val (.int p1), .val (.int p2), .val (.long q3), .second, .val (.int k), .val (.ref wf), .val (.long mx), .second, .val (.int (3 : Int32)), .val (.int (((XT.ushr p2 (2 : Int32)) &&& (7 : Int32)) - (3 : Int32))), .unset, .unset, .unset] [(.int (XT.cmpL (q3 &&& (1 : Int64)) (0 : Int64)))]))
    by_cases hc175_2 : (XT.cmpL (q3 &&& (1 : Int64)) (0 : Int64)) = (0 : Int32)
    · skip
      refine own_st (fun _ kS => XS.ifNo X0.here hx rfl (hb hby at_175) rfl ((if0 _ _).trans (teq hc175_2).2) kS) ?_
      show own_G p.tables e below _ (T0.setTop (mkF m 178 #[.val (.int p1), .val (.int p2), .val (.long q3), .second, .val (.int k), .val (.ref wf), .val (.long mx), .second, .val (.int (3 : Int32)), .val (.int (((XT.ushr p2 (2 : Int32)) &&& (7 : Int32)) - (3 : Int32))), .unset, .unset, .unset] []))
      refine own_st (fun _ kS => X0.ldc2Long hx hown (mvT hZ (hw _ (List.mem_of_getElem? (i := 11) rfl))) (g := (mkF m 178 #[.val (.int p1), .val (.int p2), .val (.long q3), .second, .val (.int k), .val (.ref wf), .val (.long mx), .second, .val (.int (3 : Int32)), .val (.int (((XT.ushr p2 (2 : Int32)) &&& (7 : Int32)) - (3 : Int32))), .unset, .unset, .unset] [])) rfl (hb hby at_178) _ kS) ?_
      show own_G p.tables e below _ (T0.setTop (mkF m 181 #[.val (.int p1), .val (.int p2), .val (.long q3), .second, .val (.int k), .val (.ref wf), .val (.long mx), .second, .val (.int (3 : Int32)), .val (.int (((XT.ushr p2 (2 : Int32)) &&& (7 : Int32)) - (3 : Int32))), .unset, .unset, .unset] [(.long (9223372036854775807 : Int64))]))
      refine own_st (fun _ kS => XS.iload X0.here hx rfl (hb hby at_181) rfl kS) ?_
      show own_G p.tables e below _ (T0.setTop (mkF m 183 #[.val (.int p1), .val (.int p2), .val (.long q3), .second, .val (.int k), .val (.ref wf), .val (.long mx), .second, .val (.int (3 : Int32)), .val (.int (((XT.ushr p2 (2 : Int32)) &&& (7 : Int32)) - (3 : Int32))), .unset, .unset, .unset] [(.int (((XT.ushr p2 (2 : Int32)) &&& (7 : Int32)) - (3 : Int32))), (.long (9223372036854775807 : Int64))]))
      refine own_st (fun _ kS => XS.iconst X0.here hx rfl (hb hby at_183) kS) ?_
      show own_G p.tables e below _ (T0.setTop (mkF m 184 #[.val (.int p1), .val (.int p2), .val (.long q3), .second, .val (.int k), .val (.ref wf), .val (.long mx), .second, .val (.int (3 : Int32)), .val (.int (((XT.ushr p2 (2 : Int32)) &&& (7 : Int32)) - (3 : Int32))), .unset, .unset, .unset] [(.int (3 : Int32)), (.int (((XT.ushr p2 (2 : Int32)) &&& (7 : Int32)) - (3 : Int32))), (.long (9223372036854775807 : Int64))]))
      refine own_st (fun _ kS => XS.iadd X0.here hx rfl (hb hby at_184) rfl kS) ?_
      show own_G p.tables e below _ (T0.setTop (mkF m 185 #[.val (.int p1), .val (.int p2), .val (.long q3), .second, .val (.int k), .val (.ref wf), .val (.long mx), .second, .val (.int (3 : Int32)), .val (.int (((XT.ushr p2 (2 : Int32)) &&& (7 : Int32)) - (3 : Int32))), .unset, .unset, .unset] [(.int ((((XT.ushr p2 (2 : Int32)) &&& (7 : Int32)) - (3 : Int32)) + (3 : Int32))), (.long (9223372036854775807 : Int64))]))
      refine own_st (fun _ kS => XT.i2l X0.here hx rfl (hb hby at_185) rfl kS) ?_
      show own_G p.tables e below _ (T0.setTop (mkF m 186 #[.val (.int p1), .val (.int p2), .val (.long q3), .second, .val (.int k), .val (.ref wf), .val (.long mx), .second, .val (.int (3 : Int32)), .val (.int (((XT.ushr p2 (2 : Int32)) &&& (7 : Int32)) - (3 : Int32))), .unset, .unset, .unset] [(.long (((((XT.ushr p2 (2 : Int32)) &&& (7 : Int32)) - (3 : Int32)) + (3 : Int32)).toInt64)), (.long (9223372036854775807 : Int64))]))
      refine own_st (fun _ kS => XT.lsub X0.here hx rfl (hb hby at_186) rfl kS) ?_
      show own_G p.tables e below _ (T0.setTop (mkF m 187 #[.val (.int p1), .val (.int p2), .val (.long q3), .second, .val (.int k), .val (.ref wf), .val (.long mx), .second, .val (.int (3 : Int32)), .val (.int (((XT.ushr p2 (2 : Int32)) &&& (7 : Int32)) - (3 : Int32))), .unset, .unset, .unset] [(.long ((9223372036854775807 : Int64) - (((((XT.ushr p2 (2 : Int32)) &&& (7 : Int32)) - (3 : Int32)) + (3 : Int32)).toInt64)))]))
      refine own_st (fun _ kS => XT.lstore X0.here hx rfl (hb hby at_187) rfl (l' := #[.val (.int p1), .val (.int p2), .val (.long q3), .second, .val (.int k), .val (.ref wf), .val (.long mx), .second, .val (.int (3 : Int32)), .val (.int (((XT.ushr p2 (2 : Int32)) &&& (7 : Int32)) - (3 : Int32))), .val (.long ((9223372036854775807 : Int64) - (((((XT.ushr p2 (2 : Int32)) &&& (7 : Int32)) - (3 : Int32)) + (3 : Int32)).toInt64))), .second, .unset]) rfl kS) ?_
      show own_G p.tables e below _ (T0.setTop (mkF m 189 #[.val (.int p1), .val (.int p2), .val (.long q3), .second, .val (.int k), .val (.ref wf), .val (.long mx), .second, .val (.int (3 : Int32)), .val (.int (((XT.ushr p2 (2 : Int32)) &&& (7 : Int32)) - (3 : Int32))), .val (.long ((9223372036854775807 : Int64) - (((((XT.ushr p2 (2 : Int32)) &&& (7 : Int32)) - (3 : Int32)) + (3 : Int32)).toInt64))), .second, .unset] []))
      refine own_st (fun _ kS => XS.goto X0.here hx rfl (pc0 := 189) (pc' := 203) rfl (hb hby at_189) (by decide) (by decide) kS) ?_
      show own_G p.tables e below _ (T0.setTop (mkF m 203 #[.val (.int p1), .val (.int p2), .val (.long q3), .second, .val (.int k), .val (.ref wf), .val (.long mx), .second, .val (.int (3 : Int32)), .val (.int (((XT.ushr p2 (2 : Int32)) &&& (7 : Int32)) - (3 : Int32))), .val (.long ((9223372036854775807 : Int64) - (((((XT.ushr p2 (2 : Int32)) &&& (7 : Int32)) - (3 : Int32)) + (3 : Int32)).toInt64))), .second, .unset] []))
      exact sg_B hx hby hml hown hlk hret hZ hw Z0  X0 e0 N0 O0 p1 p2 q3 k wf mx mi (3 : Int32) (((XT.ushr p2 (2 : Int32)) &&& (7 : Int32)) - (3 : Int32)) ((9223372036854775807 : Int64) - (((((XT.ushr p2 (2 : Int32)) &&& (7 : Int32)) - (3 : Int32)) + (3 : Int32)).toInt64)) Ef Ff hmx
    · skip
      refine own_st (fun _ kS => XS.ifYes X0.here hx rfl (pc0 := 175) (pc' := 192) rfl (hb hby at_175) rfl ((if0 _ _).trans (feq hc175_2).2) (by decide) (by decide) kS) ?_
      show own_G p.tables e below _ (T0.setTop (mkF m 192 #[.val (.int p1), .val (.int p2), .val (.long q3), .second, .val (.int k), .val (.ref wf), .val (.long mx), .second, .val (.int (3 : Int32)), .val (.int (((XT.ushr p2 (2 : Int32)) &&& (7 : Int32)) - (3 : Int32))), .unset, .unset, .unset] []))
      refine own_st (fun _ kS => X0.ldc2Long hx hown (mvT hZ (hw _ (List.mem_of_getElem? (i := 5) rfl))) (g := (mkF m 192 #[.val (.int p1), .val (.int p2), .val (.long q3), .second, .val (.int k), .val (.ref wf), .val (.long mx), .second, .val (.int (3 : Int32)), .val (.int (((XT.ushr p2 (2 : Int32)) &&& (7 : Int32)) - (3 : Int32))), .unset, .unset, .unset] [])) rfl (hb hby at_192) _ kS) ?_
      show own_G p.tables e below _ (T0.setTop (mkF m 195 #[.val (.int p1), .val (.int p2), .val (.long q3), .second, .val (.int k), .val (.ref wf), .val (.long mx), .second, .val (.int (3 : Int32)), .val (.int (((XT.ushr p2 (2 : Int32)) &&& (7 : Int32)) - (3 : Int32))), .unset, .unset, .unset] [(.long (-9223372036854775808 : Int64))]))
      refine own_st (fun _ kS => XS.iload X0.here hx rfl (hb hby at_195) rfl kS) ?_
      show own_G p.tables e below _ (T0.setTop (mkF m 197 #[.val (.int p1), .val (.int p2), .val (.long q3), .second, .val (.int k), .val (.ref wf), .val (.long mx), .second, .val (.int (3 : Int32)), .val (.int (((XT.ushr p2 (2 : Int32)) &&& (7 : Int32)) - (3 : Int32))), .unset, .unset, .unset] [(.int (((XT.ushr p2 (2 : Int32)) &&& (7 : Int32)) - (3 : Int32))), (.long (-9223372036854775808 : Int64))]))
      refine own_st (fun _ kS => XS.iconst X0.here hx rfl (hb hby at_197) kS) ?_
      show own_G p.tables e below _ (T0.setTop (mkF m 198 #[.val (.int p1), .val (.int p2), .val (.long q3), .second, .val (.int k), .val (.ref wf), .val (.long mx), .second, .val (.int (3 : Int32)), .val (.int (((XT.ushr p2 (2 : Int32)) &&& (7 : Int32)) - (3 : Int32))), .unset, .unset, .unset] [(.int (3 : Int32)), (.int (((XT.ushr p2 (2 : Int32)) &&& (7 : Int32)) - (3 : Int32))), (.long (-9223372036854775808 : Int64))]))
      refine own_st (fun _ kS => XS.iadd X0.here hx rfl (hb hby at_198) rfl kS) ?_
      show own_G p.tables e below _ (T0.setTop (mkF m 199 #[.val (.int p1), .val (.int p2), .val (.long q3), .second, .val (.int k), .val (.ref wf), .val (.long mx), .second, .val (.int (3 : Int32)), .val (.int (((XT.ushr p2 (2 : Int32)) &&& (7 : Int32)) - (3 : Int32))), .unset, .unset, .unset] [(.int ((((XT.ushr p2 (2 : Int32)) &&& (7 : Int32)) - (3 : Int32)) + (3 : Int32))), (.long (-9223372036854775808 : Int64))]))
      refine own_st (fun _ kS => XT.i2l X0.here hx rfl (hb hby at_199) rfl kS) ?_
      show own_G p.tables e below _ (T0.setTop (mkF m 200 #[.val (.int p1), .val (.int p2), .val (.long q3), .second, .val (.int k), .val (.ref wf), .val (.long mx), .second, .val (.int (3 : Int32)), .val (.int (((XT.ushr p2 (2 : Int32)) &&& (7 : Int32)) - (3 : Int32))), .unset, .unset, .unset] [(.long (((((XT.ushr p2 (2 : Int32)) &&& (7 : Int32)) - (3 : Int32)) + (3 : Int32)).toInt64)), (.long (-9223372036854775808 : Int64))]))
      refine own_st (fun _ kS => XT.ladd X0.here hx rfl (hb hby at_200) rfl kS) ?_
      show own_G p.tables e below _ (T0.setTop (mkF m 201 #[.val (.int p1), .val (.int p2), .val (.long q3), .second, .val (.int k), .val (.ref wf), .val (.long mx), .second, .val (.int (3 : Int32)), .val (.int (((XT.ushr p2 (2 : Int32)) &&& (7 : Int32)) - (3 : Int32))), .unset, .unset, .unset] [(.long ((-9223372036854775808 : Int64) + (((((XT.ushr p2 (2 : Int32)) &&& (7 : Int32)) - (3 : Int32)) + (3 : Int32)).toInt64)))]))
      refine own_st (fun _ kS => XT.lstore X0.here hx rfl (hb hby at_201) rfl (l' := #[.val (.int p1), .val (.int p2), .val (.long q3), .second, .val (.int k), .val (.ref wf), .val (.long mx), .second, .val (.int (3 : Int32)), .val (.int (((XT.ushr p2 (2 : Int32)) &&& (7 : Int32)) - (3 : Int32))), .val (.long ((-9223372036854775808 : Int64) + (((((XT.ushr p2 (2 : Int32)) &&& (7 : Int32)) - (3 : Int32)) + (3 : Int32)).toInt64))), .second, .unset]) rfl kS) ?_
      show own_G p.tables e below _ (T0.setTop (mkF m 203 #[.val (.int p1), .val (.int p2), .val (.long q3), .second, .val (.int k), .val (.ref wf), .val (.long mx), .second, .val (.int (3 : Int32)), .val (.int (((XT.ushr p2 (2 : Int32)) &&& (7 : Int32)) - (3 : Int32))), .val (.long ((-9223372036854775808 : Int64) + (((((XT.ushr p2 (2 : Int32)) &&& (7 : Int32)) - (3 : Int32)) + (3 : Int32)).toInt64))), .second, .unset] []))
      exact sg_B hx hby hml hown hlk hret hZ hw Z0  X0 e0 N0 O0 p1 p2 q3 k wf mx mi (3 : Int32) (((XT.ushr p2 (2 : Int32)) &&& (7 : Int32)) - (3 : Int32)) ((-9223372036854775808 : Int64) + (((((XT.ushr p2 (2 : Int32)) &&& (7 : Int32)) - (3 : Int32)) + (3 : Int32)).toInt64)) Ef Ff hmx
theorem ef_law (m : MethodId) (x0 : Int32) (x1 : Int32) (x2 : Int64) : entryFrame m #[(.int x0), (.int x1), (.long x2)] maxLocals = mkF m 0 #[.val (.int x0), .val (.int x1), .val (.long x2), .second, .unset, .unset, .unset, .unset, .unset, .unset, .unset, .unset, .unset] [] := by first | (simp [entryFrame, mkF, argsToLocals, Value.category, maxLocals]; done) | rfl
set_option maxRecDepth 65536 in
set_option maxHeartbeats 40000000 in
theorem rm_law (l : Launch) (Z : State) (a0 : Array Value) (hw : ∀ d ∈ tables_1, d.before a0 Z = true) (ws : List Jvm.Cond) (p1 : Int32) (p2 : Int32) (q3 : Int64) (w_MINUTE : Addr) (w_HOUR : Addr) (w_DAY : Addr) (w_WEEK : Addr) (w_MONTH : Addr) (w_YEAR : Addr) (h0 : Heap) (n0 : Nat) (Z0 : n0 ≤ h0.size) (O0 : Old Z n0 h0) (S_MINUTE : Sta Z Z.heap "com/example/recurring_jobs/recurringjobs/model/Frequency" "MINUTE" "Lcom/example/recurring_jobs/recurringjobs/model/Frequency;" (.ref w_MINUTE)) (S_HOUR : Sta Z Z.heap "com/example/recurring_jobs/recurringjobs/model/Frequency" "HOUR" "Lcom/example/recurring_jobs/recurringjobs/model/Frequency;" (.ref w_HOUR)) (S_DAY : Sta Z Z.heap "com/example/recurring_jobs/recurringjobs/model/Frequency" "DAY" "Lcom/example/recurring_jobs/recurringjobs/model/Frequency;" (.ref w_DAY)) (S_WEEK : Sta Z Z.heap "com/example/recurring_jobs/recurringjobs/model/Frequency" "WEEK" "Lcom/example/recurring_jobs/recurringjobs/model/Frequency;" (.ref w_WEEK)) (S_MONTH : Sta Z Z.heap "com/example/recurring_jobs/recurringjobs/model/Frequency" "MONTH" "Lcom/example/recurring_jobs/recurringjobs/model/Frequency;" (.ref w_MONTH)) (S_YEAR : Sta Z Z.heap "com/example/recurring_jobs/recurringjobs/model/Frequency" "YEAR" "Lcom/example/recurring_jobs/recurringjobs/model/Frequency;" (.ref w_YEAR)) (E_MINUTE : Exa Z Z.heap w_MINUTE "com/example/recurring_jobs/recurringjobs/model/Frequency") (E_HOUR : Exa Z Z.heap w_HOUR "com/example/recurring_jobs/recurringjobs/model/Frequency") (E_DAY : Exa Z Z.heap w_DAY "com/example/recurring_jobs/recurringjobs/model/Frequency") (E_WEEK : Exa Z Z.heap w_WEEK "com/example/recurring_jobs/recurringjobs/model/Frequency") (E_MONTH : Exa Z Z.heap w_MONTH "com/example/recurring_jobs/recurringjobs/model/Frequency") (E_YEAR : Exa Z Z.heap w_YEAR "com/example/recurring_jobs/recurringjobs/model/Frequency") (F_MINUTE_maxInterval : Fld Z Z.heap w_MINUTE "com/example/recurring_jobs/recurringjobs/model/Frequency" "maxInterval" "I" (.int (1000 : Int32))) (F_HOUR_maxInterval : Fld Z Z.heap w_HOUR "com/example/recurring_jobs/recurringjobs/model/Frequency" "maxInterval" "I" (.int (1000 : Int32))) (F_DAY_maxInterval : Fld Z Z.heap w_DAY "com/example/recurring_jobs/recurringjobs/model/Frequency" "maxInterval" "I" (.int (548 : Int32))) (F_WEEK_maxInterval : Fld Z Z.heap w_WEEK "com/example/recurring_jobs/recurringjobs/model/Frequency" "maxInterval" "I" (.int (78 : Int32))) (F_MONTH_maxInterval : Fld Z Z.heap w_MONTH "com/example/recurring_jobs/recurringjobs/model/Frequency" "maxInterval" "I" (.int (18 : Int32))) (F_YEAR_maxInterval : Fld Z Z.heap w_YEAR "com/example/recurring_jobs/recurringjobs/model/Frequency" "maxInterval" "I" (.int (1 : Int32))) :
    MetFree l x (head1 (Jvm.Cond.code x code maxLocals ret :: ws) room_1) (fun a U => a = #[(.int p1), (.int p2), (.long q3)] ∧ Z.Warmed39 U.vm ∧ U.heap = h0) (fun _ _ _ _ _ => True) (fun _ U o U' => ∃ v L, o = .returned v ∧ Q_law n0 v U'.heap L ∧ FrameEnd U o U' L room_1.cells room_1.slots) := by
  refine MetFree.of_bodySF (plainFor_of_name pn_0) hisR ?_
  intro p e s m args below meth c s₁ Bd hml0 hP hK
  obtain ⟨rfl, hZ, hh⟩ := hP
  have hx := Bd.exec
  have hby := Bd.bytes
  have hml : c.maxLocals = 13 := hml0
  have hown : s.vm.findClass "com/example/recurring_jobs/recurringjobs/model/FrequencyAllowsIntervalPinLaw" = some m.cls := findClass_of_methodNamed Bd.named
  have hnm := (name_of_methodNamed Bd.named Bd.method).1
  have hlk := Bd.notSynchronized
  have hret := Bd.returns
  have X0 : Stand p l e room_1 s m #[(.int p1), (.int p2), (.long q3)] below meth c s₁ [] 0 0 := Stand.of_body Bd
  have e0 : s₁.heap = h0 := by rw [← hh, Bd.state]; rfl
  have N0 := Fr.nil n0
  refine own_in room_1.cells room_1.slots (Q_law n0) (ef_law m p1 p2 q3) ?_
  show own_G p.tables e below _ (s₁.setTop (mkF m 0 #[.val (.int p1), .val (.int p2), .val (.long q3), .second, .unset, .unset, .unset, .unset, .unset, .unset, .unset, .unset, .unset] []))
  refine own_st (fun _ kS => XS.iloadN X0.here hx rfl (hb hby at_0) rfl kS) ?_
  show own_G p.tables e below _ (s₁.setTop (mkF m 1 #[.val (.int p1), .val (.int p2), .val (.long q3), .second, .unset, .unset, .unset, .unset, .unset, .unset, .unset, .unset, .unset] [(.int p1)]))
  refine own_st (fun _ kS => X0.ldcInt hx hown (mvT hZ (hw _ (List.mem_of_getElem? (i := 0) rfl))) (g := (mkF m 1 #[.val (.int p1), .val (.int p2), .val (.long q3), .second, .unset, .unset, .unset, .unset, .unset, .unset, .unset, .unset, .unset] [(.int p1)])) rfl (hb hby at_1) _ kS) ?_
  show own_G p.tables e below _ (s₁.setTop (mkF m 3 #[.val (.int p1), .val (.int p2), .val (.long q3), .second, .unset, .unset, .unset, .unset, .unset, .unset, .unset, .unset, .unset] [(.int (2147483647 : Int32)), (.int p1)]))
  refine own_st (fun _ kS => XS.iand X0.here hx rfl (hb hby at_3) rfl kS) ?_
  show own_G p.tables e below _ (s₁.setTop (mkF m 4 #[.val (.int p1), .val (.int p2), .val (.long q3), .second, .unset, .unset, .unset, .unset, .unset, .unset, .unset, .unset, .unset] [(.int (p1 &&& (2147483647 : Int32)))]))
  refine own_st (fun _ kS => XS.bipush X0.here hx rfl (hb hby at_4) kS) ?_
  show own_G p.tables e below _ (s₁.setTop (mkF m 6 #[.val (.int p1), .val (.int p2), .val (.long q3), .second, .unset, .unset, .unset, .unset, .unset, .unset, .unset, .unset, .unset] [(.int (6 : Int32)), (.int (p1 &&& (2147483647 : Int32)))]))
  refine own_st (fun _ kS => iremM (g := (mkF m 6 #[.val (.int p1), .val (.int p2), .val (.long q3), .second, .unset, .unset, .unset, .unset, .unset, .unset, .unset, .unset, .unset] [(.int (6 : Int32)), (.int (p1 &&& (2147483647 : Int32)))])) X0 hx rfl (hb hby at_6) rfl (by decide) kS) ?_
  show own_G p.tables e below _ (s₁.setTop (mkF m 7 #[.val (.int p1), .val (.int p2), .val (.long q3), .second, .unset, .unset, .unset, .unset, .unset, .unset, .unset, .unset, .unset] [(.int ((p1 &&& (2147483647 : Int32)) % (6 : Int32)))]))
  rcases own_mod6 p1 with hk1 | hk1 | hk1 | hk1 | hk1 | hk1
  · rw [hk1]
    show own_G p.tables e below _ (s₁.setTop (mkF m 7 #[.val (.int p1), .val (.int p2), .val (.long q3), .second, .unset, .unset, .unset, .unset, .unset, .unset, .unset, .unset, .unset] [(.int (0 : Int32))]))
    refine own_st (fun _ kS => XS.istore X0.here hx rfl (hb hby at_7) rfl (l' := #[.val (.int p1), .val (.int p2), .val (.long q3), .second, .val (.int (0 : Int32)), .unset, .unset, .unset, .unset, .unset, .unset, .unset, .unset]) rfl kS) ?_
    show own_G p.tables e below _ (s₁.setTop (mkF m 9 #[.val (.int p1), .val (.int p2), .val (.long q3), .second, .val (.int (0 : Int32)), .unset, .unset, .unset, .unset, .unset, .unset, .unset, .unset] []))
    refine own_st (fun _ kS => XS.iload X0.here hx rfl (hb hby at_9) rfl kS) ?_
    show own_G p.tables e below _ (s₁.setTop (mkF m 11 #[.val (.int p1), .val (.int p2), .val (.long q3), .second, .val (.int (0 : Int32)), .unset, .unset, .unset, .unset, .unset, .unset, .unset, .unset] [(.int (0 : Int32))]))
    refine own_st (fun _ kS => XS.ifNo X0.here hx rfl (hb hby at_11) rfl ((if0 _ _).trans (teq (by decide : (0 : Int32) = (0 : Int32))).2) kS) ?_
    show own_G p.tables e below _ (s₁.setTop (mkF m 14 #[.val (.int p1), .val (.int p2), .val (.long q3), .second, .val (.int (0 : Int32)), .unset, .unset, .unset, .unset, .unset, .unset, .unset, .unset] []))
    obtain ⟨T2, X2, e2, st2⟩ := getS2 X0 hx hZ hown (host := "") (Or.inl (hw _ (List.mem_of_getElem? (i := 1) rfl))) Via.refl e0 (Sta.ext O0.2 S_MINUTE) (g := (mkF m 14 #[.val (.int p1), .val (.int p2), .val (.long q3), .second, .val (.int (0 : Int32)), .unset, .unset, .unset, .unset, .unset, .unset, .unset, .unset] [])) rfl (hb hby at_14)
    refine own_st st2 ?_
    show own_G p.tables e below _ (T2.setTop (mkF m 17 #[.val (.int p1), .val (.int p2), .val (.long q3), .second, .val (.int (0 : Int32)), .unset, .unset, .unset, .unset, .unset, .unset, .unset, .unset] [(.ref w_MINUTE)]))
    refine own_st (fun _ kS => XS.astore X2.here hx rfl (hb hby at_17) rfl rfl (l' := #[.val (.int p1), .val (.int p2), .val (.long q3), .second, .val (.int (0 : Int32)), .val (.ref w_MINUTE), .unset, .unset, .unset, .unset, .unset, .unset, .unset]) rfl kS) ?_
    show own_G p.tables e below _ (T2.setTop (mkF m 19 #[.val (.int p1), .val (.int p2), .val (.long q3), .second, .val (.int (0 : Int32)), .val (.ref w_MINUTE), .unset, .unset, .unset, .unset, .unset, .unset, .unset] []))
    refine own_st (fun _ kS => X2.ldc2Long hx hown (mvT hZ (hw _ (List.mem_of_getElem? (i := 4) rfl))) (g := (mkF m 19 #[.val (.int p1), .val (.int p2), .val (.long q3), .second, .val (.int (0 : Int32)), .val (.ref w_MINUTE), .unset, .unset, .unset, .unset, .unset, .unset, .unset] [])) rfl (hb hby at_19) _ kS) ?_
    show own_G p.tables e below _ (T2.setTop (mkF m 22 #[.val (.int p1), .val (.int p2), .val (.long q3), .second, .val (.int (0 : Int32)), .val (.ref w_MINUTE), .unset, .unset, .unset, .unset, .unset, .unset, .unset] [(.long (1000 : Int64))]))
    refine own_st (fun _ kS => XT.lstore X2.here hx rfl (hb hby at_22) rfl (l' := #[.val (.int p1), .val (.int p2), .val (.long q3), .second, .val (.int (0 : Int32)), .val (.ref w_MINUTE), .val (.long (1000 : Int64)), .second, .unset, .unset, .unset, .unset, .unset]) rfl kS) ?_
    show own_G p.tables e below _ (T2.setTop (mkF m 24 #[.val (.int p1), .val (.int p2), .val (.long q3), .second, .val (.int (0 : Int32)), .val (.ref w_MINUTE), .val (.long (1000 : Int64)), .second, .unset, .unset, .unset, .unset, .unset] []))
    refine own_st (fun _ kS => XS.goto X2.here hx rfl (pc0 := 24) (pc' := 111) rfl (hb hby at_24) (by decide) (by decide) kS) ?_
    show own_G p.tables e below _ (T2.setTop (mkF m 111 #[.val (.int p1), .val (.int p2), .val (.long q3), .second, .val (.int (0 : Int32)), .val (.ref w_MINUTE), .val (.long (1000 : Int64)), .second, .unset, .unset, .unset, .unset, .unset] []))
    exact sg_A hx hby hml hown hlk hret hZ hw Z0  X2 e2 N0 O0 p1 p2 q3 (0 : Int32) w_MINUTE (1000 : Int64) (1000 : Int32) E_MINUTE F_MINUTE_maxInterval (by decide)
  · rw [hk1]
    show own_G p.tables e below _ (s₁.setTop (mkF m 7 #[.val (.int p1), .val (.int p2), .val (.long q3), .second, .unset, .unset, .unset, .unset, .unset, .unset, .unset, .unset, .unset] [(.int (1 : Int32))]))
    refine own_st (fun _ kS => XS.istore X0.here hx rfl (hb hby at_7) rfl (l' := #[.val (.int p1), .val (.int p2), .val (.long q3), .second, .val (.int (1 : Int32)), .unset, .unset, .unset, .unset, .unset, .unset, .unset, .unset]) rfl kS) ?_
    show own_G p.tables e below _ (s₁.setTop (mkF m 9 #[.val (.int p1), .val (.int p2), .val (.long q3), .second, .val (.int (1 : Int32)), .unset, .unset, .unset, .unset, .unset, .unset, .unset, .unset] []))
    refine own_st (fun _ kS => XS.iload X0.here hx rfl (hb hby at_9) rfl kS) ?_
    show own_G p.tables e below _ (s₁.setTop (mkF m 11 #[.val (.int p1), .val (.int p2), .val (.long q3), .second, .val (.int (1 : Int32)), .unset, .unset, .unset, .unset, .unset, .unset, .unset, .unset] [(.int (1 : Int32))]))
    refine own_st (fun _ kS => XS.ifYes X0.here hx rfl (pc0 := 11) (pc' := 27) rfl (hb hby at_11) rfl ((if0 _ _).trans (feq (by decide : ¬ ((1 : Int32) = (0 : Int32)))).2) (by decide) (by decide) kS) ?_
    show own_G p.tables e below _ (s₁.setTop (mkF m 27 #[.val (.int p1), .val (.int p2), .val (.long q3), .second, .val (.int (1 : Int32)), .unset, .unset, .unset, .unset, .unset, .unset, .unset, .unset] []))
    refine own_st (fun _ kS => XS.iload X0.here hx rfl (hb hby at_27) rfl kS) ?_
    show own_G p.tables e below _ (s₁.setTop (mkF m 29 #[.val (.int p1), .val (.int p2), .val (.long q3), .second, .val (.int (1 : Int32)), .unset, .unset, .unset, .unset, .unset, .unset, .unset, .unset] [(.int (1 : Int32))]))
    refine own_st (fun _ kS => XS.iconst X0.here hx rfl (hb hby at_29) kS) ?_
    show own_G p.tables e below _ (s₁.setTop (mkF m 30 #[.val (.int p1), .val (.int p2), .val (.long q3), .second, .val (.int (1 : Int32)), .unset, .unset, .unset, .unset, .unset, .unset, .unset, .unset] [(.int (1 : Int32)), (.int (1 : Int32))]))
    refine own_st (fun _ kS => XS.icmpNo X0.here hx rfl (hb hby at_30) rfl (teq (by decide : (1 : Int32) = (1 : Int32))).2 kS) ?_
    show own_G p.tables e below _ (s₁.setTop (mkF m 33 #[.val (.int p1), .val (.int p2), .val (.long q3), .second, .val (.int (1 : Int32)), .unset, .unset, .unset, .unset, .unset, .unset, .unset, .unset] []))
    obtain ⟨T3, X3, e3, st3⟩ := getS2 X0 hx hZ hown (host := "") (Or.inl (hw _ (List.mem_of_getElem? (i := 14) rfl))) Via.refl e0 (Sta.ext O0.2 S_HOUR) (g := (mkF m 33 #[.val (.int p1), .val (.int p2), .val (.long q3), .second, .val (.int (1 : Int32)), .unset, .unset, .unset, .unset, .unset, .unset, .unset, .unset] [])) rfl (hb hby at_33)
    refine own_st st3 ?_
    show own_G p.tables e below _ (T3.setTop (mkF m 36 #[.val (.int p1), .val (.int p2), .val (.long q3), .second, .val (.int (1 : Int32)), .unset, .unset, .unset, .unset, .unset, .unset, .unset, .unset] [(.ref w_HOUR)]))
    refine own_st (fun _ kS => XS.astore X3.here hx rfl (hb hby at_36) rfl rfl (l' := #[.val (.int p1), .val (.int p2), .val (.long q3), .second, .val (.int (1 : Int32)), .val (.ref w_HOUR), .unset, .unset, .unset, .unset, .unset, .unset, .unset]) rfl kS) ?_
    show own_G p.tables e below _ (T3.setTop (mkF m 38 #[.val (.int p1), .val (.int p2), .val (.long q3), .second, .val (.int (1 : Int32)), .val (.ref w_HOUR), .unset, .unset, .unset, .unset, .unset, .unset, .unset] []))
    refine own_st (fun _ kS => X3.ldc2Long hx hown (mvT hZ (hw _ (List.mem_of_getElem? (i := 4) rfl))) (g := (mkF m 38 #[.val (.int p1), .val (.int p2), .val (.long q3), .second, .val (.int (1 : Int32)), .val (.ref w_HOUR), .unset, .unset, .unset, .unset, .unset, .unset, .unset] [])) rfl (hb hby at_38) _ kS) ?_
    show own_G p.tables e below _ (T3.setTop (mkF m 41 #[.val (.int p1), .val (.int p2), .val (.long q3), .second, .val (.int (1 : Int32)), .val (.ref w_HOUR), .unset, .unset, .unset, .unset, .unset, .unset, .unset] [(.long (1000 : Int64))]))
    refine own_st (fun _ kS => XT.lstore X3.here hx rfl (hb hby at_41) rfl (l' := #[.val (.int p1), .val (.int p2), .val (.long q3), .second, .val (.int (1 : Int32)), .val (.ref w_HOUR), .val (.long (1000 : Int64)), .second, .unset, .unset, .unset, .unset, .unset]) rfl kS) ?_
    show own_G p.tables e below _ (T3.setTop (mkF m 43 #[.val (.int p1), .val (.int p2), .val (.long q3), .second, .val (.int (1 : Int32)), .val (.ref w_HOUR), .val (.long (1000 : Int64)), .second, .unset, .unset, .unset, .unset, .unset] []))
    refine own_st (fun _ kS => XS.goto X3.here hx rfl (pc0 := 43) (pc' := 111) rfl (hb hby at_43) (by decide) (by decide) kS) ?_
    show own_G p.tables e below _ (T3.setTop (mkF m 111 #[.val (.int p1), .val (.int p2), .val (.long q3), .second, .val (.int (1 : Int32)), .val (.ref w_HOUR), .val (.long (1000 : Int64)), .second, .unset, .unset, .unset, .unset, .unset] []))
    exact sg_A hx hby hml hown hlk hret hZ hw Z0  X3 e3 N0 O0 p1 p2 q3 (1 : Int32) w_HOUR (1000 : Int64) (1000 : Int32) E_HOUR F_HOUR_maxInterval (by decide)
  · rw [hk1]
    show own_G p.tables e below _ (s₁.setTop (mkF m 7 #[.val (.int p1), .val (.int p2), .val (.long q3), .second, .unset, .unset, .unset, .unset, .unset, .unset, .unset, .unset, .unset] [(.int (2 : Int32))]))
    refine own_st (fun _ kS => XS.istore X0.here hx rfl (hb hby at_7) rfl (l' := #[.val (.int p1), .val (.int p2), .val (.long q3), .second, .val (.int (2 : Int32)), .unset, .unset, .unset, .unset, .unset, .unset, .unset, .unset]) rfl kS) ?_
    show own_G p.tables e below _ (s₁.setTop (mkF m 9 #[.val (.int p1), .val (.int p2), .val (.long q3), .second, .val (.int (2 : Int32)), .unset, .unset, .unset, .unset, .unset, .unset, .unset, .unset] []))
    refine own_st (fun _ kS => XS.iload X0.here hx rfl (hb hby at_9) rfl kS) ?_
    show own_G p.tables e below _ (s₁.setTop (mkF m 11 #[.val (.int p1), .val (.int p2), .val (.long q3), .second, .val (.int (2 : Int32)), .unset, .unset, .unset, .unset, .unset, .unset, .unset, .unset] [(.int (2 : Int32))]))
    refine own_st (fun _ kS => XS.ifYes X0.here hx rfl (pc0 := 11) (pc' := 27) rfl (hb hby at_11) rfl ((if0 _ _).trans (feq (by decide : ¬ ((2 : Int32) = (0 : Int32)))).2) (by decide) (by decide) kS) ?_
    show own_G p.tables e below _ (s₁.setTop (mkF m 27 #[.val (.int p1), .val (.int p2), .val (.long q3), .second, .val (.int (2 : Int32)), .unset, .unset, .unset, .unset, .unset, .unset, .unset, .unset] []))
    refine own_st (fun _ kS => XS.iload X0.here hx rfl (hb hby at_27) rfl kS) ?_
    show own_G p.tables e below _ (s₁.setTop (mkF m 29 #[.val (.int p1), .val (.int p2), .val (.long q3), .second, .val (.int (2 : Int32)), .unset, .unset, .unset, .unset, .unset, .unset, .unset, .unset] [(.int (2 : Int32))]))
    refine own_st (fun _ kS => XS.iconst X0.here hx rfl (hb hby at_29) kS) ?_
    show own_G p.tables e below _ (s₁.setTop (mkF m 30 #[.val (.int p1), .val (.int p2), .val (.long q3), .second, .val (.int (2 : Int32)), .unset, .unset, .unset, .unset, .unset, .unset, .unset, .unset] [(.int (1 : Int32)), (.int (2 : Int32))]))
    refine own_st (fun _ kS => XS.icmpYes X0.here hx rfl (pc0 := 30) (pc' := 46) rfl (hb hby at_30) rfl (feq (by decide : ¬ ((2 : Int32) = (1 : Int32)))).2 (by decide) (by decide) kS) ?_
    show own_G p.tables e below _ (s₁.setTop (mkF m 46 #[.val (.int p1), .val (.int p2), .val (.long q3), .second, .val (.int (2 : Int32)), .unset, .unset, .unset, .unset, .unset, .unset, .unset, .unset] []))
    refine own_st (fun _ kS => XS.iload X0.here hx rfl (hb hby at_46) rfl kS) ?_
    show own_G p.tables e below _ (s₁.setTop (mkF m 48 #[.val (.int p1), .val (.int p2), .val (.long q3), .second, .val (.int (2 : Int32)), .unset, .unset, .unset, .unset, .unset, .unset, .unset, .unset] [(.int (2 : Int32))]))
    refine own_st (fun _ kS => XS.iconst X0.here hx rfl (hb hby at_48) kS) ?_
    show own_G p.tables e below _ (s₁.setTop (mkF m 49 #[.val (.int p1), .val (.int p2), .val (.long q3), .second, .val (.int (2 : Int32)), .unset, .unset, .unset, .unset, .unset, .unset, .unset, .unset] [(.int (2 : Int32)), (.int (2 : Int32))]))
    refine own_st (fun _ kS => XS.icmpNo X0.here hx rfl (hb hby at_49) rfl (teq (by decide : (2 : Int32) = (2 : Int32))).2 kS) ?_
    show own_G p.tables e below _ (s₁.setTop (mkF m 52 #[.val (.int p1), .val (.int p2), .val (.long q3), .second, .val (.int (2 : Int32)), .unset, .unset, .unset, .unset, .unset, .unset, .unset, .unset] []))
    obtain ⟨T4, X4, e4, st4⟩ := getS2 X0 hx hZ hown (host := "") (Or.inl (hw _ (List.mem_of_getElem? (i := 21) rfl))) Via.refl e0 (Sta.ext O0.2 S_DAY) (g := (mkF m 52 #[.val (.int p1), .val (.int p2), .val (.long q3), .second, .val (.int (2 : Int32)), .unset, .unset, .unset, .unset, .unset, .unset, .unset, .unset] [])) rfl (hb hby at_52)
    refine own_st st4 ?_
    show own_G p.tables e below _ (T4.setTop (mkF m 55 #[.val (.int p1), .val (.int p2), .val (.long q3), .second, .val (.int (2 : Int32)), .unset, .unset, .unset, .unset, .unset, .unset, .unset, .unset] [(.ref w_DAY)]))
    refine own_st (fun _ kS => XS.astore X4.here hx rfl (hb hby at_55) rfl rfl (l' := #[.val (.int p1), .val (.int p2), .val (.long q3), .second, .val (.int (2 : Int32)), .val (.ref w_DAY), .unset, .unset, .unset, .unset, .unset, .unset, .unset]) rfl kS) ?_
    show own_G p.tables e below _ (T4.setTop (mkF m 57 #[.val (.int p1), .val (.int p2), .val (.long q3), .second, .val (.int (2 : Int32)), .val (.ref w_DAY), .unset, .unset, .unset, .unset, .unset, .unset, .unset] []))
    refine own_st (fun _ kS => X4.ldc2Long hx hown (mvT hZ (hw _ (List.mem_of_getElem? (i := 23) rfl))) (g := (mkF m 57 #[.val (.int p1), .val (.int p2), .val (.long q3), .second, .val (.int (2 : Int32)), .val (.ref w_DAY), .unset, .unset, .unset, .unset, .unset, .unset, .unset] [])) rfl (hb hby at_57) _ kS) ?_
    show own_G p.tables e below _ (T4.setTop (mkF m 60 #[.val (.int p1), .val (.int p2), .val (.long q3), .second, .val (.int (2 : Int32)), .val (.ref w_DAY), .unset, .unset, .unset, .unset, .unset, .unset, .unset] [(.long (548 : Int64))]))
    refine own_st (fun _ kS => XT.lstore X4.here hx rfl (hb hby at_60) rfl (l' := #[.val (.int p1), .val (.int p2), .val (.long q3), .second, .val (.int (2 : Int32)), .val (.ref w_DAY), .val (.long (548 : Int64)), .second, .unset, .unset, .unset, .unset, .unset]) rfl kS) ?_
    show own_G p.tables e below _ (T4.setTop (mkF m 62 #[.val (.int p1), .val (.int p2), .val (.long q3), .second, .val (.int (2 : Int32)), .val (.ref w_DAY), .val (.long (548 : Int64)), .second, .unset, .unset, .unset, .unset, .unset] []))
    refine own_st (fun _ kS => XS.goto X4.here hx rfl (pc0 := 62) (pc' := 111) rfl (hb hby at_62) (by decide) (by decide) kS) ?_
    show own_G p.tables e below _ (T4.setTop (mkF m 111 #[.val (.int p1), .val (.int p2), .val (.long q3), .second, .val (.int (2 : Int32)), .val (.ref w_DAY), .val (.long (548 : Int64)), .second, .unset, .unset, .unset, .unset, .unset] []))
    exact sg_A hx hby hml hown hlk hret hZ hw Z0  X4 e4 N0 O0 p1 p2 q3 (2 : Int32) w_DAY (548 : Int64) (548 : Int32) E_DAY F_DAY_maxInterval (by decide)
  · rw [hk1]
    show own_G p.tables e below _ (s₁.setTop (mkF m 7 #[.val (.int p1), .val (.int p2), .val (.long q3), .second, .unset, .unset, .unset, .unset, .unset, .unset, .unset, .unset, .unset] [(.int (3 : Int32))]))
    refine own_st (fun _ kS => XS.istore X0.here hx rfl (hb hby at_7) rfl (l' := #[.val (.int p1), .val (.int p2), .val (.long q3), .second, .val (.int (3 : Int32)), .unset, .unset, .unset, .unset, .unset, .unset, .unset, .unset]) rfl kS) ?_
    show own_G p.tables e below _ (s₁.setTop (mkF m 9 #[.val (.int p1), .val (.int p2), .val (.long q3), .second, .val (.int (3 : Int32)), .unset, .unset, .unset, .unset, .unset, .unset, .unset, .unset] []))
    refine own_st (fun _ kS => XS.iload X0.here hx rfl (hb hby at_9) rfl kS) ?_
    show own_G p.tables e below _ (s₁.setTop (mkF m 11 #[.val (.int p1), .val (.int p2), .val (.long q3), .second, .val (.int (3 : Int32)), .unset, .unset, .unset, .unset, .unset, .unset, .unset, .unset] [(.int (3 : Int32))]))
    refine own_st (fun _ kS => XS.ifYes X0.here hx rfl (pc0 := 11) (pc' := 27) rfl (hb hby at_11) rfl ((if0 _ _).trans (feq (by decide : ¬ ((3 : Int32) = (0 : Int32)))).2) (by decide) (by decide) kS) ?_
    show own_G p.tables e below _ (s₁.setTop (mkF m 27 #[.val (.int p1), .val (.int p2), .val (.long q3), .second, .val (.int (3 : Int32)), .unset, .unset, .unset, .unset, .unset, .unset, .unset, .unset] []))
    refine own_st (fun _ kS => XS.iload X0.here hx rfl (hb hby at_27) rfl kS) ?_
    show own_G p.tables e below _ (s₁.setTop (mkF m 29 #[.val (.int p1), .val (.int p2), .val (.long q3), .second, .val (.int (3 : Int32)), .unset, .unset, .unset, .unset, .unset, .unset, .unset, .unset] [(.int (3 : Int32))]))
    refine own_st (fun _ kS => XS.iconst X0.here hx rfl (hb hby at_29) kS) ?_
    show own_G p.tables e below _ (s₁.setTop (mkF m 30 #[.val (.int p1), .val (.int p2), .val (.long q3), .second, .val (.int (3 : Int32)), .unset, .unset, .unset, .unset, .unset, .unset, .unset, .unset] [(.int (1 : Int32)), (.int (3 : Int32))]))
    refine own_st (fun _ kS => XS.icmpYes X0.here hx rfl (pc0 := 30) (pc' := 46) rfl (hb hby at_30) rfl (feq (by decide : ¬ ((3 : Int32) = (1 : Int32)))).2 (by decide) (by decide) kS) ?_
    show own_G p.tables e below _ (s₁.setTop (mkF m 46 #[.val (.int p1), .val (.int p2), .val (.long q3), .second, .val (.int (3 : Int32)), .unset, .unset, .unset, .unset, .unset, .unset, .unset, .unset] []))
    refine own_st (fun _ kS => XS.iload X0.here hx rfl (hb hby at_46) rfl kS) ?_
    show own_G p.tables e below _ (s₁.setTop (mkF m 48 #[.val (.int p1), .val (.int p2), .val (.long q3), .second, .val (.int (3 : Int32)), .unset, .unset, .unset, .unset, .unset, .unset, .unset, .unset] [(.int (3 : Int32))]))
    refine own_st (fun _ kS => XS.iconst X0.here hx rfl (hb hby at_48) kS) ?_
    show own_G p.tables e below _ (s₁.setTop (mkF m 49 #[.val (.int p1), .val (.int p2), .val (.long q3), .second, .val (.int (3 : Int32)), .unset, .unset, .unset, .unset, .unset, .unset, .unset, .unset] [(.int (2 : Int32)), (.int (3 : Int32))]))
    refine own_st (fun _ kS => XS.icmpYes X0.here hx rfl (pc0 := 49) (pc' := 65) rfl (hb hby at_49) rfl (feq (by decide : ¬ ((3 : Int32) = (2 : Int32)))).2 (by decide) (by decide) kS) ?_
    show own_G p.tables e below _ (s₁.setTop (mkF m 65 #[.val (.int p1), .val (.int p2), .val (.long q3), .second, .val (.int (3 : Int32)), .unset, .unset, .unset, .unset, .unset, .unset, .unset, .unset] []))
    refine own_st (fun _ kS => XS.iload X0.here hx rfl (hb hby at_65) rfl kS) ?_
    show own_G p.tables e below _ (s₁.setTop (mkF m 67 #[.val (.int p1), .val (.int p2), .val (.long q3), .second, .val (.int (3 : Int32)), .unset, .unset, .unset, .unset, .unset, .unset, .unset, .unset] [(.int (3 : Int32))]))
    refine own_st (fun _ kS => XS.iconst X0.here hx rfl (hb hby at_67) kS) ?_
    show own_G p.tables e below _ (s₁.setTop (mkF m 68 #[.val (.int p1), .val (.int p2), .val (.long q3), .second, .val (.int (3 : Int32)), .unset, .unset, .unset, .unset, .unset, .unset, .unset, .unset] [(.int (3 : Int32)), (.int (3 : Int32))]))
    refine own_st (fun _ kS => XS.icmpNo X0.here hx rfl (hb hby at_68) rfl (teq (by decide : (3 : Int32) = (3 : Int32))).2 kS) ?_
    show own_G p.tables e below _ (s₁.setTop (mkF m 71 #[.val (.int p1), .val (.int p2), .val (.long q3), .second, .val (.int (3 : Int32)), .unset, .unset, .unset, .unset, .unset, .unset, .unset, .unset] []))
    obtain ⟨T5, X5, e5, st5⟩ := getS2 X0 hx hZ hown (host := "") (Or.inl (hw _ (List.mem_of_getElem? (i := 24) rfl))) Via.refl e0 (Sta.ext O0.2 S_WEEK) (g := (mkF m 71 #[.val (.int p1), .val (.int p2), .val (.long q3), .second, .val (.int (3 : Int32)), .unset, .unset, .unset, .unset, .unset, .unset, .unset, .unset] [])) rfl (hb hby at_71)
    refine own_st st5 ?_
    show own_G p.tables e below _ (T5.setTop (mkF m 74 #[.val (.int p1), .val (.int p2), .val (.long q3), .second, .val (.int (3 : Int32)), .unset, .unset, .unset, .unset, .unset, .unset, .unset, .unset] [(.ref w_WEEK)]))
    refine own_st (fun _ kS => XS.astore X5.here hx rfl (hb hby at_74) rfl rfl (l' := #[.val (.int p1), .val (.int p2), .val (.long q3), .second, .val (.int (3 : Int32)), .val (.ref w_WEEK), .unset, .unset, .unset, .unset, .unset, .unset, .unset]) rfl kS) ?_
    show own_G p.tables e below _ (T5.setTop (mkF m 76 #[.val (.int p1), .val (.int p2), .val (.long q3), .second, .val (.int (3 : Int32)), .val (.ref w_WEEK), .unset, .unset, .unset, .unset, .unset, .unset, .unset] []))
    refine own_st (fun _ kS => X5.ldc2Long hx hown (mvT hZ (hw _ (List.mem_of_getElem? (i := 26) rfl))) (g := (mkF m 76 #[.val (.int p1), .val (.int p2), .val (.long q3), .second, .val (.int (3 : Int32)), .val (.ref w_WEEK), .unset, .unset, .unset, .unset, .unset, .unset, .unset] [])) rfl (hb hby at_76) _ kS) ?_
    show own_G p.tables e below _ (T5.setTop (mkF m 79 #[.val (.int p1), .val (.int p2), .val (.long q3), .second, .val (.int (3 : Int32)), .val (.ref w_WEEK), .unset, .unset, .unset, .unset, .unset, .unset, .unset] [(.long (78 : Int64))]))
    refine own_st (fun _ kS => XT.lstore X5.here hx rfl (hb hby at_79) rfl (l' := #[.val (.int p1), .val (.int p2), .val (.long q3), .second, .val (.int (3 : Int32)), .val (.ref w_WEEK), .val (.long (78 : Int64)), .second, .unset, .unset, .unset, .unset, .unset]) rfl kS) ?_
    show own_G p.tables e below _ (T5.setTop (mkF m 81 #[.val (.int p1), .val (.int p2), .val (.long q3), .second, .val (.int (3 : Int32)), .val (.ref w_WEEK), .val (.long (78 : Int64)), .second, .unset, .unset, .unset, .unset, .unset] []))
    refine own_st (fun _ kS => XS.goto X5.here hx rfl (pc0 := 81) (pc' := 111) rfl (hb hby at_81) (by decide) (by decide) kS) ?_
    show own_G p.tables e below _ (T5.setTop (mkF m 111 #[.val (.int p1), .val (.int p2), .val (.long q3), .second, .val (.int (3 : Int32)), .val (.ref w_WEEK), .val (.long (78 : Int64)), .second, .unset, .unset, .unset, .unset, .unset] []))
    exact sg_A hx hby hml hown hlk hret hZ hw Z0  X5 e5 N0 O0 p1 p2 q3 (3 : Int32) w_WEEK (78 : Int64) (78 : Int32) E_WEEK F_WEEK_maxInterval (by decide)
  · rw [hk1]
    show own_G p.tables e below _ (s₁.setTop (mkF m 7 #[.val (.int p1), .val (.int p2), .val (.long q3), .second, .unset, .unset, .unset, .unset, .unset, .unset, .unset, .unset, .unset] [(.int (4 : Int32))]))
    refine own_st (fun _ kS => XS.istore X0.here hx rfl (hb hby at_7) rfl (l' := #[.val (.int p1), .val (.int p2), .val (.long q3), .second, .val (.int (4 : Int32)), .unset, .unset, .unset, .unset, .unset, .unset, .unset, .unset]) rfl kS) ?_
    show own_G p.tables e below _ (s₁.setTop (mkF m 9 #[.val (.int p1), .val (.int p2), .val (.long q3), .second, .val (.int (4 : Int32)), .unset, .unset, .unset, .unset, .unset, .unset, .unset, .unset] []))
    refine own_st (fun _ kS => XS.iload X0.here hx rfl (hb hby at_9) rfl kS) ?_
    show own_G p.tables e below _ (s₁.setTop (mkF m 11 #[.val (.int p1), .val (.int p2), .val (.long q3), .second, .val (.int (4 : Int32)), .unset, .unset, .unset, .unset, .unset, .unset, .unset, .unset] [(.int (4 : Int32))]))
    refine own_st (fun _ kS => XS.ifYes X0.here hx rfl (pc0 := 11) (pc' := 27) rfl (hb hby at_11) rfl ((if0 _ _).trans (feq (by decide : ¬ ((4 : Int32) = (0 : Int32)))).2) (by decide) (by decide) kS) ?_
    show own_G p.tables e below _ (s₁.setTop (mkF m 27 #[.val (.int p1), .val (.int p2), .val (.long q3), .second, .val (.int (4 : Int32)), .unset, .unset, .unset, .unset, .unset, .unset, .unset, .unset] []))
    refine own_st (fun _ kS => XS.iload X0.here hx rfl (hb hby at_27) rfl kS) ?_
    show own_G p.tables e below _ (s₁.setTop (mkF m 29 #[.val (.int p1), .val (.int p2), .val (.long q3), .second, .val (.int (4 : Int32)), .unset, .unset, .unset, .unset, .unset, .unset, .unset, .unset] [(.int (4 : Int32))]))
    refine own_st (fun _ kS => XS.iconst X0.here hx rfl (hb hby at_29) kS) ?_
    show own_G p.tables e below _ (s₁.setTop (mkF m 30 #[.val (.int p1), .val (.int p2), .val (.long q3), .second, .val (.int (4 : Int32)), .unset, .unset, .unset, .unset, .unset, .unset, .unset, .unset] [(.int (1 : Int32)), (.int (4 : Int32))]))
    refine own_st (fun _ kS => XS.icmpYes X0.here hx rfl (pc0 := 30) (pc' := 46) rfl (hb hby at_30) rfl (feq (by decide : ¬ ((4 : Int32) = (1 : Int32)))).2 (by decide) (by decide) kS) ?_
    show own_G p.tables e below _ (s₁.setTop (mkF m 46 #[.val (.int p1), .val (.int p2), .val (.long q3), .second, .val (.int (4 : Int32)), .unset, .unset, .unset, .unset, .unset, .unset, .unset, .unset] []))
    refine own_st (fun _ kS => XS.iload X0.here hx rfl (hb hby at_46) rfl kS) ?_
    show own_G p.tables e below _ (s₁.setTop (mkF m 48 #[.val (.int p1), .val (.int p2), .val (.long q3), .second, .val (.int (4 : Int32)), .unset, .unset, .unset, .unset, .unset, .unset, .unset, .unset] [(.int (4 : Int32))]))
    refine own_st (fun _ kS => XS.iconst X0.here hx rfl (hb hby at_48) kS) ?_
    show own_G p.tables e below _ (s₁.setTop (mkF m 49 #[.val (.int p1), .val (.int p2), .val (.long q3), .second, .val (.int (4 : Int32)), .unset, .unset, .unset, .unset, .unset, .unset, .unset, .unset] [(.int (2 : Int32)), (.int (4 : Int32))]))
    refine own_st (fun _ kS => XS.icmpYes X0.here hx rfl (pc0 := 49) (pc' := 65) rfl (hb hby at_49) rfl (feq (by decide : ¬ ((4 : Int32) = (2 : Int32)))).2 (by decide) (by decide) kS) ?_
    show own_G p.tables e below _ (s₁.setTop (mkF m 65 #[.val (.int p1), .val (.int p2), .val (.long q3), .second, .val (.int (4 : Int32)), .unset, .unset, .unset, .unset, .unset, .unset, .unset, .unset] []))
    refine own_st (fun _ kS => XS.iload X0.here hx rfl (hb hby at_65) rfl kS) ?_
    show own_G p.tables e below _ (s₁.setTop (mkF m 67 #[.val (.int p1), .val (.int p2), .val (.long q3), .second, .val (.int (4 : Int32)), .unset, .unset, .unset, .unset, .unset, .unset, .unset, .unset] [(.int (4 : Int32))]))
    refine own_st (fun _ kS => XS.iconst X0.here hx rfl (hb hby at_67) kS) ?_
    show own_G p.tables e below _ (s₁.setTop (mkF m 68 #[.val (.int p1), .val (.int p2), .val (.long q3), .second, .val (.int (4 : Int32)), .unset, .unset, .unset, .unset, .unset, .unset, .unset, .unset] [(.int (3 : Int32)), (.int (4 : Int32))]))
    refine own_st (fun _ kS => XS.icmpYes X0.here hx rfl (pc0 := 68) (pc' := 84) rfl (hb hby at_68) rfl (feq (by decide : ¬ ((4 : Int32) = (3 : Int32)))).2 (by decide) (by decide) kS) ?_
    show own_G p.tables e below _ (s₁.setTop (mkF m 84 #[.val (.int p1), .val (.int p2), .val (.long q3), .second, .val (.int (4 : Int32)), .unset, .unset, .unset, .unset, .unset, .unset, .unset, .unset] []))
    refine own_st (fun _ kS => XS.iload X0.here hx rfl (hb hby at_84) rfl kS) ?_
    show own_G p.tables e below _ (s₁.setTop (mkF m 86 #[.val (.int p1), .val (.int p2), .val (.long q3), .second, .val (.int (4 : Int32)), .unset, .unset, .unset, .unset, .unset, .unset, .unset, .unset] [(.int (4 : Int32))]))
    refine own_st (fun _ kS => XS.iconst X0.here hx rfl (hb hby at_86) kS) ?_
    show own_G p.tables e below _ (s₁.setTop (mkF m 87 #[.val (.int p1), .val (.int p2), .val (.long q3), .second, .val (.int (4 : Int32)), .unset, .unset, .unset, .unset, .unset, .unset, .unset, .unset] [(.int (4 : Int32)), (.int (4 : Int32))]))
    refine own_st (fun _ kS => XS.icmpNo X0.here hx rfl (hb hby at_87) rfl (teq (by decide : (4 : Int32) = (4 : Int32))).2 kS) ?_
    show own_G p.tables e below _ (s₁.setTop (mkF m 90 #[.val (.int p1), .val (.int p2), .val (.long q3), .second, .val (.int (4 : Int32)), .unset, .unset, .unset, .unset, .unset, .unset, .unset, .unset] []))
    obtain ⟨T6, X6, e6, st6⟩ := getS2 X0 hx hZ hown (host := "") (Or.inl (hw _ (List.mem_of_getElem? (i := 16) rfl))) Via.refl e0 (Sta.ext O0.2 S_MONTH) (g := (mkF m 90 #[.val (.int p1), .val (.int p2), .val (.long q3), .second, .val (.int (4 : Int32)), .unset, .unset, .unset, .unset, .unset, .unset, .unset, .unset] [])) rfl (hb hby at_90)
    refine own_st st6 ?_
    show own_G p.tables e below _ (T6.setTop (mkF m 93 #[.val (.int p1), .val (.int p2), .val (.long q3), .second, .val (.int (4 : Int32)), .unset, .unset, .unset, .unset, .unset, .unset, .unset, .unset] [(.ref w_MONTH)]))
    refine own_st (fun _ kS => XS.astore X6.here hx rfl (hb hby at_93) rfl rfl (l' := #[.val (.int p1), .val (.int p2), .val (.long q3), .second, .val (.int (4 : Int32)), .val (.ref w_MONTH), .unset, .unset, .unset, .unset, .unset, .unset, .unset]) rfl kS) ?_
    show own_G p.tables e below _ (T6.setTop (mkF m 95 #[.val (.int p1), .val (.int p2), .val (.long q3), .second, .val (.int (4 : Int32)), .val (.ref w_MONTH), .unset, .unset, .unset, .unset, .unset, .unset, .unset] []))
    refine own_st (fun _ kS => X6.ldc2Long hx hown (mvT hZ (hw _ (List.mem_of_getElem? (i := 18) rfl))) (g := (mkF m 95 #[.val (.int p1), .val (.int p2), .val (.long q3), .second, .val (.int (4 : Int32)), .val (.ref w_MONTH), .unset, .unset, .unset, .unset, .unset, .unset, .unset] [])) rfl (hb hby at_95) _ kS) ?_
    show own_G p.tables e below _ (T6.setTop (mkF m 98 #[.val (.int p1), .val (.int p2), .val (.long q3), .second, .val (.int (4 : Int32)), .val (.ref w_MONTH), .unset, .unset, .unset, .unset, .unset, .unset, .unset] [(.long (18 : Int64))]))
    refine own_st (fun _ kS => XT.lstore X6.here hx rfl (hb hby at_98) rfl (l' := #[.val (.int p1), .val (.int p2), .val (.long q3), .second, .val (.int (4 : Int32)), .val (.ref w_MONTH), .val (.long (18 : Int64)), .second, .unset, .unset, .unset, .unset, .unset]) rfl kS) ?_
    show own_G p.tables e below _ (T6.setTop (mkF m 100 #[.val (.int p1), .val (.int p2), .val (.long q3), .second, .val (.int (4 : Int32)), .val (.ref w_MONTH), .val (.long (18 : Int64)), .second, .unset, .unset, .unset, .unset, .unset] []))
    refine own_st (fun _ kS => XS.goto X6.here hx rfl (pc0 := 100) (pc' := 111) rfl (hb hby at_100) (by decide) (by decide) kS) ?_
    show own_G p.tables e below _ (T6.setTop (mkF m 111 #[.val (.int p1), .val (.int p2), .val (.long q3), .second, .val (.int (4 : Int32)), .val (.ref w_MONTH), .val (.long (18 : Int64)), .second, .unset, .unset, .unset, .unset, .unset] []))
    exact sg_A hx hby hml hown hlk hret hZ hw Z0  X6 e6 N0 O0 p1 p2 q3 (4 : Int32) w_MONTH (18 : Int64) (18 : Int32) E_MONTH F_MONTH_maxInterval (by decide)
  · rw [hk1]
    show own_G p.tables e below _ (s₁.setTop (mkF m 7 #[.val (.int p1), .val (.int p2), .val (.long q3), .second, .unset, .unset, .unset, .unset, .unset, .unset, .unset, .unset, .unset] [(.int (5 : Int32))]))
    refine own_st (fun _ kS => XS.istore X0.here hx rfl (hb hby at_7) rfl (l' := #[.val (.int p1), .val (.int p2), .val (.long q3), .second, .val (.int (5 : Int32)), .unset, .unset, .unset, .unset, .unset, .unset, .unset, .unset]) rfl kS) ?_
    show own_G p.tables e below _ (s₁.setTop (mkF m 9 #[.val (.int p1), .val (.int p2), .val (.long q3), .second, .val (.int (5 : Int32)), .unset, .unset, .unset, .unset, .unset, .unset, .unset, .unset] []))
    refine own_st (fun _ kS => XS.iload X0.here hx rfl (hb hby at_9) rfl kS) ?_
    show own_G p.tables e below _ (s₁.setTop (mkF m 11 #[.val (.int p1), .val (.int p2), .val (.long q3), .second, .val (.int (5 : Int32)), .unset, .unset, .unset, .unset, .unset, .unset, .unset, .unset] [(.int (5 : Int32))]))
    refine own_st (fun _ kS => XS.ifYes X0.here hx rfl (pc0 := 11) (pc' := 27) rfl (hb hby at_11) rfl ((if0 _ _).trans (feq (by decide : ¬ ((5 : Int32) = (0 : Int32)))).2) (by decide) (by decide) kS) ?_
    show own_G p.tables e below _ (s₁.setTop (mkF m 27 #[.val (.int p1), .val (.int p2), .val (.long q3), .second, .val (.int (5 : Int32)), .unset, .unset, .unset, .unset, .unset, .unset, .unset, .unset] []))
    refine own_st (fun _ kS => XS.iload X0.here hx rfl (hb hby at_27) rfl kS) ?_
    show own_G p.tables e below _ (s₁.setTop (mkF m 29 #[.val (.int p1), .val (.int p2), .val (.long q3), .second, .val (.int (5 : Int32)), .unset, .unset, .unset, .unset, .unset, .unset, .unset, .unset] [(.int (5 : Int32))]))
    refine own_st (fun _ kS => XS.iconst X0.here hx rfl (hb hby at_29) kS) ?_
    show own_G p.tables e below _ (s₁.setTop (mkF m 30 #[.val (.int p1), .val (.int p2), .val (.long q3), .second, .val (.int (5 : Int32)), .unset, .unset, .unset, .unset, .unset, .unset, .unset, .unset] [(.int (1 : Int32)), (.int (5 : Int32))]))
    refine own_st (fun _ kS => XS.icmpYes X0.here hx rfl (pc0 := 30) (pc' := 46) rfl (hb hby at_30) rfl (feq (by decide : ¬ ((5 : Int32) = (1 : Int32)))).2 (by decide) (by decide) kS) ?_
    show own_G p.tables e below _ (s₁.setTop (mkF m 46 #[.val (.int p1), .val (.int p2), .val (.long q3), .second, .val (.int (5 : Int32)), .unset, .unset, .unset, .unset, .unset, .unset, .unset, .unset] []))
    refine own_st (fun _ kS => XS.iload X0.here hx rfl (hb hby at_46) rfl kS) ?_
    show own_G p.tables e below _ (s₁.setTop (mkF m 48 #[.val (.int p1), .val (.int p2), .val (.long q3), .second, .val (.int (5 : Int32)), .unset, .unset, .unset, .unset, .unset, .unset, .unset, .unset] [(.int (5 : Int32))]))
    refine own_st (fun _ kS => XS.iconst X0.here hx rfl (hb hby at_48) kS) ?_
    show own_G p.tables e below _ (s₁.setTop (mkF m 49 #[.val (.int p1), .val (.int p2), .val (.long q3), .second, .val (.int (5 : Int32)), .unset, .unset, .unset, .unset, .unset, .unset, .unset, .unset] [(.int (2 : Int32)), (.int (5 : Int32))]))
    refine own_st (fun _ kS => XS.icmpYes X0.here hx rfl (pc0 := 49) (pc' := 65) rfl (hb hby at_49) rfl (feq (by decide : ¬ ((5 : Int32) = (2 : Int32)))).2 (by decide) (by decide) kS) ?_
    show own_G p.tables e below _ (s₁.setTop (mkF m 65 #[.val (.int p1), .val (.int p2), .val (.long q3), .second, .val (.int (5 : Int32)), .unset, .unset, .unset, .unset, .unset, .unset, .unset, .unset] []))
    refine own_st (fun _ kS => XS.iload X0.here hx rfl (hb hby at_65) rfl kS) ?_
    show own_G p.tables e below _ (s₁.setTop (mkF m 67 #[.val (.int p1), .val (.int p2), .val (.long q3), .second, .val (.int (5 : Int32)), .unset, .unset, .unset, .unset, .unset, .unset, .unset, .unset] [(.int (5 : Int32))]))
    refine own_st (fun _ kS => XS.iconst X0.here hx rfl (hb hby at_67) kS) ?_
    show own_G p.tables e below _ (s₁.setTop (mkF m 68 #[.val (.int p1), .val (.int p2), .val (.long q3), .second, .val (.int (5 : Int32)), .unset, .unset, .unset, .unset, .unset, .unset, .unset, .unset] [(.int (3 : Int32)), (.int (5 : Int32))]))
    refine own_st (fun _ kS => XS.icmpYes X0.here hx rfl (pc0 := 68) (pc' := 84) rfl (hb hby at_68) rfl (feq (by decide : ¬ ((5 : Int32) = (3 : Int32)))).2 (by decide) (by decide) kS) ?_
    show own_G p.tables e below _ (s₁.setTop (mkF m 84 #[.val (.int p1), .val (.int p2), .val (.long q3), .second, .val (.int (5 : Int32)), .unset, .unset, .unset, .unset, .unset, .unset, .unset, .unset] []))
    refine own_st (fun _ kS => XS.iload X0.here hx rfl (hb hby at_84) rfl kS) ?_
    show own_G p.tables e below _ (s₁.setTop (mkF m 86 #[.val (.int p1), .val (.int p2), .val (.long q3), .second, .val (.int (5 : Int32)), .unset, .unset, .unset, .unset, .unset, .unset, .unset, .unset] [(.int (5 : Int32))]))
    refine own_st (fun _ kS => XS.iconst X0.here hx rfl (hb hby at_86) kS) ?_
    show own_G p.tables e below _ (s₁.setTop (mkF m 87 #[.val (.int p1), .val (.int p2), .val (.long q3), .second, .val (.int (5 : Int32)), .unset, .unset, .unset, .unset, .unset, .unset, .unset, .unset] [(.int (4 : Int32)), (.int (5 : Int32))]))
    refine own_st (fun _ kS => XS.icmpYes X0.here hx rfl (pc0 := 87) (pc' := 103) rfl (hb hby at_87) rfl (feq (by decide : ¬ ((5 : Int32) = (4 : Int32)))).2 (by decide) (by decide) kS) ?_
    show own_G p.tables e below _ (s₁.setTop (mkF m 103 #[.val (.int p1), .val (.int p2), .val (.long q3), .second, .val (.int (5 : Int32)), .unset, .unset, .unset, .unset, .unset, .unset, .unset, .unset] []))
    obtain ⟨T7, X7, e7, st7⟩ := getS2 X0 hx hZ hown (host := "") (Or.inl (hw _ (List.mem_of_getElem? (i := 19) rfl))) Via.refl e0 (Sta.ext O0.2 S_YEAR) (g := (mkF m 103 #[.val (.int p1), .val (.int p2), .val (.long q3), .second, .val (.int (5 : Int32)), .unset, .unset, .unset, .unset, .unset, .unset, .unset, .unset] [])) rfl (hb hby at_103)
    refine own_st st7 ?_
    show own_G p.tables e below _ (T7.setTop (mkF m 106 #[.val (.int p1), .val (.int p2), .val (.long q3), .second, .val (.int (5 : Int32)), .unset, .unset, .unset, .unset, .unset, .unset, .unset, .unset] [(.ref w_YEAR)]))
    refine own_st (fun _ kS => XS.astore X7.here hx rfl (hb hby at_106) rfl rfl (l' := #[.val (.int p1), .val (.int p2), .val (.long q3), .second, .val (.int (5 : Int32)), .val (.ref w_YEAR), .unset, .unset, .unset, .unset, .unset, .unset, .unset]) rfl kS) ?_
    show own_G p.tables e below _ (T7.setTop (mkF m 108 #[.val (.int p1), .val (.int p2), .val (.long q3), .second, .val (.int (5 : Int32)), .val (.ref w_YEAR), .unset, .unset, .unset, .unset, .unset, .unset, .unset] []))
    refine own_st (fun _ kS => XT.lconst X7.here hx rfl (hb hby at_108) kS) ?_
    show own_G p.tables e below _ (T7.setTop (mkF m 109 #[.val (.int p1), .val (.int p2), .val (.long q3), .second, .val (.int (5 : Int32)), .val (.ref w_YEAR), .unset, .unset, .unset, .unset, .unset, .unset, .unset] [(.long (1 : Int64))]))
    refine own_st (fun _ kS => XT.lstore X7.here hx rfl (hb hby at_109) rfl (l' := #[.val (.int p1), .val (.int p2), .val (.long q3), .second, .val (.int (5 : Int32)), .val (.ref w_YEAR), .val (.long (1 : Int64)), .second, .unset, .unset, .unset, .unset, .unset]) rfl kS) ?_
    show own_G p.tables e below _ (T7.setTop (mkF m 111 #[.val (.int p1), .val (.int p2), .val (.long q3), .second, .val (.int (5 : Int32)), .val (.ref w_YEAR), .val (.long (1 : Int64)), .second, .unset, .unset, .unset, .unset, .unset] []))
    exact sg_A hx hby hml hown hlk hret hZ hw Z0  X7 e7 N0 O0 p1 p2 q3 (5 : Int32) w_YEAR (1 : Int64) (1 : Int32) E_YEAR F_YEAR_maxInterval (by decide)
set_option maxRecDepth 65536 in
set_option maxHeartbeats 40000000 in
theorem comes_1 {Post : Tables → Env → Array Value → State → Outcome → State → Prop} (hpost : ∀ tb e args s v u, (limb_1_1.after args s (.returned v) u = true ∧ limb_1_2.after args s (.returned v) u = true ∧ True) → FrameEnd s (.returned v) u (Jvm.fieldLocs frame_1_writes args s ++ Jvm.arrayLocs frame_1_arrays args s ++ Jvm.staticLocs frame_1_statics s) 0 0 → Post tb e args s (.returned v) u) :
    ArmFor flags0 classFile x code maxLocals ret World_1 tables_1 room_1 Calls_1 rest_1 Pre_1 Post := by
  intro l hfl _ _ p e ha hc hk s m args below hf hA hF happ hP
  obtain ⟨hcalls, hrest, hpre⟩ := hP
  obtain ⟨-, -, -, hnamed, -, -, -, hat⟩ := (Spec.applies_iff hf).mp happ
  obtain ⟨hg, hn⟩ := and_e (Cond.before_iff.mp (show (Jvm.Cond.and given_1 narrow_1).before args s = true from hpre))
  obtain ⟨g1a, g1b⟩ := and_e hg
  obtain ⟨g2a, g2b⟩ := and_e g1b
  obtain ⟨g3a, g3b⟩ := and_e g2b
  obtain ⟨w0, w1, w2, rfl⟩ : ∃ w0 w1 w2 : Value, args = #[w0, w1, w2] := by
    have hs : args.size = 3 := by simpa [Cond.value, given_1] using g1a
    obtain ⟨L⟩ := args
    match L, hs with
    | [w0, w1, w2], _ => exact ⟨w0, w1, w2, rfl⟩
  have hw := fun d (hd : d ∈ tables_1) => atoms_spec (ws := Jvm.Cond.code x code maxLocals ret :: tables_1) hat d (List.mem_cons_of_mem _ hd)
  have hfit : Fit s := fun {y c} hc i hi => by
    obtain ⟨ha, rfl⟩ := Array.getElem?_eq_some_iff.mp hc
    have q := List.all_eq_true.mp ((Array.all_eq_true_iff_forall_mem.mp hF) _ (Array.getElem_mem ha)) i (List.mem_range.mpr hi)
    simpa [Array.getElem?_eq_getElem hi] using q
  obtain ⟨i0, ei0⟩ := is_v g2a
  obtain rfl : w0 = (.int i0) := Option.some.inj ei0
  obtain ⟨i1, ei1⟩ := is_v g3a
  obtain rfl : w1 = (.int i1) := Option.some.inj ei1
  obtain ⟨i2, ei2⟩ := isL_v g3b
  obtain rfl : w2 = (.long i2) := Option.some.inj ei2
  obtain ⟨g4a, g4b⟩ := and_e hn
  obtain ⟨g5a, g5b⟩ := and_e g4b
  obtain ⟨g6a, g6b⟩ := and_e g5b
  obtain ⟨g7a, g7b⟩ := and_e g6b
  obtain ⟨g8a, g8b⟩ := and_e g7b
  obtain ⟨g9a, g9b⟩ := and_e g8b
  obtain ⟨g10a, g10b⟩ := and_e g9b
  obtain ⟨g11a, g11b⟩ := and_e g10b
  obtain ⟨g12a, g12b⟩ := and_e g11b
  obtain ⟨g13a, g13b⟩ := and_e g12b
  obtain ⟨g14a, g14b⟩ := and_e g13b
  obtain ⟨w_MINUTE, v_MINUTE⟩ := exa_v g4a
  have E_MINUTE := Exa.start v_MINUTE g4a
  have S_MINUTE := Sta.start v_MINUTE (Or.inr ⟨(hw _ (List.mem_of_getElem? (i := 2) rfl)), (hw _ (List.mem_of_getElem? (i := 3) rfl))⟩)
  obtain ⟨w_HOUR, v_HOUR⟩ := exa_v g6a
  have E_HOUR := Exa.start v_HOUR g6a
  have S_HOUR := Sta.start v_HOUR (Or.inr ⟨(hw _ (List.mem_of_getElem? (i := 2) rfl)), (hw _ (List.mem_of_getElem? (i := 15) rfl))⟩)
  obtain ⟨w_MONTH, v_MONTH⟩ := exa_v g8a
  have E_MONTH := Exa.start v_MONTH g8a
  have S_MONTH := Sta.start v_MONTH (Or.inr ⟨(hw _ (List.mem_of_getElem? (i := 2) rfl)), (hw _ (List.mem_of_getElem? (i := 17) rfl))⟩)
  obtain ⟨w_YEAR, v_YEAR⟩ := exa_v g9a
  have E_YEAR := Exa.start v_YEAR g9a
  have S_YEAR := Sta.start v_YEAR (Or.inr ⟨(hw _ (List.mem_of_getElem? (i := 2) rfl)), (hw _ (List.mem_of_getElem? (i := 20) rfl))⟩)
  obtain ⟨w_DAY, v_DAY⟩ := exa_v g10a
  have E_DAY := Exa.start v_DAY g10a
  have S_DAY := Sta.start v_DAY (Or.inr ⟨(hw _ (List.mem_of_getElem? (i := 2) rfl)), (hw _ (List.mem_of_getElem? (i := 22) rfl))⟩)
  obtain ⟨w_WEEK, v_WEEK⟩ := exa_v g13a
  have E_WEEK := Exa.start v_WEEK g13a
  have S_WEEK := Sta.start v_WEEK (Or.inr ⟨(hw _ (List.mem_of_getElem? (i := 2) rfl)), (hw _ (List.mem_of_getElem? (i := 25) rfl))⟩)
  have F_MINUTE_maxInterval : Fld s s.heap w_MINUTE "com/example/recurring_jobs/recurringjobs/model/Frequency" "maxInterval" "I" (.int (1000 : Int32)) := Fld.start ((fld_at v_MINUTE).symm.trans (eqv_i (Term.int_eval (1000)) g5a))
  have F_HOUR_maxInterval : Fld s s.heap w_HOUR "com/example/recurring_jobs/recurringjobs/model/Frequency" "maxInterval" "I" (.int (1000 : Int32)) := Fld.start ((fld_at v_HOUR).symm.trans (eqv_i (Term.int_eval (1000)) g7a))
  have F_MONTH_maxInterval : Fld s s.heap w_MONTH "com/example/recurring_jobs/recurringjobs/model/Frequency" "maxInterval" "I" (.int (18 : Int32)) := Fld.start ((fld_at v_MONTH).symm.trans (eqv_i (Term.int_eval (18)) g11a))
  have F_DAY_maxInterval : Fld s s.heap w_DAY "com/example/recurring_jobs/recurringjobs/model/Frequency" "maxInterval" "I" (.int (548 : Int32)) := Fld.start ((fld_at v_DAY).symm.trans (eqv_i (Term.int_eval (548)) g12a))
  have F_WEEK_maxInterval : Fld s s.heap w_WEEK "com/example/recurring_jobs/recurringjobs/model/Frequency" "maxInterval" "I" (.int (78 : Int32)) := Fld.start ((fld_at v_WEEK).symm.trans (eqv_i (Term.int_eval (78)) g14a))
  have F_YEAR_maxInterval : Fld s s.heap w_YEAR "com/example/recurring_jobs/recurringjobs/model/Frequency" "maxInterval" "I" (.int (1 : Int32)) := Fld.start ((fld_at v_YEAR).symm.trans (eqv_i (Term.int_eval (1)) g14b))
  obtain ⟨n, o, h1, h2, h3, _, L, rfl, ⟨rfl, N⟩, hq⟩ := rm_law l s _ hw tables_1 i0 i1 i2 w_MINUTE w_HOUR w_DAY w_WEEK w_MONTH w_YEAR s.heap s.heap.size (Nat.le_refl _) (Old.start s) S_MINUTE S_HOUR S_DAY S_WEEK S_MONTH S_YEAR E_MINUTE E_HOUR E_DAY E_WEEK E_MONTH E_YEAR F_MINUTE_maxInterval F_HOUR_maxInterval F_DAY_maxInterval F_WEEK_maxInterval F_MONTH_maxInterval F_YEAR_maxInterval p e ha hc hk s m _ below hf ((Spec.applies_iff_loose hf).mp happ).1 ⟨rfl, State.Warmed39.refl s, rfl⟩ trivial
  refine ⟨n, _, h1, h2, h3, hpost _ _ _ _ _ _ ⟨Cond.after_iff.mpr rfl, Cond.after_iff.mpr (eq_i res_at (Term.int_eval (1)) rfl), trivial⟩ ⟨hq.1, hq.2.1, (hq.2.2.sift fun y hy => Or.inr (N y hy)).mono (by decide) (by decide)⟩⟩
theorem main_1_1 : Claimed_1_1 := comes_1 fun _ _ _ _ _ _ h hF => ⟨h.1, hF⟩
theorem main_1_2 : Claimed_1_2 := comes_1 fun _ _ _ _ _ _ h hF => ⟨h.2.1, hF⟩
end Jvm.Pilot.@@N@@
namespace Jvm.Pilot.@@N@@
open Jvm Jvm.ClassFile Sem Op Lib Jvm.Free Jvm.Stand Jvm.Pilot.@@N@@.Jvm.D
/-! MADE BY PROGRAM (witnessworld.py) out of the Statement's table words and the real class files: 12 classes; the members and pool entries that the words name. The judged class is class 1, her method 1. -/
namespace start1
open Jvm.ClassFile
def u (s : String) : CpInfo := .utf8 (stringToUtf16 s)
/-- a pool by its gaps: so many unusable entries, then the entry; so many at the end -/
def gap : Nat → List CpInfo → List CpInfo
  | 0, r => r
  | n + 1, r => .unusable :: gap n r
def poolList (es : List (Nat × CpInfo)) (last : Nat) : List CpInfo := es.foldr (fun e r => gap e.1 (e.2 :: r)) (gap last [])
def pool (es : List (Nat × CpInfo)) (last : Nat) : Array CpInfo := ⟨poolList es last⟩
def fileOf (pool : Array CpInfo) (this : Nat) (attrs : Array Attribute := #[]) (ms : Array MethodInfo := #[]) (fl : Nat := 33) (sup : Nat := 0) (ifs : Array Nat := #[]) (fds : Array FieldInfo := #[]) : ClassFile where
  minorVersion := 0
  majorVersion := 65
  constantPool := pool
  accessFlags := fl
  thisClass := this
  superClass := sup
  interfaces := ifs
  fields := fds
  methods := ms
  attributes := attrs
def plain (name : String) (sup : Option ClassId) : Class where
  name := name
  kind := .ordinary
  loader := none
  accessFlags := 33
  super := sup
  interfaces := #[]
  cf := none
  fields := #[]
  methods := #[]
  instanceTypes := #[]
  staticTypes := #[]
  resolved := #[]
  callSites := []
  init := .initialized
  statics := none
  mirror := none

def pool0 : Array CpInfo := pool [(5, u "<init>"), (0, u "()V"), (1, .class_ 10), (1, u "java/lang/Object")] 113

def k0m0 : Method := { name := "<init>", desc := "()V", sig := { parameters := [], returnType := none }, accessFlags := 1, code := none }
/-- java/lang/Object -/
def k0 : Class := { plain "java/lang/Object" none with
  accessFlags := 33
  interfaces := #[]
  cf := some (fileOf pool0 8 #[] #[{ accessFlags := 1, nameIndex := 5, descriptorIndex := 6, attributes := #[] }] 33 0 #[] #[])
  fields := #[]
  methods := #[k0m0]
  instanceTypes := #[]
  staticTypes := #[]
  resolved := Array.replicate 124 none
  statics := none }

def pool1 : Array CpInfo := pool [(2, .class_ 4), (1, u "java/lang/Object"), (0, u "<init>"), (0, u "()V"), (0, .integer 2147483647), (0, .fieldref 9 10), (0, .class_ 11), (0, .nameAndType 12 13), (0, u "com/example/recurring_jobs/recurringjobs/model/Frequency"), (0, u "MINUTE"), (0, u "Lcom/example/recurring_jobs/recurringjobs/model/Frequency;"), (0, .long 1000), (1, .fieldref 9 17), (0, .nameAndType 18 13), (0, u "HOUR"), (0, .fieldref 9 20), (0, .nameAndType 21 13), (0, u "DAY"), (0, .long 548), (1, .fieldref 9 25), (0, .nameAndType 26 13), (0, u "WEEK"), (0, .long 78), (1, .fieldref 9 30), (0, .nameAndType 31 13), (0, u "MONTH"), (0, .long 18), (1, .fieldref 9 35), (0, .nameAndType 36 13), (0, u "YEAR"), (2, .long 9223372036854775807), (1, .long 9223372036854775808), (1, .methodref 9 44), (0, .nameAndType 45 46), (0, u "allowsInterval"), (0, u "(J)Z"), (0, .class_ 48), (0, u "com/example/recurring_jobs/recurringjobs/model/FrequencyAllowsIntervalPinLaw"), (2, u "law"), (0, u "(IIJ)Z")] 3

def k1m0 : Method := { name := "<init>", desc := "()V", sig := { parameters := [], returnType := none }, accessFlags := 1, code := none }
def k1c1 : Code := { maxStack := 4, maxLocals := 13, code := code, exceptionTable := #[], attributes := #[] }
def k1m1 : Method := { name := "law", desc := "(IIJ)Z", sig := { parameters := [.int, .int, .long], returnType := some .boolean }, accessFlags := 9, code := some k1c1 }
/-- com/example/recurring_jobs/recurringjobs/model/FrequencyAllowsIntervalPinLaw -/
def k1 : Class := { plain "com/example/recurring_jobs/recurringjobs/model/FrequencyAllowsIntervalPinLaw" (some 0) with
  accessFlags := 49
  interfaces := #[]
  cf := some (fileOf pool1 47 #[] #[{ accessFlags := 1, nameIndex := 5, descriptorIndex := 6, attributes := #[] }, { accessFlags := 9, nameIndex := 51, descriptorIndex := 52, attributes := #[] }] 49 2 #[] #[])
  fields := #[]
  methods := #[k1m0, k1m1]
  instanceTypes := #[]
  staticTypes := #[]
  resolved := Array.replicate 56 none
  statics := none }

def pool2 : Array CpInfo := pool [(1, .class_ 2), (0, u "java/lang/constant/Constable"), (0, .class_ 4), (0, u "java/lang/Object")] 6

/-- java/lang/constant/Constable -/
def k2 : Class := { plain "java/lang/constant/Constable" (some 0) with
  accessFlags := 1537
  interfaces := #[]
  cf := some (fileOf pool2 1 #[] #[] 1537 3 #[] #[])
  fields := #[]
  methods := #[]
  instanceTypes := #[]
  staticTypes := #[]
  resolved := Array.replicate 11 none
  statics := none }

def pool3 : Array CpInfo := pool [(1, .class_ 2), (0, u "java/lang/Comparable"), (0, .class_ 4), (0, u "java/lang/Object")] 7

/-- java/lang/Comparable -/
def k3 : Class := { plain "java/lang/Comparable" (some 0) with
  accessFlags := 1537
  interfaces := #[]
  cf := some (fileOf pool3 1 #[] #[] 1537 3 #[] #[])
  fields := #[]
  methods := #[]
  instanceTypes := #[]
  staticTypes := #[]
  resolved := Array.replicate 12 none
  statics := none }

def pool4 : Array CpInfo := pool [(1, .class_ 2), (0, u "java/io/Serializable"), (0, .class_ 4), (0, u "java/lang/Object")] 2

/-- java/io/Serializable -/
def k4 : Class := { plain "java/io/Serializable" (some 0) with
  accessFlags := 1537
  interfaces := #[]
  cf := some (fileOf pool4 1 #[] #[] 1537 3 #[] #[])
  fields := #[]
  methods := #[]
  instanceTypes := #[]
  staticTypes := #[]
  resolved := Array.replicate 7 none
  statics := none }

def pool5 : Array CpInfo := pool [(2, .class_ 4), (1, u "java/lang/Enum"), (0, u "name"), (0, u "Ljava/lang/String;"), (2, u "ordinal"), (0, u "I"), (1, .class_ 14), (1, u "java/lang/Object"), (4, u "hash"), (86, .class_ 108), (1, u "java/lang/Enum$EnumDesc"), (2, .class_ 112), (0, u "java/lang/constant/Constable"), (0, .class_ 114), (0, u "java/lang/Comparable"), (0, .class_ 116), (0, u "java/io/Serializable")] 87

/-- java/lang/Enum -/
def k5 : Class := { plain "java/lang/Enum" (some 0) with
  accessFlags := 1057
  interfaces := #[2, 3, 4]
  cf := some (fileOf pool5 2 #[.nestMembers #[106]] #[] 1057 12 #[111, 113, 115] #[{ accessFlags := 18, nameIndex := 5, descriptorIndex := 6, attributes := #[] }, { accessFlags := 18, nameIndex := 9, descriptorIndex := 10, attributes := #[] }, { accessFlags := 2, nameIndex := 19, descriptorIndex := 10, attributes := #[] }])
  fields := #[{ name := "name", type := (.object "java/lang/String"), accessFlags := 18, slot := 0, constantValue := 0 }, { name := "ordinal", type := .int, accessFlags := 18, slot := 1, constantValue := 0 }, { name := "hash", type := .int, accessFlags := 2, slot := 2, constantValue := 0 }]
  methods := #[]
  instanceTypes := #[(.object "java/lang/String"), .int, .int]
  staticTypes := #[]
  resolved := Array.replicate 204 none
  statics := none }

def pool6 : Array CpInfo := pool [(1, .class_ 2), (0, u "com/example/recurring_jobs/recurringjobs/model/Frequency"), (2, u "MINUTE"), (0, u "Lcom/example/recurring_jobs/recurringjobs/model/Frequency;"), (2, u "HOUR"), (2, u "DAY"), (2, u "WEEK"), (2, u "MONTH"), (2, u "YEAR"), (2, u "$VALUES"), (0, u "[Lcom/example/recurring_jobs/recurringjobs/model/Frequency;"), (6, .class_ 34), (1, u "java/lang/Enum"), (8, u "unit"), (0, u "Ljava/time/temporal/ChronoUnit;"), (0, .fieldref 1 46), (0, .nameAndType 47 48), (0, u "maxInterval"), (0, u "I"), (77, u "allowsInterval"), (0, u "(J)Z")] 6

def k6c0 : Code := { maxStack := 4, maxLocals := 3, code := prog_8_method_8_code, exceptionTable := #[], attributes := #[] }
def k6m0 : Method := { name := "allowsInterval", desc := "(J)Z", sig := { parameters := [.long], returnType := some .boolean }, accessFlags := 1, code := some k6c0 }
/-- com/example/recurring_jobs/recurringjobs/model/Frequency -/
def k6 : Class := { plain "com/example/recurring_jobs/recurringjobs/model/Frequency" (some 5) with
  accessFlags := 16433
  interfaces := #[]
  cf := some (fileOf pool6 1 #[] #[{ accessFlags := 1, nameIndex := 126, descriptorIndex := 127, attributes := #[] }] 16433 32 #[] #[{ accessFlags := 16409, nameIndex := 5, descriptorIndex := 6, attributes := #[] }, { accessFlags := 16409, nameIndex := 9, descriptorIndex := 6, attributes := #[] }, { accessFlags := 16409, nameIndex := 12, descriptorIndex := 6, attributes := #[] }, { accessFlags := 16409, nameIndex := 15, descriptorIndex := 6, attributes := #[] }, { accessFlags := 16409, nameIndex := 18, descriptorIndex := 6, attributes := #[] }, { accessFlags := 16409, nameIndex := 21, descriptorIndex := 6, attributes := #[] }, { accessFlags := 18, nameIndex := 43, descriptorIndex := 44, attributes := #[] }, { accessFlags := 18, nameIndex := 47, descriptorIndex := 48, attributes := #[] }, { accessFlags := 4122, nameIndex := 24, descriptorIndex := 25, attributes := #[] }])
  fields := #[{ name := "MINUTE", type := (.object "com/example/recurring_jobs/recurringjobs/model/Frequency"), accessFlags := 16409, slot := 0, constantValue := 0 }, { name := "HOUR", type := (.object "com/example/recurring_jobs/recurringjobs/model/Frequency"), accessFlags := 16409, slot := 1, constantValue := 0 }, { name := "DAY", type := (.object "com/example/recurring_jobs/recurringjobs/model/Frequency"), accessFlags := 16409, slot := 2, constantValue := 0 }, { name := "WEEK", type := (.object "com/example/recurring_jobs/recurringjobs/model/Frequency"), accessFlags := 16409, slot := 3, constantValue := 0 }, { name := "MONTH", type := (.object "com/example/recurring_jobs/recurringjobs/model/Frequency"), accessFlags := 16409, slot := 4, constantValue := 0 }, { name := "YEAR", type := (.object "com/example/recurring_jobs/recurringjobs/model/Frequency"), accessFlags := 16409, slot := 5, constantValue := 0 }, { name := "unit", type := (.object "java/time/temporal/ChronoUnit"), accessFlags := 18, slot := 3, constantValue := 0 }, { name := "maxInterval", type := .int, accessFlags := 18, slot := 4, constantValue := 0 }, { name := "$VALUES", type := (.array (.object "com/example/recurring_jobs/recurringjobs/model/Frequency")), accessFlags := 4122, slot := 6, constantValue := 0 }]
  methods := #[k6m0]
  instanceTypes := #[(.object "java/lang/String"), .int, .int, (.object "java/time/temporal/ChronoUnit"), .int]
  staticTypes := #[(.object "com/example/recurring_jobs/recurringjobs/model/Frequency"), (.object "com/example/recurring_jobs/recurringjobs/model/Frequency"), (.object "com/example/recurring_jobs/recurringjobs/model/Frequency"), (.object "com/example/recurring_jobs/recurringjobs/model/Frequency"), (.object "com/example/recurring_jobs/recurringjobs/model/Frequency"), (.object "com/example/recurring_jobs/recurringjobs/model/Frequency"), (.array (.object "com/example/recurring_jobs/recurringjobs/model/Frequency"))]
  resolved := Array.replicate 134 none
  statics := some 0 }

def pool7 : Array CpInfo := pool [(1, u "java/lang/Cloneable"), (0, .class_ 1), (0, u "java/lang/Object"), (0, .class_ 3)] 3

/-- java/lang/Cloneable -/
def k7 : Class := { plain "java/lang/Cloneable" (some 0) with
  accessFlags := 1537
  interfaces := #[]
  cf := some (fileOf pool7 2 #[] #[] 1537 4 #[] #[])
  fields := #[]
  methods := #[]
  instanceTypes := #[]
  staticTypes := #[]
  resolved := Array.replicate 8 none
  statics := none }

/-- the primitive byte -/
def k8 : Class := { plain "byte" none with kind := .primitive 'B', accessFlags := 0x411 }
/-- [B -/
def k9 : Class := { plain "[B" (some 0) with kind := .array 8 .byte, interfaces := #[7, 4], accessFlags := 1041 }

/-- the primitive int -/
def k10 : Class := { plain "int" none with kind := .primitive 'I', accessFlags := 0x411 }
/-- [I -/
def k11 : Class := { plain "[I" (some 0) with kind := .array 10 .int, interfaces := #[7, 4], accessFlags := 1041 }

def heap : Heap := #[{ cls := 6, slots := #[.ref 1, .ref 2, .ref 3, .ref 4, .ref 5, .ref 6, .null], vm := .statics 6 },
  { cls := 6, slots := #[.null, .int 0, .int 0, .null, .int 1000], vm := .none },
  { cls := 6, slots := #[.null, .int 1, .int 0, .null, .int 1000], vm := .none },
  { cls := 6, slots := #[.null, .int 2, .int 0, .null, .int 548], vm := .none },
  { cls := 6, slots := #[.null, .int 3, .int 0, .null, .int 78], vm := .none },
  { cls := 6, slots := #[.null, .int 4, .int 0, .null, .int 18], vm := .none },
  { cls := 6, slots := #[.null, .int 5, .int 0, .null, .int 1], vm := .none }]
def classes : Array Class := #[k0, k1, k2, k3, k4, k5, k6, k7, k8, k9, k10, k11]
def interned : List (Array UInt16 × Addr) := []
def slotsUsed : Nat := 37
def theMethod : MethodId := ⟨1, 1⟩
def args0 : Array Value := #[.int 5, .int 1, .long 7]
def aboutOver (below : List Frame) : State where
  vm := { classes := classes, interned := interned.toArray }
  heap := heap
  slotsUsed := slotsUsed
  threads := #[{ frames := .invoking theMethod args0 :: below }]
def below0 : List Frame := [.native { method := ⟨0, 0⟩, args := #[] }]
def about1 : State := aboutOver below0
def p0 : Program := .bare "" "" ""
def e0 : Env := launch0.env 0 0 0
theorem w_frames : about1.frames = Frame.invoking theMethod args0 :: below0 := rfl
set_option maxRecDepth 65536 in
theorem w_args : argsFit about1.vm theMethod args0 = true := by decide +kernel
set_option maxRecDepth 65536 in
theorem w_heap : heapFits about1 = true := by decide +kernel
set_option maxRecDepth 65536 in
theorem w_runnable : about1.curStatus? = some .runnable := by decide +kernel
set_option maxRecDepth 65536 in
theorem w_alone : about1.alone = true := by decide +kernel
set_option maxRecDepth 65536 in
theorem w_named : about1.methodNamed? x = some theMethod := by decide +kernel
set_option maxRecDepth 65536 in
theorem w_hears : about1.hears theMethod below0 = true := by decide +kernel
set_option maxRecDepth 65536 in
theorem w_ripe : about1.ripe theMethod args0 below0 = true := by decide +kernel
theorem w_running : about1.status = .running := rfl
set_option maxRecDepth 65536 in
theorem w_room : about1.hasRoom e0.platform room_1 = true :=
  launch0.hasRoom_least _ room_1 (by decide +kernel) (by decide +kernel) (by decide +kernel) (by decide +kernel) (by decide +kernel) (by decide +kernel)
theorem allAtoms_all (ts : List Jvm.Cond) (a : Array Jvm.Value) (st : Jvm.State) : (allAtoms ts).before a st = ts.all (fun c => c.before a st) := by
  induction ts with
  | nil => rfl
  | cons c t ih =>
    show (Jvm.Cond.and c (allAtoms t)).before a st = _
    rw [Jvm.Cond.before_and, ih, List.all_cons]
def words1 : List Jvm.Cond := Jvm.Cond.code x code maxLocals ret :: tables_1
/-- a 'code' word, met by the world's own term for the bytes: nothing is compared byte by byte -/
theorem code_word {y : MethodName} {bytes : ByteArray} {mx : Nat} {rt : Option FieldType} {a : Array Value} {s : State} {m : MethodId} {meth : Method} {c : Code} (h1 : s.methodNamed? y = some m) (h2 : s.vm.method? m = some meth) (h3 : meth.code = some c) (h4 : c.code = bytes)
    (h5 : (c.maxLocals == mx && c.exceptionTable.isEmpty && decide (c.maxStack ≤ mostOperands) && decide (meth.sig.returnType = rt) && !meth.locks && decide (parseMethodDescriptor y.desc = some meth.sig)) = true) : (Jvm.Cond.code y bytes mx rt).before a s = true := by
  simp only [Bool.and_eq_true, beq_iff_eq, Bool.not_eq_true', decide_eq_true_eq] at h5
  obtain ⟨⟨⟨⟨⟨g1, g2⟩, g3⟩, g4⟩, g5⟩, g6⟩ := h5
  simp [Cond.before, Cond.holds, Cond.value, h1, h2, h3, h4, g1, g2, g3, g4, g5, g6]
def isCode : Jvm.Cond → Bool
  | .code _ _ _ _ => true
  | _ => false
theorem all_split {L : List Jvm.Cond} {P : Jvm.Cond → Bool} (h1 : L.all (fun c => isCode c || P c) = true) (h2 : ∀ c ∈ L.filter isCode, P c = true) : L.all P = true := by
  refine List.all_eq_true.mpr fun c hc => ?_
  have h := List.all_eq_true.mp h1 c hc
  rcases Bool.eq_false_or_eq_true (isCode c) with hi | hi
  · exact h2 c (List.mem_filter.mpr ⟨hc, hi⟩)
  · simpa [hi] using h
set_option maxRecDepth 65536 in
theorem w_c0 : (Jvm.Cond.code x code maxLocals ret).before args0 about1 = true := code_word (m := ⟨1, 1⟩) (meth := k1m1) (c := k1c1) (by decide +kernel) rfl rfl rfl (by decide +kernel)
set_option maxRecDepth 65536 in
theorem w_c1 : (Jvm.Cond.code ({ cls := "com/example/recurring_jobs/recurringjobs/model/Frequency", name := "allowsInterval", desc := "(J)Z" } : Jvm.MethodName) prog_8_method_8_code (3 : Nat) (Option.some Jvm.ClassFile.FieldType.boolean)).before args0 about1 = true := code_word (m := ⟨6, 0⟩) (meth := k6m0) (c := k6c0) (by decide +kernel) rfl rfl rfl (by decide +kernel)
def codes1 : List Jvm.Cond := [Jvm.Cond.code x code maxLocals ret, Jvm.Cond.code ({ cls := "com/example/recurring_jobs/recurringjobs/model/Frequency", name := "allowsInterval", desc := "(J)Z" } : Jvm.MethodName) prog_8_method_8_code (3 : Nat) (Option.some Jvm.ClassFile.FieldType.boolean)]
set_option maxRecDepth 65536 in
theorem codes_eq : words1.filter isCode = codes1 := rfl
theorem w_codes : ∀ c ∈ words1.filter isCode, c.before args0 about1 = true := by
  rw [codes_eq]
  intro c hc
  simp only [codes1, List.mem_cons, List.not_mem_nil, or_false] at hc
  rcases hc with rfl | rfl
  · exact w_c0
  · exact w_c1
set_option maxRecDepth 65536 in
theorem w_t1 : (words1.take 24).all (fun c => isCode c || c.before args0 about1) = true := by decide +kernel
set_option maxRecDepth 65536 in
theorem w_t2 : (words1.drop 24).all (fun c => isCode c || c.before args0 about1) = true := by decide +kernel
theorem w_tables : (allAtoms (Jvm.Cond.code x code maxLocals ret :: tables_1)).before args0 about1 = true := by
  rw [allAtoms_all]
  show words1.all (fun c => c.before args0 about1) = true
  refine all_split ?_ w_codes
  rw [← List.take_append_drop 24 words1, List.all_append, w_t1, w_t2]
  rfl
set_option maxRecDepth 65536 in
theorem w_case : (Jvm.Cond.and given_1 narrow_1).before args0 about1 = true := by decide +kernel
theorem w_applies : (headSpec (Jvm.Cond.code x code maxLocals ret :: tables_1) room_1).applies x e0.platform about1 = true :=
  (Spec.applies_iff w_frames).mpr ⟨w_running, w_runnable, w_alone, w_named, w_hears, w_ripe, w_room, w_tables⟩
theorem atStart : AtStart classFile x code maxLocals ret World_1 tables_1 room_1 Calls_1 rest_1 Pre_1 launch0 p0 e0 about1 theMethod args0 below0 :=
  ⟨lists_1, trivial, launch0.admits_env _ _ _, launch0.least_env, fairChoices_fair.cas, fairChoices_fair.clock, w_frames, w_args, w_heap, w_applies, trivial, trivial, w_case⟩
end start1
theorem witness_1 : WitnessClaimed_1 := ⟨start1.p0, start1.e0, start1.about1, start1.theMethod, start1.args0, start1.below0, start1.atStart⟩
end Jvm.Pilot.@@N@@
