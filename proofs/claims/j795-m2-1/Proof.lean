import JvmDerived
import JvmDerived.Pilot.@@N@@Statement
import JvmDerived.Pilot.@@N@@Code
set_option linter.unusedVariables false
set_option linter.unusedSimpArgs false
namespace Jvm.Pilot.@@N@@
open Jvm Jvm.ClassFile Sem Op Lib Jvm.Free Jvm.Stand Jvm.LawKit Jvm.RoadKit Bundle Jvm.Pilot.@@N@@.Jvm.D
section OwnKit
variable {p : Program} {l : Launch} {e : Env} {R : Room} {s : State} {m : MethodId} {args : Array Value} {below : List Frame} {meth : Method} {c : Code} {T : State} {locs : List Loc} {cells slots : Nat}
/-- from S the run comes to an end that Φ takes -/
def own_G (tb : Tables) (e : Env) (below : List Frame) (Φ : State → Outcome → Prop) (S : State) : Prop := ∃ t o, Steps tb e below S t ∧ t.status = .running ∧ Ended t below o ∧ Φ t o
def own_E (s : State) (Q : Option Value → Heap → List Loc → Prop) (kc ks : Nat) : State → Outcome → Prop := fun t o => ∃ v L, o = .returned v ∧ Q v t.heap L ∧ FrameEnd s o t L kc ks
theorem own_st {tb : Tables} {Φ : State → Outcome → Prop} {S S' : State} (h : ∀ t, Steps tb e below S' t → Steps tb e below S t) (g : own_G tb e below Φ S') : own_G tb e below Φ S := by
  obtain ⟨t, o, a, b⟩ := g
  exact ⟨t, o, h t a, b⟩
theorem own_tr {tb : Tables} {Φ : State → Outcome → Prop} {S S' : State} (h : Steps tb e below S S') (g : own_G tb e below Φ S') : own_G tb e below Φ S := by
  obtain ⟨t, o, a, b⟩ := g
  exact ⟨t, o, h.trans a, b⟩
theorem own_in {s₁ : State} (kc ks : Nat) (Q : Option Value → Heap → List Loc → Prop) {mL : Nat} {g : JFrame} (ef : entryFrame m args mL = g) (k : own_G p.tables e below (own_E s Q kc ks) (s₁.setTop g)) :
    ∃ s₂ o, Steps p.tables e below (s₁.setTop (entryFrame m args mL)) s₂ ∧ s₂.status = .running ∧ Ended s₂ below o ∧ ∃ v L, o = .returned v ∧ Q v s₂.heap L ∧ FrameEnd s o s₂ L kc ks := by
  rw [ef]
  exact k
theorem own_retI0 (X : Stand p l e R s m args below meth c T locs cells slots) (hx : p.tables.exec = Jvm.exec) {pc : Nat} {Ls : Array Slot} {z : Int32} {rest : List Value} (hret : meth.sig.returnType = some .int) (hd : decode c.code pc = .ok (.ireturn, 1)) {fs : List Frame}
    (hl : ∀ (f : JFrame) (acts : List Action), f.method = m → f.locked = none → f.entered = [] → (doReturn e (T.setTop f) acts (some (.int z))).1 = T.setFrames fs) : Steps p.tables e below (T.setTop (mkF m pc Ls (.int z :: rest))) (T.setFrames fs) :=
  retOut X hx hret rfl (Or.inl ⟨rfl, Or.inl rfl, z, rfl⟩) hd hl
theorem own_retI (X : Stand p l e R s m args below meth c T locs cells slots) (hx : p.tables.exec = Jvm.exec) (hlk : meth.locks = false) {pc : Nat} {Ls : Array Slot} {z : Int32} {rest : List Value} (hret : meth.sig.returnType = some .int) (hd : decode c.code pc = .ok (.ireturn, 1))
    {Q : Option Value → Heap → List Loc → Prop} {kc ks : Nat} (hc : cells ≤ kc) (hs : slots ≤ ks) (q : Q (some (.int z)) T.heap locs) : own_G p.tables e below (own_E s Q kc ks) (T.setTop (mkF m pc Ls (.int z :: rest))) := by
  obtain ⟨fs, hr, hrun, hended, hW, hsame⟩ := X.leave (v := some (.int z)) (fun h => by rw [hret] at h; cases h)
  exact ⟨_, _, own_retI0 X hx hret hd hr, hrun, hended, _, _, rfl, q, ⟨_, rfl⟩, hW, hsame.mono hc hs⟩
theorem own_retN (X : Stand p l e R s m args below meth c T locs cells slots) (hx : p.tables.exec = Jvm.exec) (hlk : meth.locks = false) {pc : Nat} {Ls : Array Slot} {z : Int32} {t : FieldType} {rest : List Value} (hret : meth.sig.returnType = some t) (ht : t = .boolean ∨ t = .byte ∨ t = .char ∨ t = .short) (hd : decode c.code pc = .ok (.ireturn, 1))
    {Q : Option Value → Heap → List Loc → Prop} {kc ks : Nat} (hc : cells ≤ kc) (hs : slots ≤ ks) {v' : Int32} (hv : nar t z = v') (q : Q (some (.int v')) T.heap locs) : own_G p.tables e below (own_E s Q kc ks) (T.setTop (mkF m pc Ls (.int z :: rest))) := by
  subst hv
  obtain ⟨fs, hr, hrun, hended, hW, hsame⟩ := X.leave (v := some (.int (nar t z))) (fun h => by rw [hret] at h; cases h)
  exact ⟨_, _, retN X hx hret ht hd hr, hrun, hended, _, _, rfl, q, ⟨_, rfl⟩, hW, hsame.mono hc hs⟩
theorem own_retA (X : Stand p l e R s m args below meth c T locs cells slots) (hx : p.tables.exec = Jvm.exec) (hlk : meth.locks = false) {pc : Nat} {Ls : Array Slot} {w : Value} {t : FieldType} {rest : List Value} (hret : meth.sig.returnType = some t) (ht : t.isReference = true) (hw : w.isRef = true) (hd : decode c.code pc = .ok (.areturn, 1))
    {Q : Option Value → Heap → List Loc → Prop} {kc ks : Nat} (hc : cells ≤ kc) (hs : slots ≤ ks) (q : Q (some w) T.heap locs) : own_G p.tables e below (own_E s Q kc ks) (T.setTop (mkF m pc Ls (w :: rest))) := by
  obtain ⟨fs, hr, hrun, hended, hW, hsame⟩ := X.leave (v := some w) (fun h => by rw [hret] at h; cases h)
  have hn : narrow t w = w := by rcases ref_cases hw with rfl | ⟨a, rfl⟩ <;> cases t <;> rfl
  exact ⟨_, _, retOut X hx hret hn (Or.inr (Or.inr (Or.inr (Or.inr ⟨rfl, ht, hw⟩)))) hd hr, hrun, hended, _, _, rfl, q, ⟨_, rfl⟩, hW, hsame.mono hc hs⟩
theorem own_retJ (X : Stand p l e R s m args below meth c T locs cells slots) (hx : p.tables.exec = Jvm.exec) (hlk : meth.locks = false) {pc : Nat} {Ls : Array Slot} {z : Int64} {rest : List Value} (hret : meth.sig.returnType = some .long) (hd : decode c.code pc = .ok (.lreturn, 1))
    {Q : Option Value → Heap → List Loc → Prop} {kc ks : Nat} (hc : cells ≤ kc) (hs : slots ≤ ks) (q : Q (some (.long z)) T.heap locs) : own_G p.tables e below (own_E s Q kc ks) (T.setTop (mkF m pc Ls (.long z :: rest))) := by
  obtain ⟨fs, hr, hrun, hended, hW, hsame⟩ := X.leave (v := some (.long z)) (fun h => by rw [hret] at h; cases h)
  exact ⟨_, _, retOut X hx hret rfl (Or.inr (Or.inl ⟨rfl, rfl, z, rfl⟩)) hd hr, hrun, hended, _, _, rfl, q, ⟨_, rfl⟩, hW, hsame.mono hc hs⟩
theorem own_retV (X : Stand p l e R s m args below meth c T locs cells slots) (hx : p.tables.exec = Jvm.exec) (hlk : meth.locks = false) {pc : Nat} {Ls : Array Slot} (hret : meth.sig.returnType = none) (hd : decode c.code pc = .ok (.return_, 1))
    {Q : Option Value → Heap → List Loc → Prop} {kc ks : Nat} (hc : cells ≤ kc) (hs : slots ≤ ks) (q : Q none T.heap locs) : own_G p.tables e below (own_E s Q kc ks) (T.setTop (mkF m pc Ls [])) := by
  obtain ⟨fs, hr, hrun, hended, hW, hsame⟩ := X.leave (v := none) (fun _ => rfl)
  exact ⟨_, _, X.returnOut hx hret hd hr, hrun, hended, _, _, rfl, q, ⟨_, rfl⟩, hW, hsame.mono hc hs⟩
end OwnKit
theorem own_cat {v : Value} (h : v.isRef = true) : v.category = 1 := by cases v <;> first | rfl | (simp [Value.isRef] at h)
theorem own_i32 {a b : Int32} (h : a.toInt = b.toInt) : a = b := Int32.toInt_inj.mp h
theorem own_i64 {a b : Int64} (h : a.toInt = b.toInt) : a = b := Int64.toInt_inj.mp h
/-- (x & 0x7fffffff) % d lies from 0 to d - 1 -/
theorem own_mod (x y : Int32) (d : Int) (hy : y.toInt = d) (hd : 0 < d) : 0 ≤ ((x &&& 2147483647) % y).toInt ∧ ((x &&& 2147483647) % y).toInt < d ∧ ((x &&& 2147483647) % y).toInt = (x.toInt % 2147483648) % d := by
  have h1 := c_mask x 2147483647 31 (by decide) (by decide)
  have h2 := (c_irem (x &&& 2147483647) y d hy).1 (by rw [h1]; omega)
  rw [h2, h1]
  refine ⟨Int.emod_nonneg _ (by omega), Int.emod_lt_of_pos _ hd, rfl⟩
theorem own_and3 (x : Int32) : x &&& 3 = (0 : Int32) ∨ x &&& 3 = (1 : Int32) ∨ x &&& 3 = (2 : Int32) ∨ x &&& 3 = (3 : Int32) := by
  have h := c_mask x 3 2 (by decide) (by decide)
  have h2 : (x &&& 3).toInt = x.toInt % 4 := h
  have : (x &&& 3).toInt = 0 ∨ (x &&& 3).toInt = 1 ∨ (x &&& 3).toInt = 2 ∨ (x &&& 3).toInt = 3 := by omega
  rcases this with h | h | h | h
  · exact Or.inl (own_i32 (h.trans (by decide)))
  · exact Or.inr (Or.inl (own_i32 (h.trans (by decide))))
  · exact Or.inr (Or.inr (Or.inl (own_i32 (h.trans (by decide)))))
  · exact Or.inr (Or.inr (Or.inr (own_i32 (h.trans (by decide)))))
theorem d1_0 : decode prog_27_method_5_code 0 = .ok (.aload_n 0, 1) := by decide +kernel
theorem d1_1 : decode prog_27_method_5_code 1 = .ok (.getstatic 10, 3) := by decide +kernel
theorem d1_4 : decode prog_27_method_5_code 4 = .ok (.if_acmp .eq 10, 3) := by decide +kernel
theorem d1_7 : decode prog_27_method_5_code 7 = .ok (.aload_n 0, 1) := by decide +kernel
theorem d1_8 : decode prog_27_method_5_code 8 = .ok (.getstatic 13, 3) := by decide +kernel
theorem d1_11 : decode prog_27_method_5_code 11 = .ok (.if_acmp .ne 7, 3) := by decide +kernel
theorem d1_14 : decode prog_27_method_5_code 14 = .ok (.iconst 1, 1) := by decide +kernel
theorem d1_15 : decode prog_27_method_5_code 15 = .ok (.goto 4, 3) := by decide +kernel
theorem d1_18 : decode prog_27_method_5_code 18 = .ok (.iconst 0, 1) := by decide +kernel
theorem d1_19 : decode prog_27_method_5_code 19 = .ok (.ireturn, 1) := by decide +kernel
theorem pn_1 : plainName "com/example/recurring_jobs/recurringjobs/service/JobState" = true := by first | (simp [plainName, overriddenIn]; done) | decide +kernel
theorem ef_isFinal_ENABLED (m : MethodId) (x0 : Addr) : entryFrame m #[(.ref x0)] 1 = mkF m 0 #[.val (.ref x0)] [] := by first | (simp [entryFrame, mkF, argsToLocals, Value.category]; done) | rfl
def Q_isFinal_ENABLED (Z : State) (w_ENABLED : Addr) (w_COMPLETED : Addr) (w_FAULTED : Addr) (h0 : Heap) (n0 : Nat) (v : Option Value) (h : Heap) (L : List Loc) : Prop := v = some (.int (0 : Int32)) ∧ Fr n0 L ∧ h = h0
set_option maxRecDepth 65536 in
set_option maxHeartbeats 40000000 in
theorem rm_isFinal_ENABLED (l : Launch) (Z : State) (a0 : Array Value) (hw : ∀ d ∈ tables_1, d.before a0 Z = true) (ws : List Jvm.Cond) (w_ENABLED : Addr) (w_COMPLETED : Addr) (w_FAULTED : Addr) (h0 : Heap) (n0 : Nat) (Z0 : n0 ≤ h0.size) (O0 : Old Z n0 h0) (S_COMPLETED : Sta Z Z.heap "com/example/recurring_jobs/recurringjobs/service/JobState" "COMPLETED" "Lcom/example/recurring_jobs/recurringjobs/service/JobState;" (.ref w_COMPLETED)) (S_FAULTED : Sta Z Z.heap "com/example/recurring_jobs/recurringjobs/service/JobState" "FAULTED" "Lcom/example/recurring_jobs/recurringjobs/service/JobState;" (.ref w_FAULTED)) (ne_ENABLED_COMPLETED : w_ENABLED ≠ w_COMPLETED) (ne_ENABLED_FAULTED : w_ENABLED ≠ w_FAULTED) :
    MetFree l (⟨"com/example/recurring_jobs/recurringjobs/service/JobState", "isFinal", "()Z"⟩ : MethodName) (head1 (Jvm.Cond.code (⟨"com/example/recurring_jobs/recurringjobs/service/JobState", "isFinal", "()Z"⟩ : MethodName) prog_27_method_5_code 1 (some .boolean) :: ws) ({ frames := 0, cells := 0, slots := 0, locals := 0 } : Room)) (fun a U => a = #[(.ref w_ENABLED)] ∧ Z.Warmed39 U.vm ∧ U.heap = h0) (fun _ _ _ _ _ => True) (fun _ U o U' => ∃ v L, o = .returned v ∧ Q_isFinal_ENABLED Z w_ENABLED w_COMPLETED w_FAULTED h0 n0 v U'.heap L ∧ FrameEnd U o U' L ({ frames := 0, cells := 0, slots := 0, locals := 0 } : Room).cells ({ frames := 0, cells := 0, slots := 0, locals := 0 } : Room).slots) := by
  refine MetFree.of_bodySF (plainFor_of_name pn_1) hisR ?_
  intro p e s m args below meth c s₁ Bd hml0 hP hK
  obtain ⟨rfl, hZ, hh⟩ := hP
  have hx := Bd.exec
  have hby := Bd.bytes
  have hml : c.maxLocals = 1 := hml0
  have hown : s.vm.findClass "com/example/recurring_jobs/recurringjobs/service/JobState" = some m.cls := findClass_of_methodNamed Bd.named
  have hnm := (name_of_methodNamed Bd.named Bd.method).1
  have hlk := Bd.notSynchronized
  have hret := Bd.returns
  have X0 : Stand p l e ({ frames := 0, cells := 0, slots := 0, locals := 0 } : Room) s m #[(.ref w_ENABLED)] below meth c s₁ [] 0 0 := Stand.of_body Bd
  have e0 : s₁.heap = h0 := by rw [← hh, Bd.state]; rfl
  have N0 := Fr.nil n0
  refine own_in ({ frames := 0, cells := 0, slots := 0, locals := 0 } : Room).cells ({ frames := 0, cells := 0, slots := 0, locals := 0 } : Room).slots (Q_isFinal_ENABLED Z w_ENABLED w_COMPLETED w_FAULTED h0 n0) (ef_isFinal_ENABLED m w_ENABLED) ?_
  show own_G p.tables e below _ (s₁.setTop (mkF m 0 #[.val (.ref w_ENABLED)] []))
  refine own_st (fun _ kS => XS.aloadN X0.here hx rfl (hb hby d1_0) rfl rfl kS) ?_
  show own_G p.tables e below _ (s₁.setTop (mkF m 1 #[.val (.ref w_ENABLED)] [(.ref w_ENABLED)]))
  obtain ⟨T1, X1, e1, st1⟩ := getS2 X0 hx hZ hown (host := "") (Or.inl (hw _ (List.mem_of_getElem? (i := 8) rfl))) Via.refl e0 (Sta.ext O0.2 S_COMPLETED) (g := (mkF m 1 #[.val (.ref w_ENABLED)] [(.ref w_ENABLED)])) rfl (hb hby d1_1)
  refine own_st st1 ?_
  show own_G p.tables e below _ (T1.setTop (mkF m 4 #[.val (.ref w_ENABLED)] [(.ref w_COMPLETED), (.ref w_ENABLED)]))
  refine own_st (fun _ kS => Jvm.RoadKit.acmp (g := (mkF m 4 #[.val (.ref w_ENABLED)] [(.ref w_COMPLETED), (.ref w_ENABLED)])) X1 hx rfl rfl rfl (pc0 := 4) (pc' := 7) (same := false) rfl (hb hby d1_4) rfl (decide_eq_false fun q => ne_ENABLED_COMPLETED (Value.ref.inj q)) (by decide) (by decide) kS) ?_
  show own_G p.tables e below _ (T1.setTop (mkF m 7 #[.val (.ref w_ENABLED)] []))
  refine own_st (fun _ kS => XS.aloadN X1.here hx rfl (hb hby d1_7) rfl rfl kS) ?_
  show own_G p.tables e below _ (T1.setTop (mkF m 8 #[.val (.ref w_ENABLED)] [(.ref w_ENABLED)]))
  obtain ⟨T2, X2, e2, st2⟩ := getS2 X1 hx hZ hown (host := "") (Or.inl (hw _ (List.mem_of_getElem? (i := 10) rfl))) Via.refl e1 (Sta.ext O0.2 S_FAULTED) (g := (mkF m 8 #[.val (.ref w_ENABLED)] [(.ref w_ENABLED)])) rfl (hb hby d1_8)
  refine own_st st2 ?_
  show own_G p.tables e below _ (T2.setTop (mkF m 11 #[.val (.ref w_ENABLED)] [(.ref w_FAULTED), (.ref w_ENABLED)]))
  refine own_st (fun _ kS => Jvm.RoadKit.acmp (g := (mkF m 11 #[.val (.ref w_ENABLED)] [(.ref w_FAULTED), (.ref w_ENABLED)])) X2 hx rfl rfl rfl (pc0 := 11) (pc' := 18) (same := false) rfl (hb hby d1_11) rfl (decide_eq_false fun q => ne_ENABLED_FAULTED (Value.ref.inj q)) (by decide) (by decide) kS) ?_
  show own_G p.tables e below _ (T2.setTop (mkF m 18 #[.val (.ref w_ENABLED)] []))
  refine own_st (fun _ kS => XS.iconst X2.here hx rfl (hb hby d1_18) kS) ?_
  show own_G p.tables e below _ (T2.setTop (mkF m 19 #[.val (.ref w_ENABLED)] [(.int (0 : Int32))]))
  exact own_retN X2 hx hlk (t := .boolean) hret (by simp) (hb hby d1_19) (by decide) (by decide) (v' := (0 : Int32)) rfl (by rw [e2]; exact ⟨rfl, N0, rfl⟩)
theorem ef_isFinal_DISABLED (m : MethodId) (x0 : Addr) : entryFrame m #[(.ref x0)] 1 = mkF m 0 #[.val (.ref x0)] [] := by first | (simp [entryFrame, mkF, argsToLocals, Value.category]; done) | rfl
def Q_isFinal_DISABLED (Z : State) (w_DISABLED : Addr) (w_COMPLETED : Addr) (w_FAULTED : Addr) (h0 : Heap) (n0 : Nat) (v : Option Value) (h : Heap) (L : List Loc) : Prop := v = some (.int (0 : Int32)) ∧ Fr n0 L ∧ h = h0
set_option maxRecDepth 65536 in
set_option maxHeartbeats 40000000 in
theorem rm_isFinal_DISABLED (l : Launch) (Z : State) (a0 : Array Value) (hw : ∀ d ∈ tables_1, d.before a0 Z = true) (ws : List Jvm.Cond) (w_DISABLED : Addr) (w_COMPLETED : Addr) (w_FAULTED : Addr) (h0 : Heap) (n0 : Nat) (Z0 : n0 ≤ h0.size) (O0 : Old Z n0 h0) (S_COMPLETED : Sta Z Z.heap "com/example/recurring_jobs/recurringjobs/service/JobState" "COMPLETED" "Lcom/example/recurring_jobs/recurringjobs/service/JobState;" (.ref w_COMPLETED)) (S_FAULTED : Sta Z Z.heap "com/example/recurring_jobs/recurringjobs/service/JobState" "FAULTED" "Lcom/example/recurring_jobs/recurringjobs/service/JobState;" (.ref w_FAULTED)) (ne_DISABLED_COMPLETED : w_DISABLED ≠ w_COMPLETED) (ne_DISABLED_FAULTED : w_DISABLED ≠ w_FAULTED) :
    MetFree l (⟨"com/example/recurring_jobs/recurringjobs/service/JobState", "isFinal", "()Z"⟩ : MethodName) (head1 (Jvm.Cond.code (⟨"com/example/recurring_jobs/recurringjobs/service/JobState", "isFinal", "()Z"⟩ : MethodName) prog_27_method_5_code 1 (some .boolean) :: ws) ({ frames := 0, cells := 0, slots := 0, locals := 0 } : Room)) (fun a U => a = #[(.ref w_DISABLED)] ∧ Z.Warmed39 U.vm ∧ U.heap = h0) (fun _ _ _ _ _ => True) (fun _ U o U' => ∃ v L, o = .returned v ∧ Q_isFinal_DISABLED Z w_DISABLED w_COMPLETED w_FAULTED h0 n0 v U'.heap L ∧ FrameEnd U o U' L ({ frames := 0, cells := 0, slots := 0, locals := 0 } : Room).cells ({ frames := 0, cells := 0, slots := 0, locals := 0 } : Room).slots) := by
  refine MetFree.of_bodySF (plainFor_of_name pn_1) hisR ?_
  intro p e s m args below meth c s₁ Bd hml0 hP hK
  obtain ⟨rfl, hZ, hh⟩ := hP
  have hx := Bd.exec
  have hby := Bd.bytes
  have hml : c.maxLocals = 1 := hml0
  have hown : s.vm.findClass "com/example/recurring_jobs/recurringjobs/service/JobState" = some m.cls := findClass_of_methodNamed Bd.named
  have hnm := (name_of_methodNamed Bd.named Bd.method).1
  have hlk := Bd.notSynchronized
  have hret := Bd.returns
  have X0 : Stand p l e ({ frames := 0, cells := 0, slots := 0, locals := 0 } : Room) s m #[(.ref w_DISABLED)] below meth c s₁ [] 0 0 := Stand.of_body Bd
  have e0 : s₁.heap = h0 := by rw [← hh, Bd.state]; rfl
  have N0 := Fr.nil n0
  refine own_in ({ frames := 0, cells := 0, slots := 0, locals := 0 } : Room).cells ({ frames := 0, cells := 0, slots := 0, locals := 0 } : Room).slots (Q_isFinal_DISABLED Z w_DISABLED w_COMPLETED w_FAULTED h0 n0) (ef_isFinal_DISABLED m w_DISABLED) ?_
  show own_G p.tables e below _ (s₁.setTop (mkF m 0 #[.val (.ref w_DISABLED)] []))
  refine own_st (fun _ kS => XS.aloadN X0.here hx rfl (hb hby d1_0) rfl rfl kS) ?_
  show own_G p.tables e below _ (s₁.setTop (mkF m 1 #[.val (.ref w_DISABLED)] [(.ref w_DISABLED)]))
  obtain ⟨T1, X1, e1, st1⟩ := getS2 X0 hx hZ hown (host := "") (Or.inl (hw _ (List.mem_of_getElem? (i := 8) rfl))) Via.refl e0 (Sta.ext O0.2 S_COMPLETED) (g := (mkF m 1 #[.val (.ref w_DISABLED)] [(.ref w_DISABLED)])) rfl (hb hby d1_1)
  refine own_st st1 ?_
  show own_G p.tables e below _ (T1.setTop (mkF m 4 #[.val (.ref w_DISABLED)] [(.ref w_COMPLETED), (.ref w_DISABLED)]))
  refine own_st (fun _ kS => Jvm.RoadKit.acmp (g := (mkF m 4 #[.val (.ref w_DISABLED)] [(.ref w_COMPLETED), (.ref w_DISABLED)])) X1 hx rfl rfl rfl (pc0 := 4) (pc' := 7) (same := false) rfl (hb hby d1_4) rfl (decide_eq_false fun q => ne_DISABLED_COMPLETED (Value.ref.inj q)) (by decide) (by decide) kS) ?_
  show own_G p.tables e below _ (T1.setTop (mkF m 7 #[.val (.ref w_DISABLED)] []))
  refine own_st (fun _ kS => XS.aloadN X1.here hx rfl (hb hby d1_7) rfl rfl kS) ?_
  show own_G p.tables e below _ (T1.setTop (mkF m 8 #[.val (.ref w_DISABLED)] [(.ref w_DISABLED)]))
  obtain ⟨T2, X2, e2, st2⟩ := getS2 X1 hx hZ hown (host := "") (Or.inl (hw _ (List.mem_of_getElem? (i := 10) rfl))) Via.refl e1 (Sta.ext O0.2 S_FAULTED) (g := (mkF m 8 #[.val (.ref w_DISABLED)] [(.ref w_DISABLED)])) rfl (hb hby d1_8)
  refine own_st st2 ?_
  show own_G p.tables e below _ (T2.setTop (mkF m 11 #[.val (.ref w_DISABLED)] [(.ref w_FAULTED), (.ref w_DISABLED)]))
  refine own_st (fun _ kS => Jvm.RoadKit.acmp (g := (mkF m 11 #[.val (.ref w_DISABLED)] [(.ref w_FAULTED), (.ref w_DISABLED)])) X2 hx rfl rfl rfl (pc0 := 11) (pc' := 18) (same := false) rfl (hb hby d1_11) rfl (decide_eq_false fun q => ne_DISABLED_FAULTED (Value.ref.inj q)) (by decide) (by decide) kS) ?_
  show own_G p.tables e below _ (T2.setTop (mkF m 18 #[.val (.ref w_DISABLED)] []))
  refine own_st (fun _ kS => XS.iconst X2.here hx rfl (hb hby d1_18) kS) ?_
  show own_G p.tables e below _ (T2.setTop (mkF m 19 #[.val (.ref w_DISABLED)] [(.int (0 : Int32))]))
  exact own_retN X2 hx hlk (t := .boolean) hret (by simp) (hb hby d1_19) (by decide) (by decide) (v' := (0 : Int32)) rfl (by rw [e2]; exact ⟨rfl, N0, rfl⟩)
theorem ef_isFinal_COMPLETED (m : MethodId) (x0 : Addr) : entryFrame m #[(.ref x0)] 1 = mkF m 0 #[.val (.ref x0)] [] := by first | (simp [entryFrame, mkF, argsToLocals, Value.category]; done) | rfl
def Q_isFinal_COMPLETED (Z : State) (w_COMPLETED : Addr) (h0 : Heap) (n0 : Nat) (v : Option Value) (h : Heap) (L : List Loc) : Prop := v = some (.int (1 : Int32)) ∧ Fr n0 L ∧ h = h0
set_option maxRecDepth 65536 in
set_option maxHeartbeats 40000000 in
theorem rm_isFinal_COMPLETED (l : Launch) (Z : State) (a0 : Array Value) (hw : ∀ d ∈ tables_1, d.before a0 Z = true) (ws : List Jvm.Cond) (w_COMPLETED : Addr) (h0 : Heap) (n0 : Nat) (Z0 : n0 ≤ h0.size) (O0 : Old Z n0 h0) (S_COMPLETED : Sta Z Z.heap "com/example/recurring_jobs/recurringjobs/service/JobState" "COMPLETED" "Lcom/example/recurring_jobs/recurringjobs/service/JobState;" (.ref w_COMPLETED)) :
    MetFree l (⟨"com/example/recurring_jobs/recurringjobs/service/JobState", "isFinal", "()Z"⟩ : MethodName) (head1 (Jvm.Cond.code (⟨"com/example/recurring_jobs/recurringjobs/service/JobState", "isFinal", "()Z"⟩ : MethodName) prog_27_method_5_code 1 (some .boolean) :: ws) ({ frames := 0, cells := 0, slots := 0, locals := 0 } : Room)) (fun a U => a = #[(.ref w_COMPLETED)] ∧ Z.Warmed39 U.vm ∧ U.heap = h0) (fun _ _ _ _ _ => True) (fun _ U o U' => ∃ v L, o = .returned v ∧ Q_isFinal_COMPLETED Z w_COMPLETED h0 n0 v U'.heap L ∧ FrameEnd U o U' L ({ frames := 0, cells := 0, slots := 0, locals := 0 } : Room).cells ({ frames := 0, cells := 0, slots := 0, locals := 0 } : Room).slots) := by
  refine MetFree.of_bodySF (plainFor_of_name pn_1) hisR ?_
  intro p e s m args below meth c s₁ Bd hml0 hP hK
  obtain ⟨rfl, hZ, hh⟩ := hP
  have hx := Bd.exec
  have hby := Bd.bytes
  have hml : c.maxLocals = 1 := hml0
  have hown : s.vm.findClass "com/example/recurring_jobs/recurringjobs/service/JobState" = some m.cls := findClass_of_methodNamed Bd.named
  have hnm := (name_of_methodNamed Bd.named Bd.method).1
  have hlk := Bd.notSynchronized
  have hret := Bd.returns
  have X0 : Stand p l e ({ frames := 0, cells := 0, slots := 0, locals := 0 } : Room) s m #[(.ref w_COMPLETED)] below meth c s₁ [] 0 0 := Stand.of_body Bd
  have e0 : s₁.heap = h0 := by rw [← hh, Bd.state]; rfl
  have N0 := Fr.nil n0
  refine own_in ({ frames := 0, cells := 0, slots := 0, locals := 0 } : Room).cells ({ frames := 0, cells := 0, slots := 0, locals := 0 } : Room).slots (Q_isFinal_COMPLETED Z w_COMPLETED h0 n0) (ef_isFinal_COMPLETED m w_COMPLETED) ?_
  show own_G p.tables e below _ (s₁.setTop (mkF m 0 #[.val (.ref w_COMPLETED)] []))
  refine own_st (fun _ kS => XS.aloadN X0.here hx rfl (hb hby d1_0) rfl rfl kS) ?_
  show own_G p.tables e below _ (s₁.setTop (mkF m 1 #[.val (.ref w_COMPLETED)] [(.ref w_COMPLETED)]))
  obtain ⟨T1, X1, e1, st1⟩ := getS2 X0 hx hZ hown (host := "") (Or.inl (hw _ (List.mem_of_getElem? (i := 8) rfl))) Via.refl e0 (Sta.ext O0.2 S_COMPLETED) (g := (mkF m 1 #[.val (.ref w_COMPLETED)] [(.ref w_COMPLETED)])) rfl (hb hby d1_1)
  refine own_st st1 ?_
  show own_G p.tables e below _ (T1.setTop (mkF m 4 #[.val (.ref w_COMPLETED)] [(.ref w_COMPLETED), (.ref w_COMPLETED)]))
  refine own_st (fun _ kS => Jvm.RoadKit.acmp (g := (mkF m 4 #[.val (.ref w_COMPLETED)] [(.ref w_COMPLETED), (.ref w_COMPLETED)])) X1 hx rfl rfl rfl (pc0 := 4) (pc' := 14) (same := true) rfl (hb hby d1_4) rfl (decide_eq_true rfl) (by decide) (by decide) kS) ?_
  show own_G p.tables e below _ (T1.setTop (mkF m 14 #[.val (.ref w_COMPLETED)] []))
  refine own_st (fun _ kS => XS.iconst X1.here hx rfl (hb hby d1_14) kS) ?_
  show own_G p.tables e below _ (T1.setTop (mkF m 15 #[.val (.ref w_COMPLETED)] [(.int (1 : Int32))]))
  refine own_st (fun _ kS => XS.goto X1.here hx rfl (pc0 := 15) (pc' := 19) rfl (hb hby d1_15) (by decide) (by decide) kS) ?_
  show own_G p.tables e below _ (T1.setTop (mkF m 19 #[.val (.ref w_COMPLETED)] [(.int (1 : Int32))]))
  exact own_retN X1 hx hlk (t := .boolean) hret (by simp) (hb hby d1_19) (by decide) (by decide) (v' := (1 : Int32)) rfl (by rw [e1]; exact ⟨rfl, N0, rfl⟩)
theorem ef_isFinal_FAULTED (m : MethodId) (x0 : Addr) : entryFrame m #[(.ref x0)] 1 = mkF m 0 #[.val (.ref x0)] [] := by first | (simp [entryFrame, mkF, argsToLocals, Value.category]; done) | rfl
def Q_isFinal_FAULTED (Z : State) (w_FAULTED : Addr) (w_COMPLETED : Addr) (h0 : Heap) (n0 : Nat) (v : Option Value) (h : Heap) (L : List Loc) : Prop := v = some (.int (1 : Int32)) ∧ Fr n0 L ∧ h = h0
set_option maxRecDepth 65536 in
set_option maxHeartbeats 40000000 in
theorem rm_isFinal_FAULTED (l : Launch) (Z : State) (a0 : Array Value) (hw : ∀ d ∈ tables_1, d.before a0 Z = true) (ws : List Jvm.Cond) (w_FAULTED : Addr) (w_COMPLETED : Addr) (h0 : Heap) (n0 : Nat) (Z0 : n0 ≤ h0.size) (O0 : Old Z n0 h0) (S_COMPLETED : Sta Z Z.heap "com/example/recurring_jobs/recurringjobs/service/JobState" "COMPLETED" "Lcom/example/recurring_jobs/recurringjobs/service/JobState;" (.ref w_COMPLETED)) (S_FAULTED : Sta Z Z.heap "com/example/recurring_jobs/recurringjobs/service/JobState" "FAULTED" "Lcom/example/recurring_jobs/recurringjobs/service/JobState;" (.ref w_FAULTED)) (ne_FAULTED_COMPLETED : w_FAULTED ≠ w_COMPLETED) :
    MetFree l (⟨"com/example/recurring_jobs/recurringjobs/service/JobState", "isFinal", "()Z"⟩ : MethodName) (head1 (Jvm.Cond.code (⟨"com/example/recurring_jobs/recurringjobs/service/JobState", "isFinal", "()Z"⟩ : MethodName) prog_27_method_5_code 1 (some .boolean) :: ws) ({ frames := 0, cells := 0, slots := 0, locals := 0 } : Room)) (fun a U => a = #[(.ref w_FAULTED)] ∧ Z.Warmed39 U.vm ∧ U.heap = h0) (fun _ _ _ _ _ => True) (fun _ U o U' => ∃ v L, o = .returned v ∧ Q_isFinal_FAULTED Z w_FAULTED w_COMPLETED h0 n0 v U'.heap L ∧ FrameEnd U o U' L ({ frames := 0, cells := 0, slots := 0, locals := 0 } : Room).cells ({ frames := 0, cells := 0, slots := 0, locals := 0 } : Room).slots) := by
  refine MetFree.of_bodySF (plainFor_of_name pn_1) hisR ?_
  intro p e s m args below meth c s₁ Bd hml0 hP hK
  obtain ⟨rfl, hZ, hh⟩ := hP
  have hx := Bd.exec
  have hby := Bd.bytes
  have hml : c.maxLocals = 1 := hml0
  have hown : s.vm.findClass "com/example/recurring_jobs/recurringjobs/service/JobState" = some m.cls := findClass_of_methodNamed Bd.named
  have hnm := (name_of_methodNamed Bd.named Bd.method).1
  have hlk := Bd.notSynchronized
  have hret := Bd.returns
  have X0 : Stand p l e ({ frames := 0, cells := 0, slots := 0, locals := 0 } : Room) s m #[(.ref w_FAULTED)] below meth c s₁ [] 0 0 := Stand.of_body Bd
  have e0 : s₁.heap = h0 := by rw [← hh, Bd.state]; rfl
  have N0 := Fr.nil n0
  refine own_in ({ frames := 0, cells := 0, slots := 0, locals := 0 } : Room).cells ({ frames := 0, cells := 0, slots := 0, locals := 0 } : Room).slots (Q_isFinal_FAULTED Z w_FAULTED w_COMPLETED h0 n0) (ef_isFinal_FAULTED m w_FAULTED) ?_
  show own_G p.tables e below _ (s₁.setTop (mkF m 0 #[.val (.ref w_FAULTED)] []))
  refine own_st (fun _ kS => XS.aloadN X0.here hx rfl (hb hby d1_0) rfl rfl kS) ?_
  show own_G p.tables e below _ (s₁.setTop (mkF m 1 #[.val (.ref w_FAULTED)] [(.ref w_FAULTED)]))
  obtain ⟨T1, X1, e1, st1⟩ := getS2 X0 hx hZ hown (host := "") (Or.inl (hw _ (List.mem_of_getElem? (i := 8) rfl))) Via.refl e0 (Sta.ext O0.2 S_COMPLETED) (g := (mkF m 1 #[.val (.ref w_FAULTED)] [(.ref w_FAULTED)])) rfl (hb hby d1_1)
  refine own_st st1 ?_
  show own_G p.tables e below _ (T1.setTop (mkF m 4 #[.val (.ref w_FAULTED)] [(.ref w_COMPLETED), (.ref w_FAULTED)]))
  refine own_st (fun _ kS => Jvm.RoadKit.acmp (g := (mkF m 4 #[.val (.ref w_FAULTED)] [(.ref w_COMPLETED), (.ref w_FAULTED)])) X1 hx rfl rfl rfl (pc0 := 4) (pc' := 7) (same := false) rfl (hb hby d1_4) rfl (decide_eq_false fun q => ne_FAULTED_COMPLETED (Value.ref.inj q)) (by decide) (by decide) kS) ?_
  show own_G p.tables e below _ (T1.setTop (mkF m 7 #[.val (.ref w_FAULTED)] []))
  refine own_st (fun _ kS => XS.aloadN X1.here hx rfl (hb hby d1_7) rfl rfl kS) ?_
  show own_G p.tables e below _ (T1.setTop (mkF m 8 #[.val (.ref w_FAULTED)] [(.ref w_FAULTED)]))
  obtain ⟨T2, X2, e2, st2⟩ := getS2 X1 hx hZ hown (host := "") (Or.inl (hw _ (List.mem_of_getElem? (i := 10) rfl))) Via.refl e1 (Sta.ext O0.2 S_FAULTED) (g := (mkF m 8 #[.val (.ref w_FAULTED)] [(.ref w_FAULTED)])) rfl (hb hby d1_8)
  refine own_st st2 ?_
  show own_G p.tables e below _ (T2.setTop (mkF m 11 #[.val (.ref w_FAULTED)] [(.ref w_FAULTED), (.ref w_FAULTED)]))
  refine own_st (fun _ kS => Jvm.RoadKit.acmp (g := (mkF m 11 #[.val (.ref w_FAULTED)] [(.ref w_FAULTED), (.ref w_FAULTED)])) X2 hx rfl rfl rfl (pc0 := 11) (pc' := 14) (same := true) rfl (hb hby d1_11) rfl (decide_eq_true rfl) (by decide) (by decide) kS) ?_
  show own_G p.tables e below _ (T2.setTop (mkF m 14 #[.val (.ref w_FAULTED)] []))
  refine own_st (fun _ kS => XS.iconst X2.here hx rfl (hb hby d1_14) kS) ?_
  show own_G p.tables e below _ (T2.setTop (mkF m 15 #[.val (.ref w_FAULTED)] [(.int (1 : Int32))]))
  refine own_st (fun _ kS => XS.goto X2.here hx rfl (pc0 := 15) (pc' := 19) rfl (hb hby d1_15) (by decide) (by decide) kS) ?_
  show own_G p.tables e below _ (T2.setTop (mkF m 19 #[.val (.ref w_FAULTED)] [(.int (1 : Int32))]))
  exact own_retN X2 hx hlk (t := .boolean) hret (by simp) (hb hby d1_19) (by decide) (by decide) (v' := (1 : Int32)) rfl (by rw [e2]; exact ⟨rfl, N0, rfl⟩)
theorem pn_0 : plainName "com/example/recurring_jobs/recurringjobs/service/JobStateIsFinalPinLaw" = true := by first | (simp [plainName, overriddenIn]; done) | decide +kernel
def Q_law (n0 : Nat) (v : Option Value) (h : Heap) (L : List Loc) : Prop := v = some (.int (1 : Int32)) ∧ Fr n0 L
theorem own_pd0 : parseMethodDescriptor "()Z" = some ⟨[], some .boolean⟩ := by decide +kernel
theorem ef_law (m : MethodId) (x0 : Int32) : entryFrame m #[(.int x0)] maxLocals = mkF m 0 #[.val (.int x0), .unset, .unset, .unset] [] := by first | (simp [entryFrame, mkF, argsToLocals, Value.category, maxLocals]; done) | rfl
set_option maxRecDepth 65536 in
set_option maxHeartbeats 40000000 in
theorem rm_law (l : Launch) (Z : State) (a0 : Array Value) (hw : ∀ d ∈ tables_1, d.before a0 Z = true) (ws : List Jvm.Cond) (p1 : Int32) (w_ENABLED : Addr) (w_DISABLED : Addr) (w_COMPLETED : Addr) (w_FAULTED : Addr) (h0 : Heap) (n0 : Nat) (Z0 : n0 ≤ h0.size) (O0 : Old Z n0 h0) (S_ENABLED : Sta Z Z.heap "com/example/recurring_jobs/recurringjobs/service/JobState" "ENABLED" "Lcom/example/recurring_jobs/recurringjobs/service/JobState;" (.ref w_ENABLED)) (S_DISABLED : Sta Z Z.heap "com/example/recurring_jobs/recurringjobs/service/JobState" "DISABLED" "Lcom/example/recurring_jobs/recurringjobs/service/JobState;" (.ref w_DISABLED)) (S_COMPLETED : Sta Z Z.heap "com/example/recurring_jobs/recurringjobs/service/JobState" "COMPLETED" "Lcom/example/recurring_jobs/recurringjobs/service/JobState;" (.ref w_COMPLETED)) (S_FAULTED : Sta Z Z.heap "com/example/recurring_jobs/recurringjobs/service/JobState" "FAULTED" "Lcom/example/recurring_jobs/recurringjobs/service/JobState;" (.ref w_FAULTED)) (E_ENABLED : Exa Z Z.heap w_ENABLED "com/example/recurring_jobs/recurringjobs/service/JobState") (E_DISABLED : Exa Z Z.heap w_DISABLED "com/example/recurring_jobs/recurringjobs/service/JobState") (E_COMPLETED : Exa Z Z.heap w_COMPLETED "com/example/recurring_jobs/recurringjobs/service/JobState") (E_FAULTED : Exa Z Z.heap w_FAULTED "com/example/recurring_jobs/recurringjobs/service/JobState") (ne_ENABLED_COMPLETED : w_ENABLED ≠ w_COMPLETED) (ne_ENABLED_FAULTED : w_ENABLED ≠ w_FAULTED) (ne_DISABLED_COMPLETED : w_DISABLED ≠ w_COMPLETED) (ne_DISABLED_FAULTED : w_DISABLED ≠ w_FAULTED) (ne_COMPLETED_FAULTED : w_COMPLETED ≠ w_FAULTED) (ne_FAULTED_COMPLETED : w_FAULTED ≠ w_COMPLETED) :
    MetFree l x (head1 (Jvm.Cond.code x code maxLocals ret :: ws) room_1) (fun a U => a = #[(.int p1)] ∧ Z.Warmed39 U.vm ∧ U.heap = h0) (fun _ _ _ _ _ => True) (fun _ U o U' => ∃ v L, o = .returned v ∧ Q_law n0 v U'.heap L ∧ FrameEnd U o U' L room_1.cells room_1.slots) := by
  refine MetFree.of_bodySF (plainFor_of_name pn_0) hisR ?_
  intro p e s m args below meth c s₁ Bd hml0 hP hK
  obtain ⟨rfl, hZ, hh⟩ := hP
  have hx := Bd.exec
  have hby := Bd.bytes
  have hml : c.maxLocals = 4 := hml0
  have hown : s.vm.findClass "com/example/recurring_jobs/recurringjobs/service/JobStateIsFinalPinLaw" = some m.cls := findClass_of_methodNamed Bd.named
  have hnm := (name_of_methodNamed Bd.named Bd.method).1
  have hlk := Bd.notSynchronized
  have hret := Bd.returns
  have X0 : Stand p l e room_1 s m #[(.int p1)] below meth c s₁ [] 0 0 := Stand.of_body Bd
  have e0 : s₁.heap = h0 := by rw [← hh, Bd.state]; rfl
  have N0 := Fr.nil n0
  refine own_in room_1.cells room_1.slots (Q_law n0) (ef_law m p1) ?_
  show own_G p.tables e below _ (s₁.setTop (mkF m 0 #[.val (.int p1), .unset, .unset, .unset] []))
  refine own_st (fun _ kS => XS.iloadN X0.here hx rfl (hb hby at_0) rfl kS) ?_
  show own_G p.tables e below _ (s₁.setTop (mkF m 1 #[.val (.int p1), .unset, .unset, .unset] [(.int p1)]))
  refine own_st (fun _ kS => XS.iconst X0.here hx rfl (hb hby at_1) kS) ?_
  show own_G p.tables e below _ (s₁.setTop (mkF m 2 #[.val (.int p1), .unset, .unset, .unset] [(.int (3 : Int32)), (.int p1)]))
  refine own_st (fun _ kS => XS.iand X0.here hx rfl (hb hby at_2) rfl kS) ?_
  show own_G p.tables e below _ (s₁.setTop (mkF m 3 #[.val (.int p1), .unset, .unset, .unset] [(.int (p1 &&& (3 : Int32)))]))
  rcases own_and3 p1 with hk1 | hk1 | hk1 | hk1
  · rw [hk1]
    show own_G p.tables e below _ (s₁.setTop (mkF m 3 #[.val (.int p1), .unset, .unset, .unset] [(.int (0 : Int32))]))
    refine own_st (fun _ kS => XS.istoreN X0.here hx rfl (hb hby at_3) rfl (l' := #[.val (.int p1), .val (.int (0 : Int32)), .unset, .unset]) rfl kS) ?_
    show own_G p.tables e below _ (s₁.setTop (mkF m 4 #[.val (.int p1), .val (.int (0 : Int32)), .unset, .unset] []))
    refine own_st (fun _ kS => XS.iloadN X0.here hx rfl (hb hby at_4) rfl kS) ?_
    show own_G p.tables e below _ (s₁.setTop (mkF m 5 #[.val (.int p1), .val (.int (0 : Int32)), .unset, .unset] [(.int (0 : Int32))]))
    refine own_st (fun _ kS => XS.ifNo X0.here hx rfl (hb hby at_5) rfl ((if0 _ _).trans (teq (by decide : (0 : Int32) = (0 : Int32))).2) kS) ?_
    show own_G p.tables e below _ (s₁.setTop (mkF m 8 #[.val (.int p1), .val (.int (0 : Int32)), .unset, .unset] []))
    obtain ⟨T2, X2, e2, st2⟩ := getS2 X0 hx hZ hown (host := "") (Or.inl (hw _ (List.mem_of_getElem? (i := 0) rfl))) Via.refl e0 (Sta.ext O0.2 S_ENABLED) (g := (mkF m 8 #[.val (.int p1), .val (.int (0 : Int32)), .unset, .unset] [])) rfl (hb hby at_8)
    refine own_st st2 ?_
    show own_G p.tables e below _ (T2.setTop (mkF m 11 #[.val (.int p1), .val (.int (0 : Int32)), .unset, .unset] [(.ref w_ENABLED)]))
    refine own_st (fun _ kS => XS.astoreN X2.here hx rfl (hb hby at_11) rfl rfl (l' := #[.val (.int p1), .val (.int (0 : Int32)), .val (.ref w_ENABLED), .unset]) rfl kS) ?_
    show own_G p.tables e below _ (T2.setTop (mkF m 12 #[.val (.int p1), .val (.int (0 : Int32)), .val (.ref w_ENABLED), .unset] []))
    refine own_st (fun _ kS => XS.iconst X2.here hx rfl (hb hby at_12) kS) ?_
    show own_G p.tables e below _ (T2.setTop (mkF m 13 #[.val (.int p1), .val (.int (0 : Int32)), .val (.ref w_ENABLED), .unset] [(.int (0 : Int32))]))
    refine own_st (fun _ kS => XS.istoreN X2.here hx rfl (hb hby at_13) rfl (l' := #[.val (.int p1), .val (.int (0 : Int32)), .val (.ref w_ENABLED), .val (.int (0 : Int32))]) rfl kS) ?_
    show own_G p.tables e below _ (T2.setTop (mkF m 14 #[.val (.int p1), .val (.int (0 : Int32)), .val (.ref w_ENABLED), .val (.int (0 : Int32))] []))
    refine own_st (fun _ kS => XS.goto X2.here hx rfl (pc0 := 14) (pc' := 51) rfl (hb hby at_14) (by decide) (by decide) kS) ?_
    show own_G p.tables e below _ (T2.setTop (mkF m 51 #[.val (.int p1), .val (.int (0 : Int32)), .val (.ref w_ENABLED), .val (.int (0 : Int32))] []))
    refine own_st (fun _ kS => XS.aloadN X2.here hx rfl (hb hby at_51) rfl rfl kS) ?_
    show own_G p.tables e below _ (T2.setTop (mkF m 52 #[.val (.int p1), .val (.int (0 : Int32)), .val (.ref w_ENABLED), .val (.int (0 : Int32))] [(.ref w_ENABLED)]))
    obtain ⟨cq3, kq3, q3a, q3b, q3c⟩ := isOf hZ e2 (Exa.ext O0.2 E_ENABLED)
    obtain ⟨_, _, ⟨T3, L3, k3, n3⟩, -, X3, ⟨Lc3, hQ3, l3, y3, z3⟩, st3⟩ := X2.virtualBack hx (y := (⟨"com/example/recurring_jobs/recurringjobs/service/JobState", "isFinal", "()Z"⟩ : MethodName)) (z := (⟨"com/example/recurring_jobs/recurringjobs/service/JobState", "isFinal", "()Z"⟩ : MethodName)) hown (mvT hZ (hw _ (List.mem_of_getElem? (i := 3) rfl))) (mvT hZ (hw _ (List.mem_of_getElem? (i := 4) rfl))) (notFace_of_selects (args := #[]) (mvT hZ (hw _ (List.mem_of_getElem? (i := 6) rfl)))) (mvT hZ (hw _ (List.mem_of_getElem? (i := 6) rfl))) (mvT hZ (hw _ (List.mem_of_getElem? (i := 5) rfl))) (by decide) (backOf (W := 0) (rm_isFinal_ENABLED l Z a0 hw [] w_ENABLED w_COMPLETED w_FAULTED h0 n0 Z0 O0 S_COMPLETED S_FAULTED ne_ENABLED_COMPLETED ne_ENABLED_FAULTED) hZ (hw _ (List.mem_of_getElem? (i := 7) rfl)) (hw _ (List.mem_of_getElem? (i := 1) rfl)) (by decide) (by decide)) q3a q3c (g := (mkF m 52 #[.val (.int p1), .val (.int (0 : Int32)), .val (.ref w_ENABLED), .val (.int (0 : Int32))] [(.ref w_ENABLED)])) rfl (by rw [hml]; rfl) (Steps.refl _) (argsL := []) (rest := []) (lenOf own_pd0 rfl) rfl (by show 2 * 0 + _ ≤ _; exact Nat.le_of_eq rfl) (hb hby at_52) (fun _ _ => ⟨rfl, e2, (by decide : 0 + 0 ≤ _), (by decide : 0 + 0 ≤ _)⟩)
    dsimp only [Pt.U, Pt.locs, Pt.cells, Pt.slots] at X3 l3 y3 z3 st3 hQ3
    subst l3 y3 z3
    obtain ⟨rfl, Nq3, eq3⟩ := hQ3
    have N3 := Fr.app N0 Nq3
    refine own_tr st3 ?_
    show own_G p.tables e below _ (T3.setTop (mkF m 55 #[.val (.int p1), .val (.int (0 : Int32)), .val (.ref w_ENABLED), .val (.int (0 : Int32))] [(.int (0 : Int32))]))
    refine own_st (fun _ kS => XS.iloadN X3.here hx rfl (hb hby at_55) rfl kS) ?_
    show own_G p.tables e below _ (T3.setTop (mkF m 56 #[.val (.int p1), .val (.int (0 : Int32)), .val (.ref w_ENABLED), .val (.int (0 : Int32))] [(.int (0 : Int32)), (.int (0 : Int32))]))
    refine own_st (fun _ kS => XS.icmpNo X3.here hx rfl (hb hby at_56) rfl (teq (by decide : (0 : Int32) = (0 : Int32))).2 kS) ?_
    show own_G p.tables e below _ (T3.setTop (mkF m 59 #[.val (.int p1), .val (.int (0 : Int32)), .val (.ref w_ENABLED), .val (.int (0 : Int32))] []))
    refine own_st (fun _ kS => XS.iconst X3.here hx rfl (hb hby at_59) kS) ?_
    show own_G p.tables e below _ (T3.setTop (mkF m 60 #[.val (.int p1), .val (.int (0 : Int32)), .val (.ref w_ENABLED), .val (.int (0 : Int32))] [(.int (1 : Int32))]))
    refine own_st (fun _ kS => XS.goto X3.here hx rfl (pc0 := 60) (pc' := 64) rfl (hb hby at_60) (by decide) (by decide) kS) ?_
    show own_G p.tables e below _ (T3.setTop (mkF m 64 #[.val (.int p1), .val (.int (0 : Int32)), .val (.ref w_ENABLED), .val (.int (0 : Int32))] [(.int (1 : Int32))]))
    exact own_retN X3 hx hlk (t := .boolean) hret (by simp) (hb hby at_64) (by decide) (by decide) (v' := (1 : Int32)) rfl (by rw [eq3]; exact ⟨rfl, N3⟩)
  · rw [hk1]
    show own_G p.tables e below _ (s₁.setTop (mkF m 3 #[.val (.int p1), .unset, .unset, .unset] [(.int (1 : Int32))]))
    refine own_st (fun _ kS => XS.istoreN X0.here hx rfl (hb hby at_3) rfl (l' := #[.val (.int p1), .val (.int (1 : Int32)), .unset, .unset]) rfl kS) ?_
    show own_G p.tables e below _ (s₁.setTop (mkF m 4 #[.val (.int p1), .val (.int (1 : Int32)), .unset, .unset] []))
    refine own_st (fun _ kS => XS.iloadN X0.here hx rfl (hb hby at_4) rfl kS) ?_
    show own_G p.tables e below _ (s₁.setTop (mkF m 5 #[.val (.int p1), .val (.int (1 : Int32)), .unset, .unset] [(.int (1 : Int32))]))
    refine own_st (fun _ kS => XS.ifYes X0.here hx rfl (pc0 := 5) (pc' := 17) rfl (hb hby at_5) rfl ((if0 _ _).trans (feq (by decide : ¬ ((1 : Int32) = (0 : Int32)))).2) (by decide) (by decide) kS) ?_
    show own_G p.tables e below _ (s₁.setTop (mkF m 17 #[.val (.int p1), .val (.int (1 : Int32)), .unset, .unset] []))
    refine own_st (fun _ kS => XS.iloadN X0.here hx rfl (hb hby at_17) rfl kS) ?_
    show own_G p.tables e below _ (s₁.setTop (mkF m 18 #[.val (.int p1), .val (.int (1 : Int32)), .unset, .unset] [(.int (1 : Int32))]))
    refine own_st (fun _ kS => XS.iconst X0.here hx rfl (hb hby at_18) kS) ?_
    show own_G p.tables e below _ (s₁.setTop (mkF m 19 #[.val (.int p1), .val (.int (1 : Int32)), .unset, .unset] [(.int (1 : Int32)), (.int (1 : Int32))]))
    refine own_st (fun _ kS => XS.icmpNo X0.here hx rfl (hb hby at_19) rfl (teq (by decide : (1 : Int32) = (1 : Int32))).2 kS) ?_
    show own_G p.tables e below _ (s₁.setTop (mkF m 22 #[.val (.int p1), .val (.int (1 : Int32)), .unset, .unset] []))
    obtain ⟨T4, X4, e4, st4⟩ := getS2 X0 hx hZ hown (host := "") (Or.inl (hw _ (List.mem_of_getElem? (i := 14) rfl))) Via.refl e0 (Sta.ext O0.2 S_DISABLED) (g := (mkF m 22 #[.val (.int p1), .val (.int (1 : Int32)), .unset, .unset] [])) rfl (hb hby at_22)
    refine own_st st4 ?_
    show own_G p.tables e below _ (T4.setTop (mkF m 25 #[.val (.int p1), .val (.int (1 : Int32)), .unset, .unset] [(.ref w_DISABLED)]))
    refine own_st (fun _ kS => XS.astoreN X4.here hx rfl (hb hby at_25) rfl rfl (l' := #[.val (.int p1), .val (.int (1 : Int32)), .val (.ref w_DISABLED), .unset]) rfl kS) ?_
    show own_G p.tables e below _ (T4.setTop (mkF m 26 #[.val (.int p1), .val (.int (1 : Int32)), .val (.ref w_DISABLED), .unset] []))
    refine own_st (fun _ kS => XS.iconst X4.here hx rfl (hb hby at_26) kS) ?_
    show own_G p.tables e below _ (T4.setTop (mkF m 27 #[.val (.int p1), .val (.int (1 : Int32)), .val (.ref w_DISABLED), .unset] [(.int (0 : Int32))]))
    refine own_st (fun _ kS => XS.istoreN X4.here hx rfl (hb hby at_27) rfl (l' := #[.val (.int p1), .val (.int (1 : Int32)), .val (.ref w_DISABLED), .val (.int (0 : Int32))]) rfl kS) ?_
    show own_G p.tables e below _ (T4.setTop (mkF m 28 #[.val (.int p1), .val (.int (1 : Int32)), .val (.ref w_DISABLED), .val (.int (0 : Int32))] []))
    refine own_st (fun _ kS => XS.goto X4.here hx rfl (pc0 := 28) (pc' := 51) rfl (hb hby at_28) (by decide) (by decide) kS) ?_
    show own_G p.tables e below _ (T4.setTop (mkF m 51 #[.val (.int p1), .val (.int (1 : Int32)), .val (.ref w_DISABLED), .val (.int (0 : Int32))] []))
    refine own_st (fun _ kS => XS.aloadN X4.here hx rfl (hb hby at_51) rfl rfl kS) ?_
    show own_G p.tables e below _ (T4.setTop (mkF m 52 #[.val (.int p1), .val (.int (1 : Int32)), .val (.ref w_DISABLED), .val (.int (0 : Int32))] [(.ref w_DISABLED)]))
    obtain ⟨cq5, kq5, q5a, q5b, q5c⟩ := isOf hZ e4 (Exa.ext O0.2 E_DISABLED)
    obtain ⟨_, _, ⟨T5, L5, k5, n5⟩, -, X5, ⟨Lc5, hQ5, l5, y5, z5⟩, st5⟩ := X4.virtualBack hx (y := (⟨"com/example/recurring_jobs/recurringjobs/service/JobState", "isFinal", "()Z"⟩ : MethodName)) (z := (⟨"com/example/recurring_jobs/recurringjobs/service/JobState", "isFinal", "()Z"⟩ : MethodName)) hown (mvT hZ (hw _ (List.mem_of_getElem? (i := 3) rfl))) (mvT hZ (hw _ (List.mem_of_getElem? (i := 4) rfl))) (notFace_of_selects (args := #[]) (mvT hZ (hw _ (List.mem_of_getElem? (i := 6) rfl)))) (mvT hZ (hw _ (List.mem_of_getElem? (i := 6) rfl))) (mvT hZ (hw _ (List.mem_of_getElem? (i := 5) rfl))) (by decide) (backOf (W := 0) (rm_isFinal_DISABLED l Z a0 hw [] w_DISABLED w_COMPLETED w_FAULTED h0 n0 Z0 O0 S_COMPLETED S_FAULTED ne_DISABLED_COMPLETED ne_DISABLED_FAULTED) hZ (hw _ (List.mem_of_getElem? (i := 7) rfl)) (hw _ (List.mem_of_getElem? (i := 1) rfl)) (by decide) (by decide)) q5a q5c (g := (mkF m 52 #[.val (.int p1), .val (.int (1 : Int32)), .val (.ref w_DISABLED), .val (.int (0 : Int32))] [(.ref w_DISABLED)])) rfl (by rw [hml]; rfl) (Steps.refl _) (argsL := []) (rest := []) (lenOf own_pd0 rfl) rfl (by show 2 * 0 + _ ≤ _; exact Nat.le_of_eq rfl) (hb hby at_52) (fun _ _ => ⟨rfl, e4, (by decide : 0 + 0 ≤ _), (by decide : 0 + 0 ≤ _)⟩)
    dsimp only [Pt.U, Pt.locs, Pt.cells, Pt.slots] at X5 l5 y5 z5 st5 hQ5
    subst l5 y5 z5
    obtain ⟨rfl, Nq5, eq5⟩ := hQ5
    have N5 := Fr.app N0 Nq5
    refine own_tr st5 ?_
    show own_G p.tables e below _ (T5.setTop (mkF m 55 #[.val (.int p1), .val (.int (1 : Int32)), .val (.ref w_DISABLED), .val (.int (0 : Int32))] [(.int (0 : Int32))]))
    refine own_st (fun _ kS => XS.iloadN X5.here hx rfl (hb hby at_55) rfl kS) ?_
    show own_G p.tables e below _ (T5.setTop (mkF m 56 #[.val (.int p1), .val (.int (1 : Int32)), .val (.ref w_DISABLED), .val (.int (0 : Int32))] [(.int (0 : Int32)), (.int (0 : Int32))]))
    refine own_st (fun _ kS => XS.icmpNo X5.here hx rfl (hb hby at_56) rfl (teq (by decide : (0 : Int32) = (0 : Int32))).2 kS) ?_
    show own_G p.tables e below _ (T5.setTop (mkF m 59 #[.val (.int p1), .val (.int (1 : Int32)), .val (.ref w_DISABLED), .val (.int (0 : Int32))] []))
    refine own_st (fun _ kS => XS.iconst X5.here hx rfl (hb hby at_59) kS) ?_
    show own_G p.tables e below _ (T5.setTop (mkF m 60 #[.val (.int p1), .val (.int (1 : Int32)), .val (.ref w_DISABLED), .val (.int (0 : Int32))] [(.int (1 : Int32))]))
    refine own_st (fun _ kS => XS.goto X5.here hx rfl (pc0 := 60) (pc' := 64) rfl (hb hby at_60) (by decide) (by decide) kS) ?_
    show own_G p.tables e below _ (T5.setTop (mkF m 64 #[.val (.int p1), .val (.int (1 : Int32)), .val (.ref w_DISABLED), .val (.int (0 : Int32))] [(.int (1 : Int32))]))
    exact own_retN X5 hx hlk (t := .boolean) hret (by simp) (hb hby at_64) (by decide) (by decide) (v' := (1 : Int32)) rfl (by rw [eq5]; exact ⟨rfl, N5⟩)
  · rw [hk1]
    show own_G p.tables e below _ (s₁.setTop (mkF m 3 #[.val (.int p1), .unset, .unset, .unset] [(.int (2 : Int32))]))
    refine own_st (fun _ kS => XS.istoreN X0.here hx rfl (hb hby at_3) rfl (l' := #[.val (.int p1), .val (.int (2 : Int32)), .unset, .unset]) rfl kS) ?_
    show own_G p.tables e below _ (s₁.setTop (mkF m 4 #[.val (.int p1), .val (.int (2 : Int32)), .unset, .unset] []))
    refine own_st (fun _ kS => XS.iloadN X0.here hx rfl (hb hby at_4) rfl kS) ?_
    show own_G p.tables e below _ (s₁.setTop (mkF m 5 #[.val (.int p1), .val (.int (2 : Int32)), .unset, .unset] [(.int (2 : Int32))]))
    refine own_st (fun _ kS => XS.ifYes X0.here hx rfl (pc0 := 5) (pc' := 17) rfl (hb hby at_5) rfl ((if0 _ _).trans (feq (by decide : ¬ ((2 : Int32) = (0 : Int32)))).2) (by decide) (by decide) kS) ?_
    show own_G p.tables e below _ (s₁.setTop (mkF m 17 #[.val (.int p1), .val (.int (2 : Int32)), .unset, .unset] []))
    refine own_st (fun _ kS => XS.iloadN X0.here hx rfl (hb hby at_17) rfl kS) ?_
    show own_G p.tables e below _ (s₁.setTop (mkF m 18 #[.val (.int p1), .val (.int (2 : Int32)), .unset, .unset] [(.int (2 : Int32))]))
    refine own_st (fun _ kS => XS.iconst X0.here hx rfl (hb hby at_18) kS) ?_
    show own_G p.tables e below _ (s₁.setTop (mkF m 19 #[.val (.int p1), .val (.int (2 : Int32)), .unset, .unset] [(.int (1 : Int32)), (.int (2 : Int32))]))
    refine own_st (fun _ kS => XS.icmpYes X0.here hx rfl (pc0 := 19) (pc' := 31) rfl (hb hby at_19) rfl (feq (by decide : ¬ ((2 : Int32) = (1 : Int32)))).2 (by decide) (by decide) kS) ?_
    show own_G p.tables e below _ (s₁.setTop (mkF m 31 #[.val (.int p1), .val (.int (2 : Int32)), .unset, .unset] []))
    refine own_st (fun _ kS => XS.iloadN X0.here hx rfl (hb hby at_31) rfl kS) ?_
    show own_G p.tables e below _ (s₁.setTop (mkF m 32 #[.val (.int p1), .val (.int (2 : Int32)), .unset, .unset] [(.int (2 : Int32))]))
    refine own_st (fun _ kS => XS.iconst X0.here hx rfl (hb hby at_32) kS) ?_
    show own_G p.tables e below _ (s₁.setTop (mkF m 33 #[.val (.int p1), .val (.int (2 : Int32)), .unset, .unset] [(.int (2 : Int32)), (.int (2 : Int32))]))
    refine own_st (fun _ kS => XS.icmpNo X0.here hx rfl (hb hby at_33) rfl (teq (by decide : (2 : Int32) = (2 : Int32))).2 kS) ?_
    show own_G p.tables e below _ (s₁.setTop (mkF m 36 #[.val (.int p1), .val (.int (2 : Int32)), .unset, .unset] []))
    obtain ⟨T6, X6, e6, st6⟩ := getS2 X0 hx hZ hown (host := "") (Or.inl (hw _ (List.mem_of_getElem? (i := 13) rfl))) Via.refl e0 (Sta.ext O0.2 S_COMPLETED) (g := (mkF m 36 #[.val (.int p1), .val (.int (2 : Int32)), .unset, .unset] [])) rfl (hb hby at_36)
    refine own_st st6 ?_
    show own_G p.tables e below _ (T6.setTop (mkF m 39 #[.val (.int p1), .val (.int (2 : Int32)), .unset, .unset] [(.ref w_COMPLETED)]))
    refine own_st (fun _ kS => XS.astoreN X6.here hx rfl (hb hby at_39) rfl rfl (l' := #[.val (.int p1), .val (.int (2 : Int32)), .val (.ref w_COMPLETED), .unset]) rfl kS) ?_
    show own_G p.tables e below _ (T6.setTop (mkF m 40 #[.val (.int p1), .val (.int (2 : Int32)), .val (.ref w_COMPLETED), .unset] []))
    refine own_st (fun _ kS => XS.iconst X6.here hx rfl (hb hby at_40) kS) ?_
    show own_G p.tables e below _ (T6.setTop (mkF m 41 #[.val (.int p1), .val (.int (2 : Int32)), .val (.ref w_COMPLETED), .unset] [(.int (1 : Int32))]))
    refine own_st (fun _ kS => XS.istoreN X6.here hx rfl (hb hby at_41) rfl (l' := #[.val (.int p1), .val (.int (2 : Int32)), .val (.ref w_COMPLETED), .val (.int (1 : Int32))]) rfl kS) ?_
    show own_G p.tables e below _ (T6.setTop (mkF m 42 #[.val (.int p1), .val (.int (2 : Int32)), .val (.ref w_COMPLETED), .val (.int (1 : Int32))] []))
    refine own_st (fun _ kS => XS.goto X6.here hx rfl (pc0 := 42) (pc' := 51) rfl (hb hby at_42) (by decide) (by decide) kS) ?_
    show own_G p.tables e below _ (T6.setTop (mkF m 51 #[.val (.int p1), .val (.int (2 : Int32)), .val (.ref w_COMPLETED), .val (.int (1 : Int32))] []))
    refine own_st (fun _ kS => XS.aloadN X6.here hx rfl (hb hby at_51) rfl rfl kS) ?_
    show own_G p.tables e below _ (T6.setTop (mkF m 52 #[.val (.int p1), .val (.int (2 : Int32)), .val (.ref w_COMPLETED), .val (.int (1 : Int32))] [(.ref w_COMPLETED)]))
    obtain ⟨cq7, kq7, q7a, q7b, q7c⟩ := isOf hZ e6 (Exa.ext O0.2 E_COMPLETED)
    obtain ⟨_, _, ⟨T7, L7, k7, n7⟩, -, X7, ⟨Lc7, hQ7, l7, y7, z7⟩, st7⟩ := X6.virtualBack hx (y := (⟨"com/example/recurring_jobs/recurringjobs/service/JobState", "isFinal", "()Z"⟩ : MethodName)) (z := (⟨"com/example/recurring_jobs/recurringjobs/service/JobState", "isFinal", "()Z"⟩ : MethodName)) hown (mvT hZ (hw _ (List.mem_of_getElem? (i := 3) rfl))) (mvT hZ (hw _ (List.mem_of_getElem? (i := 4) rfl))) (notFace_of_selects (args := #[]) (mvT hZ (hw _ (List.mem_of_getElem? (i := 6) rfl)))) (mvT hZ (hw _ (List.mem_of_getElem? (i := 6) rfl))) (mvT hZ (hw _ (List.mem_of_getElem? (i := 5) rfl))) (by decide) (backOf (W := 0) (rm_isFinal_COMPLETED l Z a0 hw [] w_COMPLETED h0 n0 Z0 O0 S_COMPLETED) hZ (hw _ (List.mem_of_getElem? (i := 7) rfl)) (hw _ (List.mem_of_getElem? (i := 1) rfl)) (by decide) (by decide)) q7a q7c (g := (mkF m 52 #[.val (.int p1), .val (.int (2 : Int32)), .val (.ref w_COMPLETED), .val (.int (1 : Int32))] [(.ref w_COMPLETED)])) rfl (by rw [hml]; rfl) (Steps.refl _) (argsL := []) (rest := []) (lenOf own_pd0 rfl) rfl (by show 2 * 0 + _ ≤ _; exact Nat.le_of_eq rfl) (hb hby at_52) (fun _ _ => ⟨rfl, e6, (by decide : 0 + 0 ≤ _), (by decide : 0 + 0 ≤ _)⟩)
    dsimp only [Pt.U, Pt.locs, Pt.cells, Pt.slots] at X7 l7 y7 z7 st7 hQ7
    subst l7 y7 z7
    obtain ⟨rfl, Nq7, eq7⟩ := hQ7
    have N7 := Fr.app N0 Nq7
    refine own_tr st7 ?_
    show own_G p.tables e below _ (T7.setTop (mkF m 55 #[.val (.int p1), .val (.int (2 : Int32)), .val (.ref w_COMPLETED), .val (.int (1 : Int32))] [(.int (1 : Int32))]))
    refine own_st (fun _ kS => XS.iloadN X7.here hx rfl (hb hby at_55) rfl kS) ?_
    show own_G p.tables e below _ (T7.setTop (mkF m 56 #[.val (.int p1), .val (.int (2 : Int32)), .val (.ref w_COMPLETED), .val (.int (1 : Int32))] [(.int (1 : Int32)), (.int (1 : Int32))]))
    refine own_st (fun _ kS => XS.icmpNo X7.here hx rfl (hb hby at_56) rfl (teq (by decide : (1 : Int32) = (1 : Int32))).2 kS) ?_
    show own_G p.tables e below _ (T7.setTop (mkF m 59 #[.val (.int p1), .val (.int (2 : Int32)), .val (.ref w_COMPLETED), .val (.int (1 : Int32))] []))
    refine own_st (fun _ kS => XS.iconst X7.here hx rfl (hb hby at_59) kS) ?_
    show own_G p.tables e below _ (T7.setTop (mkF m 60 #[.val (.int p1), .val (.int (2 : Int32)), .val (.ref w_COMPLETED), .val (.int (1 : Int32))] [(.int (1 : Int32))]))
    refine own_st (fun _ kS => XS.goto X7.here hx rfl (pc0 := 60) (pc' := 64) rfl (hb hby at_60) (by decide) (by decide) kS) ?_
    show own_G p.tables e below _ (T7.setTop (mkF m 64 #[.val (.int p1), .val (.int (2 : Int32)), .val (.ref w_COMPLETED), .val (.int (1 : Int32))] [(.int (1 : Int32))]))
    exact own_retN X7 hx hlk (t := .boolean) hret (by simp) (hb hby at_64) (by decide) (by decide) (v' := (1 : Int32)) rfl (by rw [eq7]; exact ⟨rfl, N7⟩)
  · rw [hk1]
    show own_G p.tables e below _ (s₁.setTop (mkF m 3 #[.val (.int p1), .unset, .unset, .unset] [(.int (3 : Int32))]))
    refine own_st (fun _ kS => XS.istoreN X0.here hx rfl (hb hby at_3) rfl (l' := #[.val (.int p1), .val (.int (3 : Int32)), .unset, .unset]) rfl kS) ?_
    show own_G p.tables e below _ (s₁.setTop (mkF m 4 #[.val (.int p1), .val (.int (3 : Int32)), .unset, .unset] []))
    refine own_st (fun _ kS => XS.iloadN X0.here hx rfl (hb hby at_4) rfl kS) ?_
    show own_G p.tables e below _ (s₁.setTop (mkF m 5 #[.val (.int p1), .val (.int (3 : Int32)), .unset, .unset] [(.int (3 : Int32))]))
    refine own_st (fun _ kS => XS.ifYes X0.here hx rfl (pc0 := 5) (pc' := 17) rfl (hb hby at_5) rfl ((if0 _ _).trans (feq (by decide : ¬ ((3 : Int32) = (0 : Int32)))).2) (by decide) (by decide) kS) ?_
    show own_G p.tables e below _ (s₁.setTop (mkF m 17 #[.val (.int p1), .val (.int (3 : Int32)), .unset, .unset] []))
    refine own_st (fun _ kS => XS.iloadN X0.here hx rfl (hb hby at_17) rfl kS) ?_
    show own_G p.tables e below _ (s₁.setTop (mkF m 18 #[.val (.int p1), .val (.int (3 : Int32)), .unset, .unset] [(.int (3 : Int32))]))
    refine own_st (fun _ kS => XS.iconst X0.here hx rfl (hb hby at_18) kS) ?_
    show own_G p.tables e below _ (s₁.setTop (mkF m 19 #[.val (.int p1), .val (.int (3 : Int32)), .unset, .unset] [(.int (1 : Int32)), (.int (3 : Int32))]))
    refine own_st (fun _ kS => XS.icmpYes X0.here hx rfl (pc0 := 19) (pc' := 31) rfl (hb hby at_19) rfl (feq (by decide : ¬ ((3 : Int32) = (1 : Int32)))).2 (by decide) (by decide) kS) ?_
    show own_G p.tables e below _ (s₁.setTop (mkF m 31 #[.val (.int p1), .val (.int (3 : Int32)), .unset, .unset] []))
    refine own_st (fun _ kS => XS.iloadN X0.here hx rfl (hb hby at_31) rfl kS) ?_
    show own_G p.tables e below _ (s₁.setTop (mkF m 32 #[.val (.int p1), .val (.int (3 : Int32)), .unset, .unset] [(.int (3 : Int32))]))
    refine own_st (fun _ kS => XS.iconst X0.here hx rfl (hb hby at_32) kS) ?_
    show own_G p.tables e below _ (s₁.setTop (mkF m 33 #[.val (.int p1), .val (.int (3 : Int32)), .unset, .unset] [(.int (2 : Int32)), (.int (3 : Int32))]))
    refine own_st (fun _ kS => XS.icmpYes X0.here hx rfl (pc0 := 33) (pc' := 45) rfl (hb hby at_33) rfl (feq (by decide : ¬ ((3 : Int32) = (2 : Int32)))).2 (by decide) (by decide) kS) ?_
    show own_G p.tables e below _ (s₁.setTop (mkF m 45 #[.val (.int p1), .val (.int (3 : Int32)), .unset, .unset] []))
    obtain ⟨T8, X8, e8, st8⟩ := getS2 X0 hx hZ hown (host := "") (Or.inl (hw _ (List.mem_of_getElem? (i := 12) rfl))) Via.refl e0 (Sta.ext O0.2 S_FAULTED) (g := (mkF m 45 #[.val (.int p1), .val (.int (3 : Int32)), .unset, .unset] [])) rfl (hb hby at_45)
    refine own_st st8 ?_
    show own_G p.tables e below _ (T8.setTop (mkF m 48 #[.val (.int p1), .val (.int (3 : Int32)), .unset, .unset] [(.ref w_FAULTED)]))
    refine own_st (fun _ kS => XS.astoreN X8.here hx rfl (hb hby at_48) rfl rfl (l' := #[.val (.int p1), .val (.int (3 : Int32)), .val (.ref w_FAULTED), .unset]) rfl kS) ?_
    show own_G p.tables e below _ (T8.setTop (mkF m 49 #[.val (.int p1), .val (.int (3 : Int32)), .val (.ref w_FAULTED), .unset] []))
    refine own_st (fun _ kS => XS.iconst X8.here hx rfl (hb hby at_49) kS) ?_
    show own_G p.tables e below _ (T8.setTop (mkF m 50 #[.val (.int p1), .val (.int (3 : Int32)), .val (.ref w_FAULTED), .unset] [(.int (1 : Int32))]))
    refine own_st (fun _ kS => XS.istoreN X8.here hx rfl (hb hby at_50) rfl (l' := #[.val (.int p1), .val (.int (3 : Int32)), .val (.ref w_FAULTED), .val (.int (1 : Int32))]) rfl kS) ?_
    show own_G p.tables e below _ (T8.setTop (mkF m 51 #[.val (.int p1), .val (.int (3 : Int32)), .val (.ref w_FAULTED), .val (.int (1 : Int32))] []))
    refine own_st (fun _ kS => XS.aloadN X8.here hx rfl (hb hby at_51) rfl rfl kS) ?_
    show own_G p.tables e below _ (T8.setTop (mkF m 52 #[.val (.int p1), .val (.int (3 : Int32)), .val (.ref w_FAULTED), .val (.int (1 : Int32))] [(.ref w_FAULTED)]))
    obtain ⟨cq9, kq9, q9a, q9b, q9c⟩ := isOf hZ e8 (Exa.ext O0.2 E_FAULTED)
    obtain ⟨_, _, ⟨T9, L9, k9, n9⟩, -, X9, ⟨Lc9, hQ9, l9, y9, z9⟩, st9⟩ := X8.virtualBack hx (y := (⟨"com/example/recurring_jobs/recurringjobs/service/JobState", "isFinal", "()Z"⟩ : MethodName)) (z := (⟨"com/example/recurring_jobs/recurringjobs/service/JobState", "isFinal", "()Z"⟩ : MethodName)) hown (mvT hZ (hw _ (List.mem_of_getElem? (i := 3) rfl))) (mvT hZ (hw _ (List.mem_of_getElem? (i := 4) rfl))) (notFace_of_selects (args := #[]) (mvT hZ (hw _ (List.mem_of_getElem? (i := 6) rfl)))) (mvT hZ (hw _ (List.mem_of_getElem? (i := 6) rfl))) (mvT hZ (hw _ (List.mem_of_getElem? (i := 5) rfl))) (by decide) (backOf (W := 0) (rm_isFinal_FAULTED l Z a0 hw [] w_FAULTED w_COMPLETED h0 n0 Z0 O0 S_COMPLETED S_FAULTED ne_FAULTED_COMPLETED) hZ (hw _ (List.mem_of_getElem? (i := 7) rfl)) (hw _ (List.mem_of_getElem? (i := 1) rfl)) (by decide) (by decide)) q9a q9c (g := (mkF m 52 #[.val (.int p1), .val (.int (3 : Int32)), .val (.ref w_FAULTED), .val (.int (1 : Int32))] [(.ref w_FAULTED)])) rfl (by rw [hml]; rfl) (Steps.refl _) (argsL := []) (rest := []) (lenOf own_pd0 rfl) rfl (by show 2 * 0 + _ ≤ _; exact Nat.le_of_eq rfl) (hb hby at_52) (fun _ _ => ⟨rfl, e8, (by decide : 0 + 0 ≤ _), (by decide : 0 + 0 ≤ _)⟩)
    dsimp only [Pt.U, Pt.locs, Pt.cells, Pt.slots] at X9 l9 y9 z9 st9 hQ9
    subst l9 y9 z9
    obtain ⟨rfl, Nq9, eq9⟩ := hQ9
    have N9 := Fr.app N0 Nq9
    refine own_tr st9 ?_
    show own_G p.tables e below _ (T9.setTop (mkF m 55 #[.val (.int p1), .val (.int (3 : Int32)), .val (.ref w_FAULTED), .val (.int (1 : Int32))] [(.int (1 : Int32))]))
    refine own_st (fun _ kS => XS.iloadN X9.here hx rfl (hb hby at_55) rfl kS) ?_
    show own_G p.tables e below _ (T9.setTop (mkF m 56 #[.val (.int p1), .val (.int (3 : Int32)), .val (.ref w_FAULTED), .val (.int (1 : Int32))] [(.int (1 : Int32)), (.int (1 : Int32))]))
    refine own_st (fun _ kS => XS.icmpNo X9.here hx rfl (hb hby at_56) rfl (teq (by decide : (1 : Int32) = (1 : Int32))).2 kS) ?_
    show own_G p.tables e below _ (T9.setTop (mkF m 59 #[.val (.int p1), .val (.int (3 : Int32)), .val (.ref w_FAULTED), .val (.int (1 : Int32))] []))
    refine own_st (fun _ kS => XS.iconst X9.here hx rfl (hb hby at_59) kS) ?_
    show own_G p.tables e below _ (T9.setTop (mkF m 60 #[.val (.int p1), .val (.int (3 : Int32)), .val (.ref w_FAULTED), .val (.int (1 : Int32))] [(.int (1 : Int32))]))
    refine own_st (fun _ kS => XS.goto X9.here hx rfl (pc0 := 60) (pc' := 64) rfl (hb hby at_60) (by decide) (by decide) kS) ?_
    show own_G p.tables e below _ (T9.setTop (mkF m 64 #[.val (.int p1), .val (.int (3 : Int32)), .val (.ref w_FAULTED), .val (.int (1 : Int32))] [(.int (1 : Int32))]))
    exact own_retN X9 hx hlk (t := .boolean) hret (by simp) (hb hby at_64) (by decide) (by decide) (v' := (1 : Int32)) rfl (by rw [eq9]; exact ⟨rfl, N9⟩)
set_option maxRecDepth 65536 in
set_option maxHeartbeats 40000000 in
theorem comes_1 {Post : Tables → Env → Array Value → State → Outcome → State → Prop} (hpost : ∀ tb e args s v u, (limb_1_1.after args s (.returned v) u = true ∧ limb_1_2.after args s (.returned v) u = true ∧ True) → FrameEnd s (.returned v) u (Jvm.fieldLocs frame_1_writes args s ++ Jvm.arrayLocs frame_1_arrays args s ++ Jvm.staticLocs frame_1_statics s) 0 0 → Post tb e args s (.returned v) u) :
    ArmFor flags0 classFile x code maxLocals ret World_1 tables_1 room_1 Calls_1 rest_1 Pre_1 Post := by
  intro l hfl _ _ p e ha hc hk s m args below hf hA hF happ hP
  obtain ⟨hcalls, hrest, hpre⟩ := hP
  obtain ⟨-, -, -, hnamed, -, -, -, hat⟩ := (Spec.applies_iff hf).mp happ
  obtain ⟨hg, hn⟩ := and_e (Cond.before_iff.mp (show (Jvm.Cond.and given_1 narrow_1).before args s = true from hpre))
  obtain ⟨g1a, g1b⟩ := and_e hg
  obtain ⟨w0, rfl⟩ : ∃ w0 : Value, args = #[w0] := by
    have hs : args.size = 1 := by simpa [Cond.value, given_1] using g1a
    obtain ⟨L⟩ := args
    match L, hs with
    | [w0], _ => exact ⟨w0, rfl⟩
  have hw := fun d (hd : d ∈ tables_1) => atoms_spec (ws := Jvm.Cond.code x code maxLocals ret :: tables_1) hat d (List.mem_cons_of_mem _ hd)
  have hfit : Fit s := fun {y c} hc i hi => by
    obtain ⟨ha, rfl⟩ := Array.getElem?_eq_some_iff.mp hc
    have q := List.all_eq_true.mp ((Array.all_eq_true_iff_forall_mem.mp hF) _ (Array.getElem_mem ha)) i (List.mem_range.mpr hi)
    simpa [Array.getElem?_eq_getElem hi] using q
  obtain ⟨i0, ei0⟩ := is_v g1b
  obtain rfl : w0 = (.int i0) := Option.some.inj ei0
  obtain ⟨g2a, g2b⟩ := and_e hn
  obtain ⟨g3a, g3b⟩ := and_e g2b
  obtain ⟨g4a, g4b⟩ := and_e g3b
  obtain ⟨g5a, g5b⟩ := and_e g4b
  obtain ⟨g6a, g6b⟩ := and_e g5b
  obtain ⟨g7a, g7b⟩ := and_e g6b
  obtain ⟨g8a, g8b⟩ := and_e g7b
  obtain ⟨w_ENABLED, v_ENABLED⟩ := exa_v g2a
  have E_ENABLED := Exa.start v_ENABLED g2a
  have S_ENABLED := Sta.start v_ENABLED (Or.inr ⟨(hw _ (List.mem_of_getElem? (i := 1) rfl)), (hw _ (List.mem_of_getElem? (i := 2) rfl))⟩)
  obtain ⟨w_COMPLETED, v_COMPLETED⟩ := exa_v g3a
  have E_COMPLETED := Exa.start v_COMPLETED g3a
  have S_COMPLETED := Sta.start v_COMPLETED (Or.inr ⟨(hw _ (List.mem_of_getElem? (i := 1) rfl)), (hw _ (List.mem_of_getElem? (i := 9) rfl))⟩)
  obtain ⟨w_FAULTED, v_FAULTED⟩ := exa_v g6a
  have E_FAULTED := Exa.start v_FAULTED g6a
  have S_FAULTED := Sta.start v_FAULTED (Or.inr ⟨(hw _ (List.mem_of_getElem? (i := 1) rfl)), (hw _ (List.mem_of_getElem? (i := 11) rfl))⟩)
  obtain ⟨w_DISABLED, v_DISABLED⟩ := exa_v g8a
  have E_DISABLED := Exa.start v_DISABLED g8a
  have S_DISABLED := Sta.start v_DISABLED (Or.inr ⟨(hw _ (List.mem_of_getElem? (i := 1) rfl)), (hw _ (List.mem_of_getElem? (i := 15) rfl))⟩)
  have F_ENABLED_ordinal : Fld s s.heap w_ENABLED "java/lang/Enum" "ordinal" "I" (.int (0 : Int32)) := Fld.start ((fld_at v_ENABLED).symm.trans (eqv_i (Term.int_eval (0)) g4a))
  have F_COMPLETED_ordinal : Fld s s.heap w_COMPLETED "java/lang/Enum" "ordinal" "I" (.int (2 : Int32)) := Fld.start ((fld_at v_COMPLETED).symm.trans (eqv_i (Term.int_eval (2)) g5a))
  have F_FAULTED_ordinal : Fld s s.heap w_FAULTED "java/lang/Enum" "ordinal" "I" (.int (3 : Int32)) := Fld.start ((fld_at v_FAULTED).symm.trans (eqv_i (Term.int_eval (3)) g7a))
  have F_DISABLED_ordinal : Fld s s.heap w_DISABLED "java/lang/Enum" "ordinal" "I" (.int (1 : Int32)) := Fld.start ((fld_at v_DISABLED).symm.trans (eqv_i (Term.int_eval (1)) g8b))
  have ne_ENABLED_COMPLETED := Fld.ne F_ENABLED_ordinal F_COMPLETED_ordinal (by decide)
  have ne_ENABLED_FAULTED := Fld.ne F_ENABLED_ordinal F_FAULTED_ordinal (by decide)
  have ne_DISABLED_COMPLETED := Fld.ne F_DISABLED_ordinal F_COMPLETED_ordinal (by decide)
  have ne_DISABLED_FAULTED := Fld.ne F_DISABLED_ordinal F_FAULTED_ordinal (by decide)
  have ne_COMPLETED_FAULTED := Fld.ne F_COMPLETED_ordinal F_FAULTED_ordinal (by decide)
  have ne_FAULTED_COMPLETED := Fld.ne F_FAULTED_ordinal F_COMPLETED_ordinal (by decide)
  obtain ⟨n, o, h1, h2, h3, _, L, rfl, ⟨rfl, N⟩, hq⟩ := rm_law l s _ hw tables_1 i0 w_ENABLED w_DISABLED w_COMPLETED w_FAULTED s.heap s.heap.size (Nat.le_refl _) (Old.start s) S_ENABLED S_DISABLED S_COMPLETED S_FAULTED E_ENABLED E_DISABLED E_COMPLETED E_FAULTED ne_ENABLED_COMPLETED ne_ENABLED_FAULTED ne_DISABLED_COMPLETED ne_DISABLED_FAULTED ne_COMPLETED_FAULTED ne_FAULTED_COMPLETED p e ha hc hk s m _ below hf ((Spec.applies_iff_loose hf).mp happ).1 ⟨rfl, State.Warmed39.refl s, rfl⟩ trivial
  refine ⟨n, _, h1, h2, h3, hpost _ _ _ _ _ _ ⟨Cond.after_iff.mpr rfl, Cond.after_iff.mpr (eq_i res_at (Term.int_eval (1)) rfl), trivial⟩ ⟨hq.1, hq.2.1, (hq.2.2.sift fun y hy => Or.inr (N y hy)).mono (by decide) (by decide)⟩⟩
theorem main_1_1 : Claimed_1_1 := comes_1 fun _ _ _ _ _ _ h hF => ⟨h.1, hF⟩
theorem main_1_2 : Claimed_1_2 := comes_1 fun _ _ _ _ _ _ h hF => ⟨h.2.1, hF⟩
end Jvm.Pilot.@@N@@
namespace Jvm.Pilot.@@N@@
open Jvm Jvm.ClassFile Sem Op Lib Jvm.Free Jvm.Stand Jvm.Pilot.@@N@@.Jvm.D
/-! MADE BY PROGRAM (witnessworld.py) out of the Statement's table words and the real class files: 12 classes; the members and pool entries that the words name. The judged class is class 1, her method 1. -/
namespace start1
open Jvm.ClassFile
def u (s : String) : CpInfo := .utf8 (stringToUtf16 s)
/-- a pool by its gaps: so many unusable entries, then the entry; so many at the end -/
def gap : Nat → List CpInfo → List CpInfo
  | 0, r => r
  | n + 1, r => .unusable :: gap n r
def poolList (es : List (Nat × CpInfo)) (last : Nat) : List CpInfo := es.foldr (fun e r => gap e.1 (e.2 :: r)) (gap last [])
def pool (es : List (Nat × CpInfo)) (last : Nat) : Array CpInfo := ⟨poolList es last⟩
def fileOf (pool : Array CpInfo) (this : Nat) (attrs : Array Attribute := #[]) (ms : Array MethodInfo := #[]) (fl : Nat := 33) (sup : Nat := 0) (ifs : Array Nat := #[]) (fds : Array FieldInfo := #[]) : ClassFile where
  minorVersion := 0
  majorVersion := 65
  constantPool := pool
  accessFlags := fl
  thisClass := this
  superClass := sup
  interfaces := ifs
  fields := fds
  methods := ms
  attributes := attrs
def plain (name : String) (sup : Option ClassId) : Class where
  name := name
  kind := .ordinary
  loader := none
  accessFlags := 33
  super := sup
  interfaces := #[]
  cf := none
  fields := #[]
  methods := #[]
  instanceTypes := #[]
  staticTypes := #[]
  resolved := #[]
  callSites := []
  init := .initialized
  statics := none
  mirror := none

def pool0 : Array CpInfo := pool [(5, u "<init>"), (0, u "()V"), (1, .class_ 10), (1, u "java/lang/Object")] 113

def k0m0 : Method := { name := "<init>", desc := "()V", sig := { parameters := [], returnType := none }, accessFlags := 1, code := none }
/-- java/lang/Object -/
def k0 : Class := { plain "java/lang/Object" none with
  accessFlags := 33
  interfaces := #[]
  cf := some (fileOf pool0 8 #[] #[{ accessFlags := 1, nameIndex := 5, descriptorIndex := 6, attributes := #[] }] 33 0 #[] #[])
  fields := #[]
  methods := #[k0m0]
  instanceTypes := #[]
  staticTypes := #[]
  resolved := Array.replicate 124 none
  statics := none }

def pool1 : Array CpInfo := pool [(2, .class_ 4), (1, u "java/lang/Object"), (0, u "<init>"), (0, u "()V"), (0, .fieldref 8 9), (0, .class_ 10), (0, .nameAndType 11 12), (0, u "com/example/recurring_jobs/recurringjobs/service/JobState"), (0, u "ENABLED"), (0, u "Lcom/example/recurring_jobs/recurringjobs/service/JobState;"), (0, .fieldref 8 14), (0, .nameAndType 15 12), (0, u "DISABLED"), (0, .fieldref 8 17), (0, .nameAndType 18 12), (0, u "COMPLETED"), (0, .fieldref 8 20), (0, .nameAndType 21 12), (0, u "FAULTED"), (0, .methodref 8 23), (0, .nameAndType 24 25), (0, u "isFinal"), (0, u "()Z"), (0, .class_ 27), (0, u "com/example/recurring_jobs/recurringjobs/service/JobStateIsFinalPinLaw"), (2, u "law"), (0, u "(I)Z")] 3

def k1m0 : Method := { name := "<init>", desc := "()V", sig := { parameters := [], returnType := none }, accessFlags := 2, code := none }
def k1c1 : Code := { maxStack := 2, maxLocals := 4, code := code, exceptionTable := #[], attributes := #[] }
def k1m1 : Method := { name := "law", desc := "(I)Z", sig := { parameters := [.int], returnType := some .boolean }, accessFlags := 9, code := some k1c1 }
/-- com/example/recurring_jobs/recurringjobs/service/JobStateIsFinalPinLaw -/
def k1 : Class := { plain "com/example/recurring_jobs/recurringjobs/service/JobStateIsFinalPinLaw" (some 0) with
  accessFlags := 49
  interfaces := #[]
  cf := some (fileOf pool1 26 #[] #[{ accessFlags := 2, nameIndex := 5, descriptorIndex := 6, attributes := #[] }, { accessFlags := 9, nameIndex := 30, descriptorIndex := 31, attributes := #[] }] 49 2 #[] #[])
  fields := #[]
  methods := #[k1m0, k1m1]
  instanceTypes := #[]
  staticTypes := #[]
  resolved := Array.replicate 35 none
  statics := none }

def pool2 : Array CpInfo := pool [(1, .class_ 2), (0, u "java/lang/constant/Constable"), (0, .class_ 4), (0, u "java/lang/Object")] 6

/-- java/lang/constant/Constable -/
def k2 : Class := { plain "java/lang/constant/Constable" (some 0) with
  accessFlags := 1537
  interfaces := #[]
  cf := some (fileOf pool2 1 #[] #[] 1537 3 #[] #[])
  fields := #[]
  methods := #[]
  instanceTypes := #[]
  staticTypes := #[]
  resolved := Array.replicate 11 none
  statics := none }

def pool3 : Array CpInfo := pool [(1, .class_ 2), (0, u "java/lang/Comparable"), (0, .class_ 4), (0, u "java/lang/Object")] 7

/-- java/lang/Comparable -/
def k3 : Class := { plain "java/lang/Comparable" (some 0) with
  accessFlags := 1537
  interfaces := #[]
  cf := some (fileOf pool3 1 #[] #[] 1537 3 #[] #[])
  fields := #[]
  methods := #[]
  instanceTypes := #[]
  staticTypes := #[]
  resolved := Array.replicate 12 none
  statics := none }

def pool4 : Array CpInfo := pool [(1, .class_ 2), (0, u "java/io/Serializable"), (0, .class_ 4), (0, u "java/lang/Object")] 2

/-- java/io/Serializable -/
def k4 : Class := { plain "java/io/Serializable" (some 0) with
  accessFlags := 1537
  interfaces := #[]
  cf := some (fileOf pool4 1 #[] #[] 1537 3 #[] #[])
  fields := #[]
  methods := #[]
  instanceTypes := #[]
  staticTypes := #[]
  resolved := Array.replicate 7 none
  statics := none }

def pool5 : Array CpInfo := pool [(2, .class_ 4), (1, u "java/lang/Enum"), (0, u "name"), (0, u "Ljava/lang/String;"), (2, u "ordinal"), (0, u "I"), (1, .class_ 14), (1, u "java/lang/Object"), (4, u "hash"), (86, .class_ 108), (1, u "java/lang/Enum$EnumDesc"), (2, .class_ 112), (0, u "java/lang/constant/Constable"), (0, .class_ 114), (0, u "java/lang/Comparable"), (0, .class_ 116), (0, u "java/io/Serializable")] 87

/-- java/lang/Enum -/
def k5 : Class := { plain "java/lang/Enum" (some 0) with
  accessFlags := 1057
  interfaces := #[2, 3, 4]
  cf := some (fileOf pool5 2 #[.nestMembers #[106]] #[] 1057 12 #[111, 113, 115] #[{ accessFlags := 18, nameIndex := 5, descriptorIndex := 6, attributes := #[] }, { accessFlags := 18, nameIndex := 9, descriptorIndex := 10, attributes := #[] }, { accessFlags := 2, nameIndex := 19, descriptorIndex := 10, attributes := #[] }])
  fields := #[{ name := "name", type := (.object "java/lang/String"), accessFlags := 18, slot := 0, constantValue := 0 }, { name := "ordinal", type := .int, accessFlags := 18, slot := 1, constantValue := 0 }, { name := "hash", type := .int, accessFlags := 2, slot := 2, constantValue := 0 }]
  methods := #[]
  instanceTypes := #[(.object "java/lang/String"), .int, .int]
  staticTypes := #[]
  resolved := Array.replicate 204 none
  statics := none }

def pool6 : Array CpInfo := pool [(1, .class_ 2), (0, u "com/example/recurring_jobs/recurringjobs/service/JobState"), (2, u "ENABLED"), (0, u "Lcom/example/recurring_jobs/recurringjobs/service/JobState;"), (2, u "DISABLED"), (0, .fieldref 1 11), (0, .nameAndType 12 6), (0, u "COMPLETED"), (0, .fieldref 1 14), (0, .nameAndType 15 6), (0, u "FAULTED"), (2, u "$VALUES"), (0, u "[Lcom/example/recurring_jobs/recurringjobs/service/JobState;"), (6, .class_ 28), (1, u "java/lang/Enum"), (38, u "isFinal"), (0, u "()Z")] 6

def k6c0 : Code := { maxStack := 2, maxLocals := 1, code := prog_27_method_5_code, exceptionTable := #[], attributes := #[] }
def k6m0 : Method := { name := "isFinal", desc := "()Z", sig := { parameters := [], returnType := some .boolean }, accessFlags := 1, code := some k6c0 }
/-- com/example/recurring_jobs/recurringjobs/service/JobState -/
def k6 : Class := { plain "com/example/recurring_jobs/recurringjobs/service/JobState" (some 5) with
  accessFlags := 16433
  interfaces := #[]
  cf := some (fileOf pool6 1 #[] #[{ accessFlags := 1, nameIndex := 67, descriptorIndex := 68, attributes := #[] }] 16433 26 #[] #[{ accessFlags := 16409, nameIndex := 5, descriptorIndex := 6, attributes := #[] }, { accessFlags := 16409, nameIndex := 9, descriptorIndex := 6, attributes := #[] }, { accessFlags := 16409, nameIndex := 12, descriptorIndex := 6, attributes := #[] }, { accessFlags := 16409, nameIndex := 15, descriptorIndex := 6, attributes := #[] }, { accessFlags := 4122, nameIndex := 18, descriptorIndex := 19, attributes := #[] }])
  fields := #[{ name := "ENABLED", type := (.object "com/example/recurring_jobs/recurringjobs/service/JobState"), accessFlags := 16409, slot := 0, constantValue := 0 }, { name := "DISABLED", type := (.object "com/example/recurring_jobs/recurringjobs/service/JobState"), accessFlags := 16409, slot := 1, constantValue := 0 }, { name := "COMPLETED", type := (.object "com/example/recurring_jobs/recurringjobs/service/JobState"), accessFlags := 16409, slot := 2, constantValue := 0 }, { name := "FAULTED", type := (.object "com/example/recurring_jobs/recurringjobs/service/JobState"), accessFlags := 16409, slot := 3, constantValue := 0 }, { name := "$VALUES", type := (.array (.object "com/example/recurring_jobs/recurringjobs/service/JobState")), accessFlags := 4122, slot := 4, constantValue := 0 }]
  methods := #[k6m0]
  instanceTypes := #[(.object "java/lang/String"), .int, .int]
  staticTypes := #[(.object "com/example/recurring_jobs/recurringjobs/service/JobState"), (.object "com/example/recurring_jobs/recurringjobs/service/JobState"), (.object "com/example/recurring_jobs/recurringjobs/service/JobState"), (.object "com/example/recurring_jobs/recurringjobs/service/JobState"), (.array (.object "com/example/recurring_jobs/recurringjobs/service/JobState"))]
  resolved := Array.replicate 75 none
  statics := some 0 }

def pool7 : Array CpInfo := pool [(1, u "java/lang/Cloneable"), (0, .class_ 1), (0, u "java/lang/Object"), (0, .class_ 3)] 3

/-- java/lang/Cloneable -/
def k7 : Class := { plain "java/lang/Cloneable" (some 0) with
  accessFlags := 1537
  interfaces := #[]
  cf := some (fileOf pool7 2 #[] #[] 1537 4 #[] #[])
  fields := #[]
  methods := #[]
  instanceTypes := #[]
  staticTypes := #[]
  resolved := Array.replicate 8 none
  statics := none }

/-- the primitive byte -/
def k8 : Class := { plain "byte" none with kind := .primitive 'B', accessFlags := 0x411 }
/-- [B -/
def k9 : Class := { plain "[B" (some 0) with kind := .array 8 .byte, interfaces := #[7, 4], accessFlags := 1041 }

/-- the primitive int -/
def k10 : Class := { plain "int" none with kind := .primitive 'I', accessFlags := 0x411 }
/-- [I -/
def k11 : Class := { plain "[I" (some 0) with kind := .array 10 .int, interfaces := #[7, 4], accessFlags := 1041 }

def heap : Heap := #[{ cls := 6, slots := #[.ref 1, .ref 2, .ref 3, .ref 4, .null], vm := .statics 6 },
  { cls := 6, slots := #[.null, .int 0, .int 0], vm := .none },
  { cls := 6, slots := #[.null, .int 1, .int 0], vm := .none },
  { cls := 6, slots := #[.null, .int 2, .int 0], vm := .none },
  { cls := 6, slots := #[.null, .int 3, .int 0], vm := .none }]
def classes : Array Class := #[k0, k1, k2, k3, k4, k5, k6, k7, k8, k9, k10, k11]
def interned : List (Array UInt16 × Addr) := []
def slotsUsed : Nat := 17
def theMethod : MethodId := ⟨1, 1⟩
def args0 : Array Value := #[.int 5]
def aboutOver (below : List Frame) : State where
  vm := { classes := classes, interned := interned.toArray }
  heap := heap
  slotsUsed := slotsUsed
  threads := #[{ frames := .invoking theMethod args0 :: below }]
def below0 : List Frame := [.native { method := ⟨0, 0⟩, args := #[] }]
def about1 : State := aboutOver below0
def p0 : Program := .bare "" "" ""
def e0 : Env := launch0.env 0 0 0
theorem w_frames : about1.frames = Frame.invoking theMethod args0 :: below0 := rfl
set_option maxRecDepth 65536 in
theorem w_args : argsFit about1.vm theMethod args0 = true := by decide +kernel
set_option maxRecDepth 65536 in
theorem w_heap : heapFits about1 = true := by decide +kernel
set_option maxRecDepth 65536 in
theorem w_runnable : about1.curStatus? = some .runnable := by decide +kernel
set_option maxRecDepth 65536 in
theorem w_alone : about1.alone = true := by decide +kernel
set_option maxRecDepth 65536 in
theorem w_named : about1.methodNamed? x = some theMethod := by decide +kernel
set_option maxRecDepth 65536 in
theorem w_hears : about1.hears theMethod below0 = true := by decide +kernel
set_option maxRecDepth 65536 in
theorem w_ripe : about1.ripe theMethod args0 below0 = true := by decide +kernel
theorem w_running : about1.status = .running := rfl
set_option maxRecDepth 65536 in
theorem w_room : about1.hasRoom e0.platform room_1 = true :=
  launch0.hasRoom_least _ room_1 (by decide +kernel) (by decide +kernel) (by decide +kernel) (by decide +kernel) (by decide +kernel) (by decide +kernel)
theorem allAtoms_all (ts : List Jvm.Cond) (a : Array Jvm.Value) (st : Jvm.State) : (allAtoms ts).before a st = ts.all (fun c => c.before a st) := by
  induction ts with
  | nil => rfl
  | cons c t ih =>
    show (Jvm.Cond.and c (allAtoms t)).before a st = _
    rw [Jvm.Cond.before_and, ih, List.all_cons]
def words1 : List Jvm.Cond := Jvm.Cond.code x code maxLocals ret :: tables_1
/-- a 'code' word, met by the world's own term for the bytes: nothing is compared byte by byte -/
theorem code_word {y : MethodName} {bytes : ByteArray} {mx : Nat} {rt : Option FieldType} {a : Array Value} {s : State} {m : MethodId} {meth : Method} {c : Code} (h1 : s.methodNamed? y = some m) (h2 : s.vm.method? m = some meth) (h3 : meth.code = some c) (h4 : c.code = bytes)
    (h5 : (c.maxLocals == mx && c.exceptionTable.isEmpty && decide (c.maxStack ≤ mostOperands) && decide (meth.sig.returnType = rt) && !meth.locks && decide (parseMethodDescriptor y.desc = some meth.sig)) = true) : (Jvm.Cond.code y bytes mx rt).before a s = true := by
  simp only [Bool.and_eq_true, beq_iff_eq, Bool.not_eq_true', decide_eq_true_eq] at h5
  obtain ⟨⟨⟨⟨⟨g1, g2⟩, g3⟩, g4⟩, g5⟩, g6⟩ := h5
  simp [Cond.before, Cond.holds, Cond.value, h1, h2, h3, h4, g1, g2, g3, g4, g5, g6]
def isCode : Jvm.Cond → Bool
  | .code _ _ _ _ => true
  | _ => false
theorem all_split {L : List Jvm.Cond} {P : Jvm.Cond → Bool} (h1 : L.all (fun c => isCode c || P c) = true) (h2 : ∀ c ∈ L.filter isCode, P c = true) : L.all P = true := by
  refine List.all_eq_true.mpr fun c hc => ?_
  have h := List.all_eq_true.mp h1 c hc
  rcases Bool.eq_false_or_eq_true (isCode c) with hi | hi
  · exact h2 c (List.mem_filter.mpr ⟨hc, hi⟩)
  · simpa [hi] using h
set_option maxRecDepth 65536 in
theorem w_c0 : (Jvm.Cond.code x code maxLocals ret).before args0 about1 = true := code_word (m := ⟨1, 1⟩) (meth := k1m1) (c := k1c1) (by decide +kernel) rfl rfl rfl (by decide +kernel)
set_option maxRecDepth 65536 in
theorem w_c1 : (Jvm.Cond.code ({ cls := "com/example/recurring_jobs/recurringjobs/service/JobState", name := "isFinal", desc := "()Z" } : Jvm.MethodName) prog_27_method_5_code (1 : Nat) (Option.some Jvm.ClassFile.FieldType.boolean)).before args0 about1 = true := code_word (m := ⟨6, 0⟩) (meth := k6m0) (c := k6c0) (by decide +kernel) rfl rfl rfl (by decide +kernel)
def codes1 : List Jvm.Cond := [Jvm.Cond.code x code maxLocals ret, Jvm.Cond.code ({ cls := "com/example/recurring_jobs/recurringjobs/service/JobState", name := "isFinal", desc := "()Z" } : Jvm.MethodName) prog_27_method_5_code (1 : Nat) (Option.some Jvm.ClassFile.FieldType.boolean)]
set_option maxRecDepth 65536 in
theorem codes_eq : words1.filter isCode = codes1 := rfl
theorem w_codes : ∀ c ∈ words1.filter isCode, c.before args0 about1 = true := by
  rw [codes_eq]
  intro c hc
  simp only [codes1, List.mem_cons, List.not_mem_nil, or_false] at hc
  rcases hc with rfl | rfl
  · exact w_c0
  · exact w_c1
set_option maxRecDepth 65536 in
theorem w_t1 : words1.all (fun c => isCode c || c.before args0 about1) = true := by decide +kernel
theorem w_tables : (allAtoms (Jvm.Cond.code x code maxLocals ret :: tables_1)).before args0 about1 = true := by
  rw [allAtoms_all]
  show words1.all (fun c => c.before args0 about1) = true
  refine all_split ?_ w_codes
  rw [w_t1]
set_option maxRecDepth 65536 in
theorem w_case : (Jvm.Cond.and given_1 narrow_1).before args0 about1 = true := by decide +kernel
theorem w_applies : (headSpec (Jvm.Cond.code x code maxLocals ret :: tables_1) room_1).applies x e0.platform about1 = true :=
  (Spec.applies_iff w_frames).mpr ⟨w_running, w_runnable, w_alone, w_named, w_hears, w_ripe, w_room, w_tables⟩
theorem atStart : AtStart classFile x code maxLocals ret World_1 tables_1 room_1 Calls_1 rest_1 Pre_1 launch0 p0 e0 about1 theMethod args0 below0 :=
  ⟨lists_1, trivial, launch0.admits_env _ _ _, launch0.least_env, fairChoices_fair.cas, fairChoices_fair.clock, w_frames, w_args, w_heap, w_applies, trivial, trivial, w_case⟩
end start1
theorem witness_1 : WitnessClaimed_1 := ⟨start1.p0, start1.e0, start1.about1, start1.theMethod, start1.args0, start1.below0, start1.atStart⟩
end Jvm.Pilot.@@N@@
