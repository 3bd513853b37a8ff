import JvmDerived
import JvmDerived.Pilot.@@N@@Statement
import JvmDerived.Pilot.@@N@@Code
set_option linter.unusedVariables false
set_option linter.unusedSimpArgs false
namespace Jvm.Pilot.@@N@@
open Jvm Jvm.ClassFile Sem Op Lib Jvm.Free Jvm.Stand Jvm.LawKit Jvm.RoadKit Bundle Jvm.Pilot.@@N@@.Jvm.D
section OwnKit
variable {p : Program} {l : Launch} {e : Env} {R : Room} {s : State} {m : MethodId} {args : Array Value} {below : List Frame} {meth : Method} {c : Code} {T : State} {locs : List Loc} {cells slots : Nat}
/-- from S the run comes to an end that Φ takes -/
def own_G (tb : Tables) (e : Env) (below : List Frame) (Φ : State → Outcome → Prop) (S : State) : Prop := ∃ t o, Steps tb e below S t ∧ t.status = .running ∧ Ended t below o ∧ Φ t o
def own_E (s : State) (Q : Option Value → Heap → List Loc → Prop) (kc ks : Nat) : State → Outcome → Prop := fun t o => ∃ v L, o = .returned v ∧ Q v t.heap L ∧ FrameEnd s o t L kc ks
theorem own_st {tb : Tables} {Φ : State → Outcome → Prop} {S S' : State} (h : ∀ t, Steps tb e below S' t → Steps tb e below S t) (g : own_G tb e below Φ S') : own_G tb e below Φ S := by
  obtain ⟨t, o, a, b⟩ := g
  exact ⟨t, o, h t a, b⟩
theorem own_tr {tb : Tables} {Φ : State → Outcome → Prop} {S S' : State} (h : Steps tb e below S S') (g : own_G tb e below Φ S') : own_G tb e below Φ S := by
  obtain ⟨t, o, a, b⟩ := g
  exact ⟨t, o, h.trans a, b⟩
theorem own_in {s₁ : State} (kc ks : Nat) (Q : Option Value → Heap → List Loc → Prop) {mL : Nat} {g : JFrame} (ef : entryFrame m args mL = g) (k : own_G p.tables e below (own_E s Q kc ks) (s₁.setTop g)) :
    ∃ s₂ o, Steps p.tables e below (s₁.setTop (entryFrame m args mL)) s₂ ∧ s₂.status = .running ∧ Ended s₂ below o ∧ ∃ v L, o = .returned v ∧ Q v s₂.heap L ∧ FrameEnd s o s₂ L kc ks := by
  rw [ef]
  exact k
theorem own_retI0 (X : Stand p l e R s m args below meth c T locs cells slots) (hx : p.tables.exec = Jvm.exec) {pc : Nat} {Ls : Array Slot} {z : Int32} {rest : List Value} (hret : meth.sig.returnType = some .int) (hd : decode c.code pc = .ok (.ireturn, 1)) {fs : List Frame}
    (hl : ∀ (f : JFrame) (acts : List Action), f.method = m → f.locked = none → f.entered = [] → (doReturn e (T.setTop f) acts (some (.int z))).1 = T.setFrames fs) : Steps p.tables e below (T.setTop (mkF m pc Ls (.int z :: rest))) (T.setFrames fs) :=
  retOut X hx hret rfl (Or.inl ⟨rfl, Or.inl rfl, z, rfl⟩) hd hl
theorem own_retI (X : Stand p l e R s m args below meth c T locs cells slots) (hx : p.tables.exec = Jvm.exec) (hlk : meth.locks = false) {pc : Nat} {Ls : Array Slot} {z : Int32} {rest : List Value} (hret : meth.sig.returnType = some .int) (hd : decode c.code pc = .ok (.ireturn, 1))
    {Q : Option Value → Heap → List Loc → Prop} {kc ks : Nat} (hc : cells ≤ kc) (hs : slots ≤ ks) (q : Q (some (.int z)) T.heap locs) : own_G p.tables e below (own_E s Q kc ks) (T.setTop (mkF m pc Ls (.int z :: rest))) := by
  obtain ⟨fs, hr, hrun, hended, hW, hsame⟩ := X.leave (v := some (.int z)) (fun h => by rw [hret] at h; cases h)
  exact ⟨_, _, own_retI0 X hx hret hd hr, hrun, hended, _, _, rfl, q, ⟨_, rfl⟩, hW, hsame.mono hc hs⟩
theorem own_retN (X : Stand p l e R s m args below meth c T locs cells slots) (hx : p.tables.exec = Jvm.exec) (hlk : meth.locks = false) {pc : Nat} {Ls : Array Slot} {z : Int32} {t : FieldType} {rest : List Value} (hret : meth.sig.returnType = some t) (ht : t = .boolean ∨ t = .byte ∨ t = .char ∨ t = .short) (hd : decode c.code pc = .ok (.ireturn, 1))
    {Q : Option Value → Heap → List Loc → Prop} {kc ks : Nat} (hc : cells ≤ kc) (hs : slots ≤ ks) {v' : Int32} (hv : nar t z = v') (q : Q (some (.int v')) T.heap locs) : own_G p.tables e below (own_E s Q kc ks) (T.setTop (mkF m pc Ls (.int z :: rest))) := by
  subst hv
  obtain ⟨fs, hr, hrun, hended, hW, hsame⟩ := X.leave (v := some (.int (nar t z))) (fun h => by rw [hret] at h; cases h)
  exact ⟨_, _, retN X hx hret ht hd hr, hrun, hended, _, _, rfl, q, ⟨_, rfl⟩, hW, hsame.mono hc hs⟩
theorem own_retA (X : Stand p l e R s m args below meth c T locs cells slots) (hx : p.tables.exec = Jvm.exec) (hlk : meth.locks = false) {pc : Nat} {Ls : Array Slot} {w : Value} {t : FieldType} {rest : List Value} (hret : meth.sig.returnType = some t) (ht : t.isReference = true) (hw : w.isRef = true) (hd : decode c.code pc = .ok (.areturn, 1))
    {Q : Option Value → Heap → List Loc → Prop} {kc ks : Nat} (hc : cells ≤ kc) (hs : slots ≤ ks) (q : Q (some w) T.heap locs) : own_G p.tables e below (own_E s Q kc ks) (T.setTop (mkF m pc Ls (w :: rest))) := by
  obtain ⟨fs, hr, hrun, hended, hW, hsame⟩ := X.leave (v := some w) (fun h => by rw [hret] at h; cases h)
  have hn : narrow t w = w := by rcases ref_cases hw with rfl | ⟨a, rfl⟩ <;> cases t <;> rfl
  exact ⟨_, _, retOut X hx hret hn (Or.inr (Or.inr (Or.inr (Or.inr ⟨rfl, ht, hw⟩)))) hd hr, hrun, hended, _, _, rfl, q, ⟨_, rfl⟩, hW, hsame.mono hc hs⟩
theorem own_retJ (X : Stand p l e R s m args below meth c T locs cells slots) (hx : p.tables.exec = Jvm.exec) (hlk : meth.locks = false) {pc : Nat} {Ls : Array Slot} {z : Int64} {rest : List Value} (hret : meth.sig.returnType = some .long) (hd : decode c.code pc = .ok (.lreturn, 1))
    {Q : Option Value → Heap → List Loc → Prop} {kc ks : Nat} (hc : cells ≤ kc) (hs : slots ≤ ks) (q : Q (some (.long z)) T.heap locs) : own_G p.tables e below (own_E s Q kc ks) (T.setTop (mkF m pc Ls (.long z :: rest))) := by
  obtain ⟨fs, hr, hrun, hended, hW, hsame⟩ := X.leave (v := some (.long z)) (fun h => by rw [hret] at h; cases h)
  exact ⟨_, _, retOut X hx hret rfl (Or.inr (Or.inl ⟨rfl, rfl, z, rfl⟩)) hd hr, hrun, hended, _, _, rfl, q, ⟨_, rfl⟩, hW, hsame.mono hc hs⟩
theorem own_retV (X : Stand p l e R s m args below meth c T locs cells slots) (hx : p.tables.exec = Jvm.exec) (hlk : meth.locks = false) {pc : Nat} {Ls : Array Slot} (hret : meth.sig.returnType = none) (hd : decode c.code pc = .ok (.return_, 1))
    {Q : Option Value → Heap → List Loc → Prop} {kc ks : Nat} (hc : cells ≤ kc) (hs : slots ≤ ks) (q : Q none T.heap locs) : own_G p.tables e below (own_E s Q kc ks) (T.setTop (mkF m pc Ls [])) := by
  obtain ⟨fs, hr, hrun, hended, hW, hsame⟩ := X.leave (v := none) (fun _ => rfl)
  exact ⟨_, _, X.returnOut hx hret hd hr, hrun, hended, _, _, rfl, q, ⟨_, rfl⟩, hW, hsame.mono hc hs⟩
end OwnKit
theorem own_cat {v : Value} (h : v.isRef = true) : v.category = 1 := by cases v <;> first | rfl | (simp [Value.isRef] at h)
theorem own_i32 {a b : Int32} (h : a.toInt = b.toInt) : a = b := Int32.toInt_inj.mp h
theorem own_i64 {a b : Int64} (h : a.toInt = b.toInt) : a = b := Int64.toInt_inj.mp h
/-- (x & 0x7fffffff) % d lies from 0 to d - 1 -/
theorem own_mod (x y : Int32) (d : Int) (hy : y.toInt = d) (hd : 0 < d) : 0 ≤ ((x &&& 2147483647) % y).toInt ∧ ((x &&& 2147483647) % y).toInt < d ∧ ((x &&& 2147483647) % y).toInt = (x.toInt % 2147483648) % d := by
  have h1 := c_mask x 2147483647 31 (by decide) (by decide)
  have h2 := (c_irem (x &&& 2147483647) y d hy).1 (by rw [h1]; omega)
  rw [h2, h1]
  refine ⟨Int.emod_nonneg _ (by omega), Int.emod_lt_of_pos _ hd, rfl⟩
def own_key (q1 : Int32) (w_FETCH : Addr) (w_LIST_OFFSETS : Addr) (w_METADATA : Addr) (w_OFFSET_COMMIT : Addr) (w_OFFSET_FETCH : Addr) (w_FIND_COORDINATOR : Addr) (w_JOIN_GROUP : Addr) (w_HEARTBEAT : Addr) (w_LEAVE_GROUP : Addr) (w_SYNC_GROUP : Addr) (w_DESCRIBE_GROUPS : Addr) (w_LIST_GROUPS : Addr) (w_API_VERSIONS : Addr) : Value := if q1 = (1 : Int32) then .ref w_FETCH else if q1 = (2 : Int32) then .ref w_LIST_OFFSETS else if q1 = (3 : Int32) then .ref w_METADATA else if q1 = (8 : Int32) then .ref w_OFFSET_COMMIT else if q1 = (9 : Int32) then .ref w_OFFSET_FETCH else if q1 = (10 : Int32) then .ref w_FIND_COORDINATOR else if q1 = (11 : Int32) then .ref w_JOIN_GROUP else if q1 = (12 : Int32) then .ref w_HEARTBEAT else if q1 = (13 : Int32) then .ref w_LEAVE_GROUP else if q1 = (14 : Int32) then .ref w_SYNC_GROUP else if q1 = (15 : Int32) then .ref w_DESCRIBE_GROUPS else if q1 = (16 : Int32) then .ref w_LIST_GROUPS else if q1 = (18 : Int32) then .ref w_API_VERSIONS else .null
theorem own_ifR {c : Prop} [Decidable c] {a b : Value} (h1 : a.isRef = true) (h2 : b.isRef = true) : (if c then a else b).isRef = true := by
  by_cases h : c
  · rw [if_pos h]; exact h1
  · rw [if_neg h]; exact h2
theorem own_keyR (q1 : Int32) (w_FETCH : Addr) (w_LIST_OFFSETS : Addr) (w_METADATA : Addr) (w_OFFSET_COMMIT : Addr) (w_OFFSET_FETCH : Addr) (w_FIND_COORDINATOR : Addr) (w_JOIN_GROUP : Addr) (w_HEARTBEAT : Addr) (w_LEAVE_GROUP : Addr) (w_SYNC_GROUP : Addr) (w_DESCRIBE_GROUPS : Addr) (w_LIST_GROUPS : Addr) (w_API_VERSIONS : Addr) : (own_key q1 w_FETCH w_LIST_OFFSETS w_METADATA w_OFFSET_COMMIT w_OFFSET_FETCH w_FIND_COORDINATOR w_JOIN_GROUP w_HEARTBEAT w_LEAVE_GROUP w_SYNC_GROUP w_DESCRIBE_GROUPS w_LIST_GROUPS w_API_VERSIONS).isRef = true := own_ifR rfl (own_ifR rfl (own_ifR rfl (own_ifR rfl (own_ifR rfl (own_ifR rfl (own_ifR rfl (own_ifR rfl (own_ifR rfl (own_ifR rfl (own_ifR rfl (own_ifR rfl (own_ifR rfl (rfl)))))))))))))
theorem own_len {s : State} {args : Array Value} {t : Term} {a : Addr} {c : Cell} {ty : FieldType} {n : Int32} (ev : t.eval args s none [] s = some (.ref a)) (A : Arr s s.heap a c ty) (h : (Jvm.Cond.eq (.length t) (.int n)).value args s none s [] = some true) : c.slots.size < 2 ^ 31 ∧ c.slots.size.toInt32 = n := by
  have h1 := eqv_i (Term.int_eval n) h
  have ha := Arr.fin (Vm.Alike.refl s.vm) A
  have h2 := Cond.small_of_lengthOf ev ha (Cond.before_iff.mpr (by simp [Cond.value, h1]))
  exact ⟨h2, Value.int.inj (Option.some.inj ((len_f ev ha h2).symm.trans h1))⟩
theorem own_elem {s : State} {args : Array Value} {t u : Term} {a b : Addr} {c : Cell} {ty : FieldType} {j : Int32} (ev : t.eval args s none [] s = some (.ref a)) (A : Arr s s.heap a c ty) (h : (Jvm.Cond.eq (.elem t (.int j)) u).value args s none s [] = some true) (hu : u.eval args s none [] s = some (.ref b)) : c.slots[j.toNatClampNeg]? = some (.ref b) := by
  obtain ⟨x, y, e1, e2, k1, k2⟩ := cmp_v (Or.inl h)
  cases hu.symm.trans e2
  have h3 := elem_in e1 ev (Term.int_eval j) A.1
  have hx : x.isRef = true := k2.2
  have := gotT (eq_R e1 hu hx rfl) h
  rw [h3.2, this]
theorem d2_0 : decode prog_36_method_1_code 0 = .ok (.getstatic 43, 3) := by decide +kernel
theorem d2_3 : decode prog_36_method_1_code 3 = .ok (.invokevirtual 47, 3) := by decide +kernel
theorem d2_6 : decode prog_36_method_1_code 6 = .ok (.checkcast 48, 3) := by decide +kernel
theorem d2_9 : decode prog_36_method_1_code 9 = .ok (.areturn, 1) := by decide +kernel
theorem pn_2 : plainName "com/example/loose_grip/loosegrip/wire/ApiKey" = true := by first | (simp [plainName, overriddenIn]; done) | decide +kernel
theorem ef_values (m : MethodId)  : entryFrame m #[] 0 = mkF m 0 #[] [] := by first | (simp [entryFrame, mkF, argsToLocals, Value.category]; done) | rfl
def Q_values (Z : State) (wV : Addr) (kV : ClassId) (w_FETCH : Addr) (w_LIST_OFFSETS : Addr) (w_METADATA : Addr) (w_OFFSET_COMMIT : Addr) (w_OFFSET_FETCH : Addr) (w_FIND_COORDINATOR : Addr) (w_JOIN_GROUP : Addr) (w_HEARTBEAT : Addr) (w_LEAVE_GROUP : Addr) (w_SYNC_GROUP : Addr) (w_DESCRIBE_GROUPS : Addr) (w_LIST_GROUPS : Addr) (w_API_VERSIONS : Addr) (h0 : Heap) (n0 : Nat) (v : Option Value) (h : Heap) (L : List Loc) : Prop := ∃ b : Addr, v = some (.ref b) ∧ Fr n0 L ∧ Keep h0 h [] ∧ h0.size ≤ b ∧ Arv Z h b kV (.object "com/example/loose_grip/loosegrip/wire/ApiKey") (13 : Int32) [(.ref w_FETCH), (.ref w_LIST_OFFSETS), (.ref w_METADATA), (.ref w_OFFSET_COMMIT), (.ref w_OFFSET_FETCH), (.ref w_FIND_COORDINATOR), (.ref w_JOIN_GROUP), (.ref w_HEARTBEAT), (.ref w_LEAVE_GROUP), (.ref w_SYNC_GROUP), (.ref w_DESCRIBE_GROUPS), (.ref w_LIST_GROUPS), (.ref w_API_VERSIONS)] .null
set_option maxRecDepth 65536 in
set_option maxHeartbeats 40000000 in
theorem rm_values (l : Launch) (Z : State) (a0 : Array Value) (hw : ∀ d ∈ tables_1, d.before a0 Z = true) (ws : List Jvm.Cond) (wV : Addr) (kV : ClassId) (w_FETCH : Addr) (w_LIST_OFFSETS : Addr) (w_METADATA : Addr) (w_OFFSET_COMMIT : Addr) (w_OFFSET_FETCH : Addr) (w_FIND_COORDINATOR : Addr) (w_JOIN_GROUP : Addr) (w_HEARTBEAT : Addr) (w_LEAVE_GROUP : Addr) (w_SYNC_GROUP : Addr) (w_DESCRIBE_GROUPS : Addr) (w_LIST_GROUPS : Addr) (w_API_VERSIONS : Addr) (h0 : Heap) (n0 : Nat) (Z0 : n0 ≤ h0.size) (O0 : Old Z n0 h0) (S_V : Sta Z Z.heap "com/example/loose_grip/loosegrip/wire/ApiKey" "$VALUES" "[Lcom/example/loose_grip/loosegrip/wire/ApiKey;" (.ref wV)) (R_V : Arv Z Z.heap wV kV (.object "com/example/loose_grip/loosegrip/wire/ApiKey") (13 : Int32) [(.ref w_FETCH), (.ref w_LIST_OFFSETS), (.ref w_METADATA), (.ref w_OFFSET_COMMIT), (.ref w_OFFSET_FETCH), (.ref w_FIND_COORDINATOR), (.ref w_JOIN_GROUP), (.ref w_HEARTBEAT), (.ref w_LEAVE_GROUP), (.ref w_SYNC_GROUP), (.ref w_DESCRIBE_GROUPS), (.ref w_LIST_GROUPS), (.ref w_API_VERSIONS)] .null) (E_V : Exa Z Z.heap wV "[Lcom/example/loose_grip/loosegrip/wire/ApiKey;") :
    MetFree l (⟨"com/example/loose_grip/loosegrip/wire/ApiKey", "values", "()[Lcom/example/loose_grip/loosegrip/wire/ApiKey;"⟩ : MethodName) (head1 (Jvm.Cond.code (⟨"com/example/loose_grip/loosegrip/wire/ApiKey", "values", "()[Lcom/example/loose_grip/loosegrip/wire/ApiKey;"⟩ : MethodName) prog_36_method_1_code 0 (some (.array (.object "com/example/loose_grip/loosegrip/wire/ApiKey"))) :: ws) ({ frames := 1, cells := 1, slots := 13, locals := 14 } : Room)) (fun a U => a = #[] ∧ Z.Warmed39 U.vm ∧ U.heap = h0) (fun _ _ _ _ _ => True) (fun _ U o U' => ∃ v L, o = .returned v ∧ Q_values Z wV kV w_FETCH w_LIST_OFFSETS w_METADATA w_OFFSET_COMMIT w_OFFSET_FETCH w_FIND_COORDINATOR w_JOIN_GROUP w_HEARTBEAT w_LEAVE_GROUP w_SYNC_GROUP w_DESCRIBE_GROUPS w_LIST_GROUPS w_API_VERSIONS h0 n0 v U'.heap L ∧ FrameEnd U o U' L ({ frames := 1, cells := 1, slots := 13, locals := 14 } : Room).cells ({ frames := 1, cells := 1, slots := 13, locals := 14 } : Room).slots) := by
  refine MetFree.of_bodySF (plainFor_of_name pn_2) hisR ?_
  intro p e s m args below meth c s₁ Bd hml0 hP hK
  obtain ⟨rfl, hZ, hh⟩ := hP
  have hx := Bd.exec
  have hby := Bd.bytes
  have hml : c.maxLocals = 0 := hml0
  have hown : s.vm.findClass "com/example/loose_grip/loosegrip/wire/ApiKey" = some m.cls := findClass_of_methodNamed Bd.named
  have hnm := (name_of_methodNamed Bd.named Bd.method).1
  have hlk := Bd.notSynchronized
  have hret := Bd.returns
  have X0 : Stand p l e ({ frames := 1, cells := 1, slots := 13, locals := 14 } : Room) s m #[] below meth c s₁ [] 0 0 := Stand.of_body Bd
  have e0 : s₁.heap = h0 := by rw [← hh, Bd.state]; rfl
  have N0 := Fr.nil n0
  have K0 := Keep.refl h0 []
  refine own_in ({ frames := 1, cells := 1, slots := 13, locals := 14 } : Room).cells ({ frames := 1, cells := 1, slots := 13, locals := 14 } : Room).slots (Q_values Z wV kV w_FETCH w_LIST_OFFSETS w_METADATA w_OFFSET_COMMIT w_OFFSET_FETCH w_FIND_COORDINATOR w_JOIN_GROUP w_HEARTBEAT w_LEAVE_GROUP w_SYNC_GROUP w_DESCRIBE_GROUPS w_LIST_GROUPS w_API_VERSIONS h0 n0) (ef_values m ) ?_
  show own_G p.tables e below _ (s₁.setTop (mkF m 0 #[] []))
  obtain ⟨T1, X1, e1, st1⟩ := getS2 X0 hx hZ hown (host := "") (Or.inl (hw _ (List.mem_of_getElem? (i := 7) rfl))) Via.refl e0 (Sta.ext O0.2 S_V) (g := (mkF m 0 #[] [])) rfl (hb hby d2_0)
  refine own_st st1 ?_
  show own_G p.tables e below _ (T1.setTop (mkF m 3 #[] [(.ref wV)]))
  obtain ⟨T2, h2, X2, e2, E2, A2, B2, st2⟩ := cloneH X1 hx hZ hown (hw _ (List.mem_of_getElem? (i := 9) rfl)) (hw _ (List.mem_of_getElem? (i := 10) rfl)) (hw _ (List.mem_of_getElem? (i := 14) rfl)) (hw _ (List.mem_of_getElem? (i := 12) rfl)) (hw _ (List.mem_of_getElem? (i := 13) rfl)) (hw _ (List.mem_of_getElem? (i := 15) rfl)) e1 (Arv.arh (Arv.ext R_V O0.2)) (Exa.ext O0.2 E_V) (g := (mkF m 3 #[] [(.ref wV)])) rfl (by rw [hml]; rfl) rfl (hb hby d2_3) (by decide) (W := 0) (cap := 13) (by show 2 * 0 + _ ≤ _; exact Nat.le_of_eq rfl) (by decide) (by decide) (by decide) (by decide)
  obtain ⟨b2, g2⟩ : ∃ z, z = h0.size := ⟨_, rfl⟩
  have ge_b2 : n0 ≤ b2 := Nat.le_trans Z0 (Nat.le_of_eq g2.symm)
  have sz_b2 : h0.size ≤ b2 := Nat.le_trans K0.1 (Nat.le_of_eq g2.symm)
  rw [← g2] at A2 B2 st2
  have K2 := K0.ext E2
  have O2 := O0.ext E2
  have R2 : Arv Z h2 b2 kV (.object "com/example/loose_grip/loosegrip/wire/ApiKey") (13 : Int32) [(.ref w_FETCH), (.ref w_LIST_OFFSETS), (.ref w_METADATA), (.ref w_OFFSET_COMMIT), (.ref w_OFFSET_FETCH), (.ref w_FIND_COORDINATOR), (.ref w_JOIN_GROUP), (.ref w_HEARTBEAT), (.ref w_LEAVE_GROUP), (.ref w_SYNC_GROUP), (.ref w_DESCRIBE_GROUPS), (.ref w_LIST_GROUPS), (.ref w_API_VERSIONS)] .null := A2
  refine own_st st2 ?_
  show own_G p.tables e below _ (T2.setTop (mkF m 6 #[] [(.ref b2)]))
  obtain ⟨T3, X3, e3, st3⟩ := castY X2 hx hZ hown (hw _ (List.mem_of_getElem? (i := 30) rfl)) e2 (Ins.self B2) (g := (mkF m 6 #[] [(.ref b2)])) rfl rfl (hb hby d2_6)
  refine own_st st3 ?_
  show own_G p.tables e below _ (T3.setTop (mkF m 9 #[] [(.ref b2)]))
  exact own_retA X3 hx hlk hret rfl rfl (hb hby d2_9) (by decide) (by decide) (by rw [e3]; exact ⟨b2, ⟨rfl, N0, K2, sz_b2, R2⟩⟩)
theorem d1_0 : decode prog_36_method_4_code 0 = .ok (.invokestatic 76, 3) := by decide +kernel
theorem d1_3 : decode prog_36_method_4_code 3 = .ok (.astore_n 1, 1) := by decide +kernel
theorem d1_4 : decode prog_36_method_4_code 4 = .ok (.aload_n 1, 1) := by decide +kernel
theorem d1_5 : decode prog_36_method_4_code 5 = .ok (.arraylength, 1) := by decide +kernel
theorem d1_6 : decode prog_36_method_4_code 6 = .ok (.istore_n 2, 1) := by decide +kernel
theorem d1_7 : decode prog_36_method_4_code 7 = .ok (.iconst 0, 1) := by decide +kernel
theorem d1_8 : decode prog_36_method_4_code 8 = .ok (.istore_n 3, 1) := by decide +kernel
theorem d1_9 : decode prog_36_method_4_code 9 = .ok (.iload_n 3, 1) := by decide +kernel
theorem d1_10 : decode prog_36_method_4_code 10 = .ok (.iload_n 2, 1) := by decide +kernel
theorem d1_11 : decode prog_36_method_4_code 11 = .ok (.if_icmp .ge 26, 3) := by decide +kernel
theorem d1_14 : decode prog_36_method_4_code 14 = .ok (.aload_n 1, 1) := by decide +kernel
theorem d1_15 : decode prog_36_method_4_code 15 = .ok (.iload_n 3, 1) := by decide +kernel
theorem d1_16 : decode prog_36_method_4_code 16 = .ok (.aaload, 1) := by decide +kernel
theorem d1_17 : decode prog_36_method_4_code 17 = .ok (.astore 4, 2) := by decide +kernel
theorem d1_19 : decode prog_36_method_4_code 19 = .ok (.aload 4, 2) := by decide +kernel
theorem d1_21 : decode prog_36_method_4_code 21 = .ok (.getfield 62, 3) := by decide +kernel
theorem d1_24 : decode prog_36_method_4_code 24 = .ok (.iload_n 0, 1) := by decide +kernel
theorem d1_25 : decode prog_36_method_4_code 25 = .ok (.if_icmp .ne 6, 3) := by decide +kernel
theorem d1_28 : decode prog_36_method_4_code 28 = .ok (.aload 4, 2) := by decide +kernel
theorem d1_30 : decode prog_36_method_4_code 30 = .ok (.areturn, 1) := by decide +kernel
theorem d1_31 : decode prog_36_method_4_code 31 = .ok (.iinc 3 1, 3) := by decide +kernel
theorem d1_34 : decode prog_36_method_4_code 34 = .ok (.goto (-25), 3) := by decide +kernel
theorem d1_37 : decode prog_36_method_4_code 37 = .ok (.aconst_null, 1) := by decide +kernel
theorem d1_38 : decode prog_36_method_4_code 38 = .ok (.areturn, 1) := by decide +kernel
theorem pn_1 : plainName "com/example/loose_grip/loosegrip/wire/ApiKey" = true := by first | (simp [plainName, overriddenIn]; done) | decide +kernel
theorem own_pd0 : parseMethodDescriptor "()[Lcom/example/loose_grip/loosegrip/wire/ApiKey;" = some ⟨[], some (.array (.object "com/example/loose_grip/loosegrip/wire/ApiKey"))⟩ := by decide +kernel
theorem ef_forId (m : MethodId) (x0 : Int32) : entryFrame m #[(.int x0)] 5 = mkF m 0 #[.val (.int x0), .unset, .unset, .unset, .unset] [] := by first | (simp [entryFrame, mkF, argsToLocals, Value.category]; done) | rfl
def Q_forId (Z : State) (q1 : Int32) (wV : Addr) (kV : ClassId) (w_FETCH : Addr) (w_LIST_OFFSETS : Addr) (w_METADATA : Addr) (w_OFFSET_COMMIT : Addr) (w_OFFSET_FETCH : Addr) (w_FIND_COORDINATOR : Addr) (w_JOIN_GROUP : Addr) (w_HEARTBEAT : Addr) (w_LEAVE_GROUP : Addr) (w_SYNC_GROUP : Addr) (w_DESCRIBE_GROUPS : Addr) (w_LIST_GROUPS : Addr) (w_API_VERSIONS : Addr) (h0 : Heap) (n0 : Nat) (v : Option Value) (h : Heap) (L : List Loc) : Prop := v = some (own_key q1 w_FETCH w_LIST_OFFSETS w_METADATA w_OFFSET_COMMIT w_OFFSET_FETCH w_FIND_COORDINATOR w_JOIN_GROUP w_HEARTBEAT w_LEAVE_GROUP w_SYNC_GROUP w_DESCRIBE_GROUPS w_LIST_GROUPS w_API_VERSIONS) ∧ Fr n0 L ∧ Keep h0 h []
set_option maxRecDepth 65536 in
set_option maxHeartbeats 40000000 in
theorem rm_forId (l : Launch) (Z : State) (a0 : Array Value) (hw : ∀ d ∈ tables_1, d.before a0 Z = true) (ws : List Jvm.Cond) (q1 : Int32) (wV : Addr) (kV : ClassId) (w_FETCH : Addr) (w_LIST_OFFSETS : Addr) (w_METADATA : Addr) (w_OFFSET_COMMIT : Addr) (w_OFFSET_FETCH : Addr) (w_FIND_COORDINATOR : Addr) (w_JOIN_GROUP : Addr) (w_HEARTBEAT : Addr) (w_LEAVE_GROUP : Addr) (w_SYNC_GROUP : Addr) (w_DESCRIBE_GROUPS : Addr) (w_LIST_GROUPS : Addr) (w_API_VERSIONS : Addr) (h0 : Heap) (n0 : Nat) (Z0 : n0 ≤ h0.size) (O0 : Old Z n0 h0) (S_V : Sta Z Z.heap "com/example/loose_grip/loosegrip/wire/ApiKey" "$VALUES" "[Lcom/example/loose_grip/loosegrip/wire/ApiKey;" (.ref wV)) (R_V : Arv Z Z.heap wV kV (.object "com/example/loose_grip/loosegrip/wire/ApiKey") (13 : Int32) [(.ref w_FETCH), (.ref w_LIST_OFFSETS), (.ref w_METADATA), (.ref w_OFFSET_COMMIT), (.ref w_OFFSET_FETCH), (.ref w_FIND_COORDINATOR), (.ref w_JOIN_GROUP), (.ref w_HEARTBEAT), (.ref w_LEAVE_GROUP), (.ref w_SYNC_GROUP), (.ref w_DESCRIBE_GROUPS), (.ref w_LIST_GROUPS), (.ref w_API_VERSIONS)] .null) (E_V : Exa Z Z.heap wV "[Lcom/example/loose_grip/loosegrip/wire/ApiKey;") (F_FETCH_id : Fld Z Z.heap w_FETCH "com/example/loose_grip/loosegrip/wire/ApiKey" "id" "S" (.int (1 : Int32))) (F_LIST_OFFSETS_id : Fld Z Z.heap w_LIST_OFFSETS "com/example/loose_grip/loosegrip/wire/ApiKey" "id" "S" (.int (2 : Int32))) (F_METADATA_id : Fld Z Z.heap w_METADATA "com/example/loose_grip/loosegrip/wire/ApiKey" "id" "S" (.int (3 : Int32))) (F_OFFSET_COMMIT_id : Fld Z Z.heap w_OFFSET_COMMIT "com/example/loose_grip/loosegrip/wire/ApiKey" "id" "S" (.int (8 : Int32))) (F_OFFSET_FETCH_id : Fld Z Z.heap w_OFFSET_FETCH "com/example/loose_grip/loosegrip/wire/ApiKey" "id" "S" (.int (9 : Int32))) (F_FIND_COORDINATOR_id : Fld Z Z.heap w_FIND_COORDINATOR "com/example/loose_grip/loosegrip/wire/ApiKey" "id" "S" (.int (10 : Int32))) (F_JOIN_GROUP_id : Fld Z Z.heap w_JOIN_GROUP "com/example/loose_grip/loosegrip/wire/ApiKey" "id" "S" (.int (11 : Int32))) (F_HEARTBEAT_id : Fld Z Z.heap w_HEARTBEAT "com/example/loose_grip/loosegrip/wire/ApiKey" "id" "S" (.int (12 : Int32))) (F_LEAVE_GROUP_id : Fld Z Z.heap w_LEAVE_GROUP "com/example/loose_grip/loosegrip/wire/ApiKey" "id" "S" (.int (13 : Int32))) (F_SYNC_GROUP_id : Fld Z Z.heap w_SYNC_GROUP "com/example/loose_grip/loosegrip/wire/ApiKey" "id" "S" (.int (14 : Int32))) (F_DESCRIBE_GROUPS_id : Fld Z Z.heap w_DESCRIBE_GROUPS "com/example/loose_grip/loosegrip/wire/ApiKey" "id" "S" (.int (15 : Int32))) (F_LIST_GROUPS_id : Fld Z Z.heap w_LIST_GROUPS "com/example/loose_grip/loosegrip/wire/ApiKey" "id" "S" (.int (16 : Int32))) (F_API_VERSIONS_id : Fld Z Z.heap w_API_VERSIONS "com/example/loose_grip/loosegrip/wire/ApiKey" "id" "S" (.int (18 : Int32))) :
    MetFree l (⟨"com/example/loose_grip/loosegrip/wire/ApiKey", "forId", "(S)Lcom/example/loose_grip/loosegrip/wire/ApiKey;"⟩ : MethodName) (head1 (Jvm.Cond.code (⟨"com/example/loose_grip/loosegrip/wire/ApiKey", "forId", "(S)Lcom/example/loose_grip/loosegrip/wire/ApiKey;"⟩ : MethodName) prog_36_method_4_code 5 (some (.object "com/example/loose_grip/loosegrip/wire/ApiKey")) :: ws) ({ frames := 2, cells := 1, slots := 13, locals := 25 } : Room)) (fun a U => a = #[(.int q1)] ∧ Z.Warmed39 U.vm ∧ U.heap = h0) (fun _ _ _ _ _ => True) (fun _ U o U' => ∃ v L, o = .returned v ∧ Q_forId Z q1 wV kV w_FETCH w_LIST_OFFSETS w_METADATA w_OFFSET_COMMIT w_OFFSET_FETCH w_FIND_COORDINATOR w_JOIN_GROUP w_HEARTBEAT w_LEAVE_GROUP w_SYNC_GROUP w_DESCRIBE_GROUPS w_LIST_GROUPS w_API_VERSIONS h0 n0 v U'.heap L ∧ FrameEnd U o U' L ({ frames := 2, cells := 1, slots := 13, locals := 25 } : Room).cells ({ frames := 2, cells := 1, slots := 13, locals := 25 } : Room).slots) := by
  refine MetFree.of_bodySF (plainFor_of_name pn_1) hisR ?_
  intro p e s m args below meth c s₁ Bd hml0 hP hK
  obtain ⟨rfl, hZ, hh⟩ := hP
  have hx := Bd.exec
  have hby := Bd.bytes
  have hml : c.maxLocals = 5 := hml0
  have hown : s.vm.findClass "com/example/loose_grip/loosegrip/wire/ApiKey" = some m.cls := findClass_of_methodNamed Bd.named
  have hnm := (name_of_methodNamed Bd.named Bd.method).1
  have hlk := Bd.notSynchronized
  have hret := Bd.returns
  have X0 : Stand p l e ({ frames := 2, cells := 1, slots := 13, locals := 25 } : Room) s m #[(.int q1)] below meth c s₁ [] 0 0 := Stand.of_body Bd
  have e0 : s₁.heap = h0 := by rw [← hh, Bd.state]; rfl
  have N0 := Fr.nil n0
  have K0 := Keep.refl h0 []
  refine own_in ({ frames := 2, cells := 1, slots := 13, locals := 25 } : Room).cells ({ frames := 2, cells := 1, slots := 13, locals := 25 } : Room).slots (Q_forId Z q1 wV kV w_FETCH w_LIST_OFFSETS w_METADATA w_OFFSET_COMMIT w_OFFSET_FETCH w_FIND_COORDINATOR w_JOIN_GROUP w_HEARTBEAT w_LEAVE_GROUP w_SYNC_GROUP w_DESCRIBE_GROUPS w_LIST_GROUPS w_API_VERSIONS h0 n0) (ef_forId m q1) ?_
  show own_G p.tables e below _ (s₁.setTop (mkF m 0 #[.val (.int q1), .unset, .unset, .unset, .unset] []))
  obtain ⟨_, _, ⟨T1, L1, k1, n1⟩, -, X1, ⟨Lc1, hQ1, l1, y1, z1⟩, st1⟩ := Jvm.LawKit.callS X0 hx (y := (⟨"com/example/loose_grip/loosegrip/wire/ApiKey", "values", "()[Lcom/example/loose_grip/loosegrip/wire/ApiKey;"⟩ : MethodName)) hown (mvT hZ (hw _ (List.mem_of_getElem? (i := 4) rfl))) (mvT hZ (hw _ (List.mem_of_getElem? (i := 5) rfl))) (mvT hZ (hw _ (List.mem_of_getElem? (i := 2) rfl))) (mvT hZ (hw _ (List.mem_of_getElem? (i := 6) rfl))) (by decide) (backOf (W := 0) (rm_values l Z a0 hw [] wV kV w_FETCH w_LIST_OFFSETS w_METADATA w_OFFSET_COMMIT w_OFFSET_FETCH w_FIND_COORDINATOR w_JOIN_GROUP w_HEARTBEAT w_LEAVE_GROUP w_SYNC_GROUP w_DESCRIBE_GROUPS w_LIST_GROUPS w_API_VERSIONS h0 n0 Z0 O0 S_V R_V E_V) hZ (hw _ (List.mem_of_getElem? (i := 6) rfl)) (hw _ (List.mem_of_getElem? (i := 2) rfl)) (by decide) (by decide)) (g := (mkF m 0 #[.val (.int q1), .unset, .unset, .unset, .unset] [])) rfl (by rw [hml]; rfl) (argsL := []) (rest := []) (lenOf own_pd0 rfl) rfl (by show 2 * 0 + _ ≤ _; exact Nat.le_of_eq rfl) (hb hby d1_0) (fun _ _ => ⟨rfl, e0, (by decide : 0 + 1 ≤ _), (by decide : 0 + 13 ≤ _)⟩)
  dsimp only [Pt.U, Pt.locs, Pt.cells, Pt.slots] at X1 l1 y1 z1 st1 hQ1
  subst l1 y1 z1
  obtain ⟨b_1, rfl, Nq1, Kc1, P1_0, P1_1⟩ := hQ1
  have N1 := Fr.app N0 Nq1
  have ge_b_1 : n0 ≤ b_1 := Nat.le_trans Z0 P1_0
  have sz_b_1 : h0.size ≤ b_1 := Nat.le_trans K0.1 P1_0
  have K1 := K0.trans Kc1 all0
  have O1 := O0.keep Kc1 all0
  refine own_st st1 ?_
  show own_G p.tables e below _ (T1.setTop (mkF m 3 #[.val (.int q1), .unset, .unset, .unset, .unset] [(.ref b_1)]))
  refine own_st (fun _ kS => XS.astoreN X1.here hx rfl (hb hby d1_3) rfl rfl (l' := #[.val (.int q1), .val (.ref b_1), .unset, .unset, .unset]) rfl kS) ?_
  show own_G p.tables e below _ (T1.setTop (mkF m 4 #[.val (.int q1), .val (.ref b_1), .unset, .unset, .unset] []))
  refine own_st (fun _ kS => XS.aloadN X1.here hx rfl (hb hby d1_4) rfl rfl kS) ?_
  show own_G p.tables e below _ (T1.setTop (mkF m 5 #[.val (.int q1), .val (.ref b_1), .unset, .unset, .unset] [(.ref b_1)]))
  obtain ⟨cl2, Ar2, qa2, qs2, qn2, qh2, qg2⟩ := id P1_1
  refine own_st (fun _ kS => X1.arraylength hx (Ar2.1) (State.isArrayOf_alike hZ.alike Ar2.2.1) (g := (mkF m 5 #[.val (.int q1), .val (.ref b_1), .unset, .unset, .unset] [(.ref b_1)])) rfl rfl (hb hby d1_5) _ kS) ?_
  rw [len_of qs2 qn2]
  show own_G p.tables e below _ (T1.setTop (mkF m 6 #[.val (.int q1), .val (.ref b_1), .unset, .unset, .unset] [(.int (13 : Int32))]))
  refine own_st (fun _ kS => XS.istoreN X1.here hx rfl (hb hby d1_6) rfl (l' := #[.val (.int q1), .val (.ref b_1), .val (.int (13 : Int32)), .unset, .unset]) rfl kS) ?_
  show own_G p.tables e below _ (T1.setTop (mkF m 7 #[.val (.int q1), .val (.ref b_1), .val (.int (13 : Int32)), .unset, .unset] []))
  refine own_st (fun _ kS => XS.iconst X1.here hx rfl (hb hby d1_7) kS) ?_
  show own_G p.tables e below _ (T1.setTop (mkF m 8 #[.val (.int q1), .val (.ref b_1), .val (.int (13 : Int32)), .unset, .unset] [(.int (0 : Int32))]))
  refine own_st (fun _ kS => XS.istoreN X1.here hx rfl (hb hby d1_8) rfl (l' := #[.val (.int q1), .val (.ref b_1), .val (.int (13 : Int32)), .val (.int (0 : Int32)), .unset]) rfl kS) ?_
  show own_G p.tables e below _ (T1.setTop (mkF m 9 #[.val (.int q1), .val (.ref b_1), .val (.int (13 : Int32)), .val (.int (0 : Int32)), .unset] []))
  refine own_st (fun _ kS => XS.iloadN X1.here hx rfl (hb hby d1_9) rfl kS) ?_
  show own_G p.tables e below _ (T1.setTop (mkF m 10 #[.val (.int q1), .val (.ref b_1), .val (.int (13 : Int32)), .val (.int (0 : Int32)), .unset] [(.int (0 : Int32))]))
  refine own_st (fun _ kS => XS.iloadN X1.here hx rfl (hb hby d1_10) rfl kS) ?_
  show own_G p.tables e below _ (T1.setTop (mkF m 11 #[.val (.int q1), .val (.ref b_1), .val (.int (13 : Int32)), .val (.int (0 : Int32)), .unset] [(.int (13 : Int32)), (.int (0 : Int32))]))
  refine own_st (fun _ kS => XS.icmpNo X1.here hx rfl (hb hby d1_11) rfl (tlt (by decide : (0 : Int32) < (13 : Int32))).2.1 kS) ?_
  show own_G p.tables e below _ (T1.setTop (mkF m 14 #[.val (.int q1), .val (.ref b_1), .val (.int (13 : Int32)), .val (.int (0 : Int32)), .unset] []))
  refine own_st (fun _ kS => XS.aloadN X1.here hx rfl (hb hby d1_14) rfl rfl kS) ?_
  show own_G p.tables e below _ (T1.setTop (mkF m 15 #[.val (.int q1), .val (.ref b_1), .val (.int (13 : Int32)), .val (.int (0 : Int32)), .unset] [(.ref b_1)]))
  refine own_st (fun _ kS => XS.iloadN X1.here hx rfl (hb hby d1_15) rfl kS) ?_
  show own_G p.tables e below _ (T1.setTop (mkF m 16 #[.val (.int q1), .val (.ref b_1), .val (.int (13 : Int32)), .val (.int (0 : Int32)), .unset] [(.int (0 : Int32)), (.ref b_1)]))
  obtain ⟨cl3, Ar3, qa3, qs3, qn3, qh3, qg3⟩ := id P1_1
  refine own_st (fun _ kS => X1.aaload hx (j := (0 : Int32)) (v := (.ref w_FETCH)) (Ar3.1) (State.isArrayOf_alike hZ.alike Ar3.2.1) rfl Ar3.2.2 (inb_of qs3 ⟨by decide, by decide⟩) (qh3.at (inb_of qs3 ⟨by decide, by decide⟩) rfl) (g := (mkF m 16 #[.val (.int q1), .val (.ref b_1), .val (.int (13 : Int32)), .val (.int (0 : Int32)), .unset] [(.int (0 : Int32)), (.ref b_1)])) rfl rfl (hb hby d1_16) _ kS) ?_
  show own_G p.tables e below _ (T1.setTop (mkF m 17 #[.val (.int q1), .val (.ref b_1), .val (.int (13 : Int32)), .val (.int (0 : Int32)), .unset] [(.ref w_FETCH)]))
  refine own_st (fun _ kS => XS.astore X1.here hx rfl (hb hby d1_17) rfl rfl (l' := #[.val (.int q1), .val (.ref b_1), .val (.int (13 : Int32)), .val (.int (0 : Int32)), .val (.ref w_FETCH)]) rfl kS) ?_
  show own_G p.tables e below _ (T1.setTop (mkF m 19 #[.val (.int q1), .val (.ref b_1), .val (.int (13 : Int32)), .val (.int (0 : Int32)), .val (.ref w_FETCH)] []))
  refine own_st (fun _ kS => XS.aload X1.here hx rfl (hb hby d1_19) rfl rfl kS) ?_
  show own_G p.tables e below _ (T1.setTop (mkF m 21 #[.val (.int q1), .val (.ref b_1), .val (.int (13 : Int32)), .val (.int (0 : Int32)), .val (.ref w_FETCH)] [(.ref w_FETCH)]))
  obtain ⟨T4, X4, e4, st4⟩ := getF X1 hx hZ hown (host := "") (Or.inl (hw _ (List.mem_of_getElem? (i := 32) rfl))) Via.refl rfl (Fld.ext O1.2 F_FETCH_id) (g := (mkF m 21 #[.val (.int q1), .val (.ref b_1), .val (.int (13 : Int32)), .val (.int (0 : Int32)), .val (.ref w_FETCH)] [(.ref w_FETCH)])) rfl rfl (hb hby d1_21)
  refine own_st st4 ?_
  show own_G p.tables e below _ (T4.setTop (mkF m 24 #[.val (.int q1), .val (.ref b_1), .val (.int (13 : Int32)), .val (.int (0 : Int32)), .val (.ref w_FETCH)] [(.int (1 : Int32))]))
  refine own_st (fun _ kS => XS.iloadN X4.here hx rfl (hb hby d1_24) rfl kS) ?_
  show own_G p.tables e below _ (T4.setTop (mkF m 25 #[.val (.int q1), .val (.ref b_1), .val (.int (13 : Int32)), .val (.int (0 : Int32)), .val (.ref w_FETCH)] [(.int q1), (.int (1 : Int32))]))
  by_cases hc25_5 : (1 : Int32) = q1
  · skip
    refine own_st (fun _ kS => XS.icmpNo X4.here hx rfl (hb hby d1_25) rfl (teq hc25_5).2 kS) ?_
    show own_G p.tables e below _ (T4.setTop (mkF m 28 #[.val (.int q1), .val (.ref b_1), .val (.int (13 : Int32)), .val (.int (0 : Int32)), .val (.ref w_FETCH)] []))
    refine own_st (fun _ kS => XS.aload X4.here hx rfl (hb hby d1_28) rfl rfl kS) ?_
    show own_G p.tables e below _ (T4.setTop (mkF m 30 #[.val (.int q1), .val (.ref b_1), .val (.int (13 : Int32)), .val (.int (0 : Int32)), .val (.ref w_FETCH)] [(.ref w_FETCH)]))
    exact own_retA X4 hx hlk hret rfl rfl (hb hby d1_30) (by decide) (by decide) (by rw [e4]; exact ⟨(congrArg some (by rw [own_key, if_pos hc25_5.symm])), N1, K1⟩)
  · skip
    refine own_st (fun _ kS => XS.icmpYes X4.here hx rfl (pc0 := 25) (pc' := 31) rfl (hb hby d1_25) rfl (feq hc25_5).2 (by decide) (by decide) kS) ?_
    show own_G p.tables e below _ (T4.setTop (mkF m 31 #[.val (.int q1), .val (.ref b_1), .val (.int (13 : Int32)), .val (.int (0 : Int32)), .val (.ref w_FETCH)] []))
    refine own_st (fun _ kS => XS.iinc X4.here hx rfl (hb hby d1_31) rfl (l' := #[.val (.int q1), .val (.ref b_1), .val (.int (13 : Int32)), .val (.int (1 : Int32)), .val (.ref w_FETCH)]) rfl kS) ?_
    show own_G p.tables e below _ (T4.setTop (mkF m 34 #[.val (.int q1), .val (.ref b_1), .val (.int (13 : Int32)), .val (.int (1 : Int32)), .val (.ref w_FETCH)] []))
    refine own_st (fun _ kS => XS.goto X4.here hx rfl (pc0 := 34) (pc' := 9) rfl (hb hby d1_34) (by decide) (by decide) kS) ?_
    show own_G p.tables e below _ (T4.setTop (mkF m 9 #[.val (.int q1), .val (.ref b_1), .val (.int (13 : Int32)), .val (.int (1 : Int32)), .val (.ref w_FETCH)] []))
    refine own_st (fun _ kS => XS.iloadN X4.here hx rfl (hb hby d1_9) rfl kS) ?_
    show own_G p.tables e below _ (T4.setTop (mkF m 10 #[.val (.int q1), .val (.ref b_1), .val (.int (13 : Int32)), .val (.int (1 : Int32)), .val (.ref w_FETCH)] [(.int (1 : Int32))]))
    refine own_st (fun _ kS => XS.iloadN X4.here hx rfl (hb hby d1_10) rfl kS) ?_
    show own_G p.tables e below _ (T4.setTop (mkF m 11 #[.val (.int q1), .val (.ref b_1), .val (.int (13 : Int32)), .val (.int (1 : Int32)), .val (.ref w_FETCH)] [(.int (13 : Int32)), (.int (1 : Int32))]))
    refine own_st (fun _ kS => XS.icmpNo X4.here hx rfl (hb hby d1_11) rfl (tlt (by decide : (1 : Int32) < (13 : Int32))).2.1 kS) ?_
    show own_G p.tables e below _ (T4.setTop (mkF m 14 #[.val (.int q1), .val (.ref b_1), .val (.int (13 : Int32)), .val (.int (1 : Int32)), .val (.ref w_FETCH)] []))
    refine own_st (fun _ kS => XS.aloadN X4.here hx rfl (hb hby d1_14) rfl rfl kS) ?_
    show own_G p.tables e below _ (T4.setTop (mkF m 15 #[.val (.int q1), .val (.ref b_1), .val (.int (13 : Int32)), .val (.int (1 : Int32)), .val (.ref w_FETCH)] [(.ref b_1)]))
    refine own_st (fun _ kS => XS.iloadN X4.here hx rfl (hb hby d1_15) rfl kS) ?_
    show own_G p.tables e below _ (T4.setTop (mkF m 16 #[.val (.int q1), .val (.ref b_1), .val (.int (13 : Int32)), .val (.int (1 : Int32)), .val (.ref w_FETCH)] [(.int (1 : Int32)), (.ref b_1)]))
    obtain ⟨cl6, Ar6, qa6, qs6, qn6, qh6, qg6⟩ := id P1_1
    refine own_st (fun _ kS => X4.aaload hx (j := (1 : Int32)) (v := (.ref w_LIST_OFFSETS)) (by rw [e4]; exact Ar6.1) (State.isArrayOf_alike hZ.alike Ar6.2.1) rfl Ar6.2.2 (inb_of qs6 ⟨by decide, by decide⟩) (qh6.at (inb_of qs6 ⟨by decide, by decide⟩) rfl) (g := (mkF m 16 #[.val (.int q1), .val (.ref b_1), .val (.int (13 : Int32)), .val (.int (1 : Int32)), .val (.ref w_FETCH)] [(.int (1 : Int32)), (.ref b_1)])) rfl rfl (hb hby d1_16) _ kS) ?_
    show own_G p.tables e below _ (T4.setTop (mkF m 17 #[.val (.int q1), .val (.ref b_1), .val (.int (13 : Int32)), .val (.int (1 : Int32)), .val (.ref w_FETCH)] [(.ref w_LIST_OFFSETS)]))
    refine own_st (fun _ kS => XS.astore X4.here hx rfl (hb hby d1_17) rfl rfl (l' := #[.val (.int q1), .val (.ref b_1), .val (.int (13 : Int32)), .val (.int (1 : Int32)), .val (.ref w_LIST_OFFSETS)]) rfl kS) ?_
    show own_G p.tables e below _ (T4.setTop (mkF m 19 #[.val (.int q1), .val (.ref b_1), .val (.int (13 : Int32)), .val (.int (1 : Int32)), .val (.ref w_LIST_OFFSETS)] []))
    refine own_st (fun _ kS => XS.aload X4.here hx rfl (hb hby d1_19) rfl rfl kS) ?_
    show own_G p.tables e below _ (T4.setTop (mkF m 21 #[.val (.int q1), .val (.ref b_1), .val (.int (13 : Int32)), .val (.int (1 : Int32)), .val (.ref w_LIST_OFFSETS)] [(.ref w_LIST_OFFSETS)]))
    obtain ⟨T7, X7, e7, st7⟩ := getF X4 hx hZ hown (host := "") (Or.inl (hw _ (List.mem_of_getElem? (i := 32) rfl))) Via.refl e4 (Fld.ext O1.2 F_LIST_OFFSETS_id) (g := (mkF m 21 #[.val (.int q1), .val (.ref b_1), .val (.int (13 : Int32)), .val (.int (1 : Int32)), .val (.ref w_LIST_OFFSETS)] [(.ref w_LIST_OFFSETS)])) rfl rfl (hb hby d1_21)
    refine own_st st7 ?_
    show own_G p.tables e below _ (T7.setTop (mkF m 24 #[.val (.int q1), .val (.ref b_1), .val (.int (13 : Int32)), .val (.int (1 : Int32)), .val (.ref w_LIST_OFFSETS)] [(.int (2 : Int32))]))
    refine own_st (fun _ kS => XS.iloadN X7.here hx rfl (hb hby d1_24) rfl kS) ?_
    show own_G p.tables e below _ (T7.setTop (mkF m 25 #[.val (.int q1), .val (.ref b_1), .val (.int (13 : Int32)), .val (.int (1 : Int32)), .val (.ref w_LIST_OFFSETS)] [(.int q1), (.int (2 : Int32))]))
    by_cases hc25_8 : (2 : Int32) = q1
    · skip
      refine own_st (fun _ kS => XS.icmpNo X7.here hx rfl (hb hby d1_25) rfl (teq hc25_8).2 kS) ?_
      show own_G p.tables e below _ (T7.setTop (mkF m 28 #[.val (.int q1), .val (.ref b_1), .val (.int (13 : Int32)), .val (.int (1 : Int32)), .val (.ref w_LIST_OFFSETS)] []))
      refine own_st (fun _ kS => XS.aload X7.here hx rfl (hb hby d1_28) rfl rfl kS) ?_
      show own_G p.tables e below _ (T7.setTop (mkF m 30 #[.val (.int q1), .val (.ref b_1), .val (.int (13 : Int32)), .val (.int (1 : Int32)), .val (.ref w_LIST_OFFSETS)] [(.ref w_LIST_OFFSETS)]))
      exact own_retA X7 hx hlk hret rfl rfl (hb hby d1_30) (by decide) (by decide) (by rw [e7]; exact ⟨(congrArg some (by rw [own_key, if_neg (fun e => hc25_5 e.symm), if_pos hc25_8.symm])), N1, K1⟩)
    · skip
      refine own_st (fun _ kS => XS.icmpYes X7.here hx rfl (pc0 := 25) (pc' := 31) rfl (hb hby d1_25) rfl (feq hc25_8).2 (by decide) (by decide) kS) ?_
      show own_G p.tables e below _ (T7.setTop (mkF m 31 #[.val (.int q1), .val (.ref b_1), .val (.int (13 : Int32)), .val (.int (1 : Int32)), .val (.ref w_LIST_OFFSETS)] []))
      refine own_st (fun _ kS => XS.iinc X7.here hx rfl (hb hby d1_31) rfl (l' := #[.val (.int q1), .val (.ref b_1), .val (.int (13 : Int32)), .val (.int (2 : Int32)), .val (.ref w_LIST_OFFSETS)]) rfl kS) ?_
      show own_G p.tables e below _ (T7.setTop (mkF m 34 #[.val (.int q1), .val (.ref b_1), .val (.int (13 : Int32)), .val (.int (2 : Int32)), .val (.ref w_LIST_OFFSETS)] []))
      refine own_st (fun _ kS => XS.goto X7.here hx rfl (pc0 := 34) (pc' := 9) rfl (hb hby d1_34) (by decide) (by decide) kS) ?_
      show own_G p.tables e below _ (T7.setTop (mkF m 9 #[.val (.int q1), .val (.ref b_1), .val (.int (13 : Int32)), .val (.int (2 : Int32)), .val (.ref w_LIST_OFFSETS)] []))
      refine own_st (fun _ kS => XS.iloadN X7.here hx rfl (hb hby d1_9) rfl kS) ?_
      show own_G p.tables e below _ (T7.setTop (mkF m 10 #[.val (.int q1), .val (.ref b_1), .val (.int (13 : Int32)), .val (.int (2 : Int32)), .val (.ref w_LIST_OFFSETS)] [(.int (2 : Int32))]))
      refine own_st (fun _ kS => XS.iloadN X7.here hx rfl (hb hby d1_10) rfl kS) ?_
      show own_G p.tables e below _ (T7.setTop (mkF m 11 #[.val (.int q1), .val (.ref b_1), .val (.int (13 : Int32)), .val (.int (2 : Int32)), .val (.ref w_LIST_OFFSETS)] [(.int (13 : Int32)), (.int (2 : Int32))]))
      refine own_st (fun _ kS => XS.icmpNo X7.here hx rfl (hb hby d1_11) rfl (tlt (by decide : (2 : Int32) < (13 : Int32))).2.1 kS) ?_
      show own_G p.tables e below _ (T7.setTop (mkF m 14 #[.val (.int q1), .val (.ref b_1), .val (.int (13 : Int32)), .val (.int (2 : Int32)), .val (.ref w_LIST_OFFSETS)] []))
      refine own_st (fun _ kS => XS.aloadN X7.here hx rfl (hb hby d1_14) rfl rfl kS) ?_
      show own_G p.tables e below _ (T7.setTop (mkF m 15 #[.val (.int q1), .val (.ref b_1), .val (.int (13 : Int32)), .val (.int (2 : Int32)), .val (.ref w_LIST_OFFSETS)] [(.ref b_1)]))
      refine own_st (fun _ kS => XS.iloadN X7.here hx rfl (hb hby d1_15) rfl kS) ?_
      show own_G p.tables e below _ (T7.setTop (mkF m 16 #[.val (.int q1), .val (.ref b_1), .val (.int (13 : Int32)), .val (.int (2 : Int32)), .val (.ref w_LIST_OFFSETS)] [(.int (2 : Int32)), (.ref b_1)]))
      obtain ⟨cl9, Ar9, qa9, qs9, qn9, qh9, qg9⟩ := id P1_1
      refine own_st (fun _ kS => X7.aaload hx (j := (2 : Int32)) (v := (.ref w_METADATA)) (by rw [e7]; exact Ar9.1) (State.isArrayOf_alike hZ.alike Ar9.2.1) rfl Ar9.2.2 (inb_of qs9 ⟨by decide, by decide⟩) (qh9.at (inb_of qs9 ⟨by decide, by decide⟩) rfl) (g := (mkF m 16 #[.val (.int q1), .val (.ref b_1), .val (.int (13 : Int32)), .val (.int (2 : Int32)), .val (.ref w_LIST_OFFSETS)] [(.int (2 : Int32)), (.ref b_1)])) rfl rfl (hb hby d1_16) _ kS) ?_
      show own_G p.tables e below _ (T7.setTop (mkF m 17 #[.val (.int q1), .val (.ref b_1), .val (.int (13 : Int32)), .val (.int (2 : Int32)), .val (.ref w_LIST_OFFSETS)] [(.ref w_METADATA)]))
      refine own_st (fun _ kS => XS.astore X7.here hx rfl (hb hby d1_17) rfl rfl (l' := #[.val (.int q1), .val (.ref b_1), .val (.int (13 : Int32)), .val (.int (2 : Int32)), .val (.ref w_METADATA)]) rfl kS) ?_
      show own_G p.tables e below _ (T7.setTop (mkF m 19 #[.val (.int q1), .val (.ref b_1), .val (.int (13 : Int32)), .val (.int (2 : Int32)), .val (.ref w_METADATA)] []))
      refine own_st (fun _ kS => XS.aload X7.here hx rfl (hb hby d1_19) rfl rfl kS) ?_
      show own_G p.tables e below _ (T7.setTop (mkF m 21 #[.val (.int q1), .val (.ref b_1), .val (.int (13 : Int32)), .val (.int (2 : Int32)), .val (.ref w_METADATA)] [(.ref w_METADATA)]))
      obtain ⟨T10, X10, e10, st10⟩ := getF X7 hx hZ hown (host := "") (Or.inl (hw _ (List.mem_of_getElem? (i := 32) rfl))) Via.refl e7 (Fld.ext O1.2 F_METADATA_id) (g := (mkF m 21 #[.val (.int q1), .val (.ref b_1), .val (.int (13 : Int32)), .val (.int (2 : Int32)), .val (.ref w_METADATA)] [(.ref w_METADATA)])) rfl rfl (hb hby d1_21)
      refine own_st st10 ?_
      show own_G p.tables e below _ (T10.setTop (mkF m 24 #[.val (.int q1), .val (.ref b_1), .val (.int (13 : Int32)), .val (.int (2 : Int32)), .val (.ref w_METADATA)] [(.int (3 : Int32))]))
      refine own_st (fun _ kS => XS.iloadN X10.here hx rfl (hb hby d1_24) rfl kS) ?_
      show own_G p.tables e below _ (T10.setTop (mkF m 25 #[.val (.int q1), .val (.ref b_1), .val (.int (13 : Int32)), .val (.int (2 : Int32)), .val (.ref w_METADATA)] [(.int q1), (.int (3 : Int32))]))
      by_cases hc25_11 : (3 : Int32) = q1
      · skip
        refine own_st (fun _ kS => XS.icmpNo X10.here hx rfl (hb hby d1_25) rfl (teq hc25_11).2 kS) ?_
        show own_G p.tables e below _ (T10.setTop (mkF m 28 #[.val (.int q1), .val (.ref b_1), .val (.int (13 : Int32)), .val (.int (2 : Int32)), .val (.ref w_METADATA)] []))
        refine own_st (fun _ kS => XS.aload X10.here hx rfl (hb hby d1_28) rfl rfl kS) ?_
        show own_G p.tables e below _ (T10.setTop (mkF m 30 #[.val (.int q1), .val (.ref b_1), .val (.int (13 : Int32)), .val (.int (2 : Int32)), .val (.ref w_METADATA)] [(.ref w_METADATA)]))
        exact own_retA X10 hx hlk hret rfl rfl (hb hby d1_30) (by decide) (by decide) (by rw [e10]; exact ⟨(congrArg some (by rw [own_key, if_neg (fun e => hc25_5 e.symm), if_neg (fun e => hc25_8 e.symm), if_pos hc25_11.symm])), N1, K1⟩)
      · skip
        refine own_st (fun _ kS => XS.icmpYes X10.here hx rfl (pc0 := 25) (pc' := 31) rfl (hb hby d1_25) rfl (feq hc25_11).2 (by decide) (by decide) kS) ?_
        show own_G p.tables e below _ (T10.setTop (mkF m 31 #[.val (.int q1), .val (.ref b_1), .val (.int (13 : Int32)), .val (.int (2 : Int32)), .val (.ref w_METADATA)] []))
        refine own_st (fun _ kS => XS.iinc X10.here hx rfl (hb hby d1_31) rfl (l' := #[.val (.int q1), .val (.ref b_1), .val (.int (13 : Int32)), .val (.int (3 : Int32)), .val (.ref w_METADATA)]) rfl kS) ?_
        show own_G p.tables e below _ (T10.setTop (mkF m 34 #[.val (.int q1), .val (.ref b_1), .val (.int (13 : Int32)), .val (.int (3 : Int32)), .val (.ref w_METADATA)] []))
        refine own_st (fun _ kS => XS.goto X10.here hx rfl (pc0 := 34) (pc' := 9) rfl (hb hby d1_34) (by decide) (by decide) kS) ?_
        show own_G p.tables e below _ (T10.setTop (mkF m 9 #[.val (.int q1), .val (.ref b_1), .val (.int (13 : Int32)), .val (.int (3 : Int32)), .val (.ref w_METADATA)] []))
        refine own_st (fun _ kS => XS.iloadN X10.here hx rfl (hb hby d1_9) rfl kS) ?_
        show own_G p.tables e below _ (T10.setTop (mkF m 10 #[.val (.int q1), .val (.ref b_1), .val (.int (13 : Int32)), .val (.int (3 : Int32)), .val (.ref w_METADATA)] [(.int (3 : Int32))]))
        refine own_st (fun _ kS => XS.iloadN X10.here hx rfl (hb hby d1_10) rfl kS) ?_
        show own_G p.tables e below _ (T10.setTop (mkF m 11 #[.val (.int q1), .val (.ref b_1), .val (.int (13 : Int32)), .val (.int (3 : Int32)), .val (.ref w_METADATA)] [(.int (13 : Int32)), (.int (3 : Int32))]))
        refine own_st (fun _ kS => XS.icmpNo X10.here hx rfl (hb hby d1_11) rfl (tlt (by decide : (3 : Int32) < (13 : Int32))).2.1 kS) ?_
        show own_G p.tables e below _ (T10.setTop (mkF m 14 #[.val (.int q1), .val (.ref b_1), .val (.int (13 : Int32)), .val (.int (3 : Int32)), .val (.ref w_METADATA)] []))
        refine own_st (fun _ kS => XS.aloadN X10.here hx rfl (hb hby d1_14) rfl rfl kS) ?_
        show own_G p.tables e below _ (T10.setTop (mkF m 15 #[.val (.int q1), .val (.ref b_1), .val (.int (13 : Int32)), .val (.int (3 : Int32)), .val (.ref w_METADATA)] [(.ref b_1)]))
        refine own_st (fun _ kS => XS.iloadN X10.here hx rfl (hb hby d1_15) rfl kS) ?_
        show own_G p.tables e below _ (T10.setTop (mkF m 16 #[.val (.int q1), .val (.ref b_1), .val (.int (13 : Int32)), .val (.int (3 : Int32)), .val (.ref w_METADATA)] [(.int (3 : Int32)), (.ref b_1)]))
        obtain ⟨cl12, Ar12, qa12, qs12, qn12, qh12, qg12⟩ := id P1_1
        refine own_st (fun _ kS => X10.aaload hx (j := (3 : Int32)) (v := (.ref w_OFFSET_COMMIT)) (by rw [e10]; exact Ar12.1) (State.isArrayOf_alike hZ.alike Ar12.2.1) rfl Ar12.2.2 (inb_of qs12 ⟨by decide, by decide⟩) (qh12.at (inb_of qs12 ⟨by decide, by decide⟩) rfl) (g := (mkF m 16 #[.val (.int q1), .val (.ref b_1), .val (.int (13 : Int32)), .val (.int (3 : Int32)), .val (.ref w_METADATA)] [(.int (3 : Int32)), (.ref b_1)])) rfl rfl (hb hby d1_16) _ kS) ?_
        show own_G p.tables e below _ (T10.setTop (mkF m 17 #[.val (.int q1), .val (.ref b_1), .val (.int (13 : Int32)), .val (.int (3 : Int32)), .val (.ref w_METADATA)] [(.ref w_OFFSET_COMMIT)]))
        refine own_st (fun _ kS => XS.astore X10.here hx rfl (hb hby d1_17) rfl rfl (l' := #[.val (.int q1), .val (.ref b_1), .val (.int (13 : Int32)), .val (.int (3 : Int32)), .val (.ref w_OFFSET_COMMIT)]) rfl kS) ?_
        show own_G p.tables e below _ (T10.setTop (mkF m 19 #[.val (.int q1), .val (.ref b_1), .val (.int (13 : Int32)), .val (.int (3 : Int32)), .val (.ref w_OFFSET_COMMIT)] []))
        refine own_st (fun _ kS => XS.aload X10.here hx rfl (hb hby d1_19) rfl rfl kS) ?_
        show own_G p.tables e below _ (T10.setTop (mkF m 21 #[.val (.int q1), .val (.ref b_1), .val (.int (13 : Int32)), .val (.int (3 : Int32)), .val (.ref w_OFFSET_COMMIT)] [(.ref w_OFFSET_COMMIT)]))
        obtain ⟨T13, X13, e13, st13⟩ := getF X10 hx hZ hown (host := "") (Or.inl (hw _ (List.mem_of_getElem? (i := 32) rfl))) Via.refl e10 (Fld.ext O1.2 F_OFFSET_COMMIT_id) (g := (mkF m 21 #[.val (.int q1), .val (.ref b_1), .val (.int (13 : Int32)), .val (.int (3 : Int32)), .val (.ref w_OFFSET_COMMIT)] [(.ref w_OFFSET_COMMIT)])) rfl rfl (hb hby d1_21)
        refine own_st st13 ?_
        show own_G p.tables e below _ (T13.setTop (mkF m 24 #[.val (.int q1), .val (.ref b_1), .val (.int (13 : Int32)), .val (.int (3 : Int32)), .val (.ref w_OFFSET_COMMIT)] [(.int (8 : Int32))]))
        refine own_st (fun _ kS => XS.iloadN X13.here hx rfl (hb hby d1_24) rfl kS) ?_
        show own_G p.tables e below _ (T13.setTop (mkF m 25 #[.val (.int q1), .val (.ref b_1), .val (.int (13 : Int32)), .val (.int (3 : Int32)), .val (.ref w_OFFSET_COMMIT)] [(.int q1), (.int (8 : Int32))]))
        by_cases hc25_14 : (8 : Int32) = q1
        · skip
          refine own_st (fun _ kS => XS.icmpNo X13.here hx rfl (hb hby d1_25) rfl (teq hc25_14).2 kS) ?_
          show own_G p.tables e below _ (T13.setTop (mkF m 28 #[.val (.int q1), .val (.ref b_1), .val (.int (13 : Int32)), .val (.int (3 : Int32)), .val (.ref w_OFFSET_COMMIT)] []))
          refine own_st (fun _ kS => XS.aload X13.here hx rfl (hb hby d1_28) rfl rfl kS) ?_
          show own_G p.tables e below _ (T13.setTop (mkF m 30 #[.val (.int q1), .val (.ref b_1), .val (.int (13 : Int32)), .val (.int (3 : Int32)), .val (.ref w_OFFSET_COMMIT)] [(.ref w_OFFSET_COMMIT)]))
          exact own_retA X13 hx hlk hret rfl rfl (hb hby d1_30) (by decide) (by decide) (by rw [e13]; exact ⟨(congrArg some (by rw [own_key, if_neg (fun e => hc25_5 e.symm), if_neg (fun e => hc25_8 e.symm), if_neg (fun e => hc25_11 e.symm), if_pos hc25_14.symm])), N1, K1⟩)
        · skip
          refine own_st (fun _ kS => XS.icmpYes X13.here hx rfl (pc0 := 25) (pc' := 31) rfl (hb hby d1_25) rfl (feq hc25_14).2 (by decide) (by decide) kS) ?_
          show own_G p.tables e below _ (T13.setTop (mkF m 31 #[.val (.int q1), .val (.ref b_1), .val (.int (13 : Int32)), .val (.int (3 : Int32)), .val (.ref w_OFFSET_COMMIT)] []))
          refine own_st (fun _ kS => XS.iinc X13.here hx rfl (hb hby d1_31) rfl (l' := #[.val (.int q1), .val (.ref b_1), .val (.int (13 : Int32)), .val (.int (4 : Int32)), .val (.ref w_OFFSET_COMMIT)]) rfl kS) ?_
          show own_G p.tables e below _ (T13.setTop (mkF m 34 #[.val (.int q1), .val (.ref b_1), .val (.int (13 : Int32)), .val (.int (4 : Int32)), .val (.ref w_OFFSET_COMMIT)] []))
          refine own_st (fun _ kS => XS.goto X13.here hx rfl (pc0 := 34) (pc' := 9) rfl (hb hby d1_34) (by decide) (by decide) kS) ?_
          show own_G p.tables e below _ (T13.setTop (mkF m 9 #[.val (.int q1), .val (.ref b_1), .val (.int (13 : Int32)), .val (.int (4 : Int32)), .val (.ref w_OFFSET_COMMIT)] []))
          refine own_st (fun _ kS => XS.iloadN X13.here hx rfl (hb hby d1_9) rfl kS) ?_
          show own_G p.tables e below _ (T13.setTop (mkF m 10 #[.val (.int q1), .val (.ref b_1), .val (.int (13 : Int32)), .val (.int (4 : Int32)), .val (.ref w_OFFSET_COMMIT)] [(.int (4 : Int32))]))
          refine own_st (fun _ kS => XS.iloadN X13.here hx rfl (hb hby d1_10) rfl kS) ?_
          show own_G p.tables e below _ (T13.setTop (mkF m 11 #[.val (.int q1), .val (.ref b_1), .val (.int (13 : Int32)), .val (.int (4 : Int32)), .val (.ref w_OFFSET_COMMIT)] [(.int (13 : Int32)), (.int (4 : Int32))]))
          refine own_st (fun _ kS => XS.icmpNo X13.here hx rfl (hb hby d1_11) rfl (tlt (by decide : (4 : Int32) < (13 : Int32))).2.1 kS) ?_
          show own_G p.tables e below _ (T13.setTop (mkF m 14 #[.val (.int q1), .val (.ref b_1), .val (.int (13 : Int32)), .val (.int (4 : Int32)), .val (.ref w_OFFSET_COMMIT)] []))
          refine own_st (fun _ kS => XS.aloadN X13.here hx rfl (hb hby d1_14) rfl rfl kS) ?_
          show own_G p.tables e below _ (T13.setTop (mkF m 15 #[.val (.int q1), .val (.ref b_1), .val (.int (13 : Int32)), .val (.int (4 : Int32)), .val (.ref w_OFFSET_COMMIT)] [(.ref b_1)]))
          refine own_st (fun _ kS => XS.iloadN X13.here hx rfl (hb hby d1_15) rfl kS) ?_
          show own_G p.tables e below _ (T13.setTop (mkF m 16 #[.val (.int q1), .val (.ref b_1), .val (.int (13 : Int32)), .val (.int (4 : Int32)), .val (.ref w_OFFSET_COMMIT)] [(.int (4 : Int32)), (.ref b_1)]))
          obtain ⟨cl15, Ar15, qa15, qs15, qn15, qh15, qg15⟩ := id P1_1
          refine own_st (fun _ kS => X13.aaload hx (j := (4 : Int32)) (v := (.ref w_OFFSET_FETCH)) (by rw [e13]; exact Ar15.1) (State.isArrayOf_alike hZ.alike Ar15.2.1) rfl Ar15.2.2 (inb_of qs15 ⟨by decide, by decide⟩) (qh15.at (inb_of qs15 ⟨by decide, by decide⟩) rfl) (g := (mkF m 16 #[.val (.int q1), .val (.ref b_1), .val (.int (13 : Int32)), .val (.int (4 : Int32)), .val (.ref w_OFFSET_COMMIT)] [(.int (4 : Int32)), (.ref b_1)])) rfl rfl (hb hby d1_16) _ kS) ?_
          show own_G p.tables e below _ (T13.setTop (mkF m 17 #[.val (.int q1), .val (.ref b_1), .val (.int (13 : Int32)), .val (.int (4 : Int32)), .val (.ref w_OFFSET_COMMIT)] [(.ref w_OFFSET_FETCH)]))
          refine own_st (fun _ kS => XS.astore X13.here hx rfl (hb hby d1_17) rfl rfl (l' := #[.val (.int q1), .val (.ref b_1), .val (.int (13 : Int32)), .val (.int (4 : Int32)), .val (.ref w_OFFSET_FETCH)]) rfl kS) ?_
          show own_G p.tables e below _ (T13.setTop (mkF m 19 #[.val (.int q1), .val (.ref b_1), .val (.int (13 : Int32)), .val (.int (4 : Int32)), .val (.ref w_OFFSET_FETCH)] []))
          refine own_st (fun _ kS => XS.aload X13.here hx rfl (hb hby d1_19) rfl rfl kS) ?_
          show own_G p.tables e below _ (T13.setTop (mkF m 21 #[.val (.int q1), .val (.ref b_1), .val (.int (13 : Int32)), .val (.int (4 : Int32)), .val (.ref w_OFFSET_FETCH)] [(.ref w_OFFSET_FETCH)]))
          obtain ⟨T16, X16, e16, st16⟩ := getF X13 hx hZ hown (host := "") (Or.inl (hw _ (List.mem_of_getElem? (i := 32) rfl))) Via.refl e13 (Fld.ext O1.2 F_OFFSET_FETCH_id) (g := (mkF m 21 #[.val (.int q1), .val (.ref b_1), .val (.int (13 : Int32)), .val (.int (4 : Int32)), .val (.ref w_OFFSET_FETCH)] [(.ref w_OFFSET_FETCH)])) rfl rfl (hb hby d1_21)
          refine own_st st16 ?_
          show own_G p.tables e below _ (T16.setTop (mkF m 24 #[.val (.int q1), .val (.ref b_1), .val (.int (13 : Int32)), .val (.int (4 : Int32)), .val (.ref w_OFFSET_FETCH)] [(.int (9 : Int32))]))
          refine own_st (fun _ kS => XS.iloadN X16.here hx rfl (hb hby d1_24) rfl kS) ?_
          show own_G p.tables e below _ (T16.setTop (mkF m 25 #[.val (.int q1), .val (.ref b_1), .val (.int (13 : Int32)), .val (.int (4 : Int32)), .val (.ref w_OFFSET_FETCH)] [(.int q1), (.int (9 : Int32))]))
          by_cases hc25_17 : (9 : Int32) = q1
          · skip
            refine own_st (fun _ kS => XS.icmpNo X16.here hx rfl (hb hby d1_25) rfl (teq hc25_17).2 kS) ?_
            show own_G p.tables e below _ (T16.setTop (mkF m 28 #[.val (.int q1), .val (.ref b_1), .val (.int (13 : Int32)), .val (.int (4 : Int32)), .val (.ref w_OFFSET_FETCH)] []))
            refine own_st (fun _ kS => XS.aload X16.here hx rfl (hb hby d1_28) rfl rfl kS) ?_
            show own_G p.tables e below _ (T16.setTop (mkF m 30 #[.val (.int q1), .val (.ref b_1), .val (.int (13 : Int32)), .val (.int (4 : Int32)), .val (.ref w_OFFSET_FETCH)] [(.ref w_OFFSET_FETCH)]))
            exact own_retA X16 hx hlk hret rfl rfl (hb hby d1_30) (by decide) (by decide) (by rw [e16]; exact ⟨(congrArg some (by rw [own_key, if_neg (fun e => hc25_5 e.symm), if_neg (fun e => hc25_8 e.symm), if_neg (fun e => hc25_11 e.symm), if_neg (fun e => hc25_14 e.symm), if_pos hc25_17.symm])), N1, K1⟩)
          · skip
            refine own_st (fun _ kS => XS.icmpYes X16.here hx rfl (pc0 := 25) (pc' := 31) rfl (hb hby d1_25) rfl (feq hc25_17).2 (by decide) (by decide) kS) ?_
            show own_G p.tables e below _ (T16.setTop (mkF m 31 #[.val (.int q1), .val (.ref b_1), .val (.int (13 : Int32)), .val (.int (4 : Int32)), .val (.ref w_OFFSET_FETCH)] []))
            refine own_st (fun _ kS => XS.iinc X16.here hx rfl (hb hby d1_31) rfl (l' := #[.val (.int q1), .val (.ref b_1), .val (.int (13 : Int32)), .val (.int (5 : Int32)), .val (.ref w_OFFSET_FETCH)]) rfl kS) ?_
            show own_G p.tables e below _ (T16.setTop (mkF m 34 #[.val (.int q1), .val (.ref b_1), .val (.int (13 : Int32)), .val (.int (5 : Int32)), .val (.ref w_OFFSET_FETCH)] []))
            refine own_st (fun _ kS => XS.goto X16.here hx rfl (pc0 := 34) (pc' := 9) rfl (hb hby d1_34) (by decide) (by decide) kS) ?_
            show own_G p.tables e below _ (T16.setTop (mkF m 9 #[.val (.int q1), .val (.ref b_1), .val (.int (13 : Int32)), .val (.int (5 : Int32)), .val (.ref w_OFFSET_FETCH)] []))
            refine own_st (fun _ kS => XS.iloadN X16.here hx rfl (hb hby d1_9) rfl kS) ?_
            show own_G p.tables e below _ (T16.setTop (mkF m 10 #[.val (.int q1), .val (.ref b_1), .val (.int (13 : Int32)), .val (.int (5 : Int32)), .val (.ref w_OFFSET_FETCH)] [(.int (5 : Int32))]))
            refine own_st (fun _ kS => XS.iloadN X16.here hx rfl (hb hby d1_10) rfl kS) ?_
            show own_G p.tables e below _ (T16.setTop (mkF m 11 #[.val (.int q1), .val (.ref b_1), .val (.int (13 : Int32)), .val (.int (5 : Int32)), .val (.ref w_OFFSET_FETCH)] [(.int (13 : Int32)), (.int (5 : Int32))]))
            refine own_st (fun _ kS => XS.icmpNo X16.here hx rfl (hb hby d1_11) rfl (tlt (by decide : (5 : Int32) < (13 : Int32))).2.1 kS) ?_
            show own_G p.tables e below _ (T16.setTop (mkF m 14 #[.val (.int q1), .val (.ref b_1), .val (.int (13 : Int32)), .val (.int (5 : Int32)), .val (.ref w_OFFSET_FETCH)] []))
            refine own_st (fun _ kS => XS.aloadN X16.here hx rfl (hb hby d1_14) rfl rfl kS) ?_
            show own_G p.tables e below _ (T16.setTop (mkF m 15 #[.val (.int q1), .val (.ref b_1), .val (.int (13 : Int32)), .val (.int (5 : Int32)), .val (.ref w_OFFSET_FETCH)] [(.ref b_1)]))
            refine own_st (fun _ kS => XS.iloadN X16.here hx rfl (hb hby d1_15) rfl kS) ?_
            show own_G p.tables e below _ (T16.setTop (mkF m 16 #[.val (.int q1), .val (.ref b_1), .val (.int (13 : Int32)), .val (.int (5 : Int32)), .val (.ref w_OFFSET_FETCH)] [(.int (5 : Int32)), (.ref b_1)]))
            obtain ⟨cl18, Ar18, qa18, qs18, qn18, qh18, qg18⟩ := id P1_1
            refine own_st (fun _ kS => X16.aaload hx (j := (5 : Int32)) (v := (.ref w_FIND_COORDINATOR)) (by rw [e16]; exact Ar18.1) (State.isArrayOf_alike hZ.alike Ar18.2.1) rfl Ar18.2.2 (inb_of qs18 ⟨by decide, by decide⟩) (qh18.at (inb_of qs18 ⟨by decide, by decide⟩) rfl) (g := (mkF m 16 #[.val (.int q1), .val (.ref b_1), .val (.int (13 : Int32)), .val (.int (5 : Int32)), .val (.ref w_OFFSET_FETCH)] [(.int (5 : Int32)), (.ref b_1)])) rfl rfl (hb hby d1_16) _ kS) ?_
            show own_G p.tables e below _ (T16.setTop (mkF m 17 #[.val (.int q1), .val (.ref b_1), .val (.int (13 : Int32)), .val (.int (5 : Int32)), .val (.ref w_OFFSET_FETCH)] [(.ref w_FIND_COORDINATOR)]))
            refine own_st (fun _ kS => XS.astore X16.here hx rfl (hb hby d1_17) rfl rfl (l' := #[.val (.int q1), .val (.ref b_1), .val (.int (13 : Int32)), .val (.int (5 : Int32)), .val (.ref w_FIND_COORDINATOR)]) rfl kS) ?_
            show own_G p.tables e below _ (T16.setTop (mkF m 19 #[.val (.int q1), .val (.ref b_1), .val (.int (13 : Int32)), .val (.int (5 : Int32)), .val (.ref w_FIND_COORDINATOR)] []))
            refine own_st (fun _ kS => XS.aload X16.here hx rfl (hb hby d1_19) rfl rfl kS) ?_
            show own_G p.tables e below _ (T16.setTop (mkF m 21 #[.val (.int q1), .val (.ref b_1), .val (.int (13 : Int32)), .val (.int (5 : Int32)), .val (.ref w_FIND_COORDINATOR)] [(.ref w_FIND_COORDINATOR)]))
            obtain ⟨T19, X19, e19, st19⟩ := getF X16 hx hZ hown (host := "") (Or.inl (hw _ (List.mem_of_getElem? (i := 32) rfl))) Via.refl e16 (Fld.ext O1.2 F_FIND_COORDINATOR_id) (g := (mkF m 21 #[.val (.int q1), .val (.ref b_1), .val (.int (13 : Int32)), .val (.int (5 : Int32)), .val (.ref w_FIND_COORDINATOR)] [(.ref w_FIND_COORDINATOR)])) rfl rfl (hb hby d1_21)
            refine own_st st19 ?_
            show own_G p.tables e below _ (T19.setTop (mkF m 24 #[.val (.int q1), .val (.ref b_1), .val (.int (13 : Int32)), .val (.int (5 : Int32)), .val (.ref w_FIND_COORDINATOR)] [(.int (10 : Int32))]))
            refine own_st (fun _ kS => XS.iloadN X19.here hx rfl (hb hby d1_24) rfl kS) ?_
            show own_G p.tables e below _ (T19.setTop (mkF m 25 #[.val (.int q1), .val (.ref b_1), .val (.int (13 : Int32)), .val (.int (5 : Int32)), .val (.ref w_FIND_COORDINATOR)] [(.int q1), (.int (10 : Int32))]))
            by_cases hc25_20 : (10 : Int32) = q1
            · skip
              refine own_st (fun _ kS => XS.icmpNo X19.here hx rfl (hb hby d1_25) rfl (teq hc25_20).2 kS) ?_
              show own_G p.tables e below _ (T19.setTop (mkF m 28 #[.val (.int q1), .val (.ref b_1), .val (.int (13 : Int32)), .val (.int (5 : Int32)), .val (.ref w_FIND_COORDINATOR)] []))
              refine own_st (fun _ kS => XS.aload X19.here hx rfl (hb hby d1_28) rfl rfl kS) ?_
              show own_G p.tables e below _ (T19.setTop (mkF m 30 #[.val (.int q1), .val (.ref b_1), .val (.int (13 : Int32)), .val (.int (5 : Int32)), .val (.ref w_FIND_COORDINATOR)] [(.ref w_FIND_COORDINATOR)]))
              exact own_retA X19 hx hlk hret rfl rfl (hb hby d1_30) (by decide) (by decide) (by rw [e19]; exact ⟨(congrArg some (by rw [own_key, if_neg (fun e => hc25_5 e.symm), if_neg (fun e => hc25_8 e.symm), if_neg (fun e => hc25_11 e.symm), if_neg (fun e => hc25_14 e.symm), if_neg (fun e => hc25_17 e.symm), if_pos hc25_20.symm])), N1, K1⟩)
            · skip
              refine own_st (fun _ kS => XS.icmpYes X19.here hx rfl (pc0 := 25) (pc' := 31) rfl (hb hby d1_25) rfl (feq hc25_20).2 (by decide) (by decide) kS) ?_
              show own_G p.tables e below _ (T19.setTop (mkF m 31 #[.val (.int q1), .val (.ref b_1), .val (.int (13 : Int32)), .val (.int (5 : Int32)), .val (.ref w_FIND_COORDINATOR)] []))
              refine own_st (fun _ kS => XS.iinc X19.here hx rfl (hb hby d1_31) rfl (l' := #[.val (.int q1), .val (.ref b_1), .val (.int (13 : Int32)), .val (.int (6 : Int32)), .val (.ref w_FIND_COORDINATOR)]) rfl kS) ?_
              show own_G p.tables e below _ (T19.setTop (mkF m 34 #[.val (.int q1), .val (.ref b_1), .val (.int (13 : Int32)), .val (.int (6 : Int32)), .val (.ref w_FIND_COORDINATOR)] []))
              refine own_st (fun _ kS => XS.goto X19.here hx rfl (pc0 := 34) (pc' := 9) rfl (hb hby d1_34) (by decide) (by decide) kS) ?_
              show own_G p.tables e below _ (T19.setTop (mkF m 9 #[.val (.int q1), .val (.ref b_1), .val (.int (13 : Int32)), .val (.int (6 : Int32)), .val (.ref w_FIND_COORDINATOR)] []))
              refine own_st (fun _ kS => XS.iloadN X19.here hx rfl (hb hby d1_9) rfl kS) ?_
              show own_G p.tables e below _ (T19.setTop (mkF m 10 #[.val (.int q1), .val (.ref b_1), .val (.int (13 : Int32)), .val (.int (6 : Int32)), .val (.ref w_FIND_COORDINATOR)] [(.int (6 : Int32))]))
              refine own_st (fun _ kS => XS.iloadN X19.here hx rfl (hb hby d1_10) rfl kS) ?_
              show own_G p.tables e below _ (T19.setTop (mkF m 11 #[.val (.int q1), .val (.ref b_1), .val (.int (13 : Int32)), .val (.int (6 : Int32)), .val (.ref w_FIND_COORDINATOR)] [(.int (13 : Int32)), (.int (6 : Int32))]))
              refine own_st (fun _ kS => XS.icmpNo X19.here hx rfl (hb hby d1_11) rfl (tlt (by decide : (6 : Int32) < (13 : Int32))).2.1 kS) ?_
              show own_G p.tables e below _ (T19.setTop (mkF m 14 #[.val (.int q1), .val (.ref b_1), .val (.int (13 : Int32)), .val (.int (6 : Int32)), .val (.ref w_FIND_COORDINATOR)] []))
              refine own_st (fun _ kS => XS.aloadN X19.here hx rfl (hb hby d1_14) rfl rfl kS) ?_
              show own_G p.tables e below _ (T19.setTop (mkF m 15 #[.val (.int q1), .val (.ref b_1), .val (.int (13 : Int32)), .val (.int (6 : Int32)), .val (.ref w_FIND_COORDINATOR)] [(.ref b_1)]))
              refine own_st (fun _ kS => XS.iloadN X19.here hx rfl (hb hby d1_15) rfl kS) ?_
              show own_G p.tables e below _ (T19.setTop (mkF m 16 #[.val (.int q1), .val (.ref b_1), .val (.int (13 : Int32)), .val (.int (6 : Int32)), .val (.ref w_FIND_COORDINATOR)] [(.int (6 : Int32)), (.ref b_1)]))
              obtain ⟨cl21, Ar21, qa21, qs21, qn21, qh21, qg21⟩ := id P1_1
              refine own_st (fun _ kS => X19.aaload hx (j := (6 : Int32)) (v := (.ref w_JOIN_GROUP)) (by rw [e19]; exact Ar21.1) (State.isArrayOf_alike hZ.alike Ar21.2.1) rfl Ar21.2.2 (inb_of qs21 ⟨by decide, by decide⟩) (qh21.at (inb_of qs21 ⟨by decide, by decide⟩) rfl) (g := (mkF m 16 #[.val (.int q1), .val (.ref b_1), .val (.int (13 : Int32)), .val (.int (6 : Int32)), .val (.ref w_FIND_COORDINATOR)] [(.int (6 : Int32)), (.ref b_1)])) rfl rfl (hb hby d1_16) _ kS) ?_
              show own_G p.tables e below _ (T19.setTop (mkF m 17 #[.val (.int q1), .val (.ref b_1), .val (.int (13 : Int32)), .val (.int (6 : Int32)), .val (.ref w_FIND_COORDINATOR)] [(.ref w_JOIN_GROUP)]))
              refine own_st (fun _ kS => XS.astore X19.here hx rfl (hb hby d1_17) rfl rfl (l' := #[.val (.int q1), .val (.ref b_1), .val (.int (13 : Int32)), .val (.int (6 : Int32)), .val (.ref w_JOIN_GROUP)]) rfl kS) ?_
              show own_G p.tables e below _ (T19.setTop (mkF m 19 #[.val (.int q1), .val (.ref b_1), .val (.int (13 : Int32)), .val (.int (6 : Int32)), .val (.ref w_JOIN_GROUP)] []))
              refine own_st (fun _ kS => XS.aload X19.here hx rfl (hb hby d1_19) rfl rfl kS) ?_
              show own_G p.tables e below _ (T19.setTop (mkF m 21 #[.val (.int q1), .val (.ref b_1), .val (.int (13 : Int32)), .val (.int (6 : Int32)), .val (.ref w_JOIN_GROUP)] [(.ref w_JOIN_GROUP)]))
              obtain ⟨T22, X22, e22, st22⟩ := getF X19 hx hZ hown (host := "") (Or.inl (hw _ (List.mem_of_getElem? (i := 32) rfl))) Via.refl e19 (Fld.ext O1.2 F_JOIN_GROUP_id) (g := (mkF m 21 #[.val (.int q1), .val (.ref b_1), .val (.int (13 : Int32)), .val (.int (6 : Int32)), .val (.ref w_JOIN_GROUP)] [(.ref w_JOIN_GROUP)])) rfl rfl (hb hby d1_21)
              refine own_st st22 ?_
              show own_G p.tables e below _ (T22.setTop (mkF m 24 #[.val (.int q1), .val (.ref b_1), .val (.int (13 : Int32)), .val (.int (6 : Int32)), .val (.ref w_JOIN_GROUP)] [(.int (11 : Int32))]))
              refine own_st (fun _ kS => XS.iloadN X22.here hx rfl (hb hby d1_24) rfl kS) ?_
              show own_G p.tables e below _ (T22.setTop (mkF m 25 #[.val (.int q1), .val (.ref b_1), .val (.int (13 : Int32)), .val (.int (6 : Int32)), .val (.ref w_JOIN_GROUP)] [(.int q1), (.int (11 : Int32))]))
              by_cases hc25_23 : (11 : Int32) = q1
              · skip
                refine own_st (fun _ kS => XS.icmpNo X22.here hx rfl (hb hby d1_25) rfl (teq hc25_23).2 kS) ?_
                show own_G p.tables e below _ (T22.setTop (mkF m 28 #[.val (.int q1), .val (.ref b_1), .val (.int (13 : Int32)), .val (.int (6 : Int32)), .val (.ref w_JOIN_GROUP)] []))
                refine own_st (fun _ kS => XS.aload X22.here hx rfl (hb hby d1_28) rfl rfl kS) ?_
                show own_G p.tables e below _ (T22.setTop (mkF m 30 #[.val (.int q1), .val (.ref b_1), .val (.int (13 : Int32)), .val (.int (6 : Int32)), .val (.ref w_JOIN_GROUP)] [(.ref w_JOIN_GROUP)]))
                exact own_retA X22 hx hlk hret rfl rfl (hb hby d1_30) (by decide) (by decide) (by rw [e22]; exact ⟨(congrArg some (by rw [own_key, if_neg (fun e => hc25_5 e.symm), if_neg (fun e => hc25_8 e.symm), if_neg (fun e => hc25_11 e.symm), if_neg (fun e => hc25_14 e.symm), if_neg (fun e => hc25_17 e.symm), if_neg (fun e => hc25_20 e.symm), if_pos hc25_23.symm])), N1, K1⟩)
              · skip
                refine own_st (fun _ kS => XS.icmpYes X22.here hx rfl (pc0 := 25) (pc' := 31) rfl (hb hby d1_25) rfl (feq hc25_23).2 (by decide) (by decide) kS) ?_
                show own_G p.tables e below _ (T22.setTop (mkF m 31 #[.val (.int q1), .val (.ref b_1), .val (.int (13 : Int32)), .val (.int (6 : Int32)), .val (.ref w_JOIN_GROUP)] []))
                refine own_st (fun _ kS => XS.iinc X22.here hx rfl (hb hby d1_31) rfl (l' := #[.val (.int q1), .val (.ref b_1), .val (.int (13 : Int32)), .val (.int (7 : Int32)), .val (.ref w_JOIN_GROUP)]) rfl kS) ?_
                show own_G p.tables e below _ (T22.setTop (mkF m 34 #[.val (.int q1), .val (.ref b_1), .val (.int (13 : Int32)), .val (.int (7 : Int32)), .val (.ref w_JOIN_GROUP)] []))
                refine own_st (fun _ kS => XS.goto X22.here hx rfl (pc0 := 34) (pc' := 9) rfl (hb hby d1_34) (by decide) (by decide) kS) ?_
                show own_G p.tables e below _ (T22.setTop (mkF m 9 #[.val (.int q1), .val (.ref b_1), .val (.int (13 : Int32)), .val (.int (7 : Int32)), .val (.ref w_JOIN_GROUP)] []))
                refine own_st (fun _ kS => XS.iloadN X22.here hx rfl (hb hby d1_9) rfl kS) ?_
                show own_G p.tables e below _ (T22.setTop (mkF m 10 #[.val (.int q1), .val (.ref b_1), .val (.int (13 : Int32)), .val (.int (7 : Int32)), .val (.ref w_JOIN_GROUP)] [(.int (7 : Int32))]))
                refine own_st (fun _ kS => XS.iloadN X22.here hx rfl (hb hby d1_10) rfl kS) ?_
                show own_G p.tables e below _ (T22.setTop (mkF m 11 #[.val (.int q1), .val (.ref b_1), .val (.int (13 : Int32)), .val (.int (7 : Int32)), .val (.ref w_JOIN_GROUP)] [(.int (13 : Int32)), (.int (7 : Int32))]))
                refine own_st (fun _ kS => XS.icmpNo X22.here hx rfl (hb hby d1_11) rfl (tlt (by decide : (7 : Int32) < (13 : Int32))).2.1 kS) ?_
                show own_G p.tables e below _ (T22.setTop (mkF m 14 #[.val (.int q1), .val (.ref b_1), .val (.int (13 : Int32)), .val (.int (7 : Int32)), .val (.ref w_JOIN_GROUP)] []))
                refine own_st (fun _ kS => XS.aloadN X22.here hx rfl (hb hby d1_14) rfl rfl kS) ?_
                show own_G p.tables e below _ (T22.setTop (mkF m 15 #[.val (.int q1), .val (.ref b_1), .val (.int (13 : Int32)), .val (.int (7 : Int32)), .val (.ref w_JOIN_GROUP)] [(.ref b_1)]))
                refine own_st (fun _ kS => XS.iloadN X22.here hx rfl (hb hby d1_15) rfl kS) ?_
                show own_G p.tables e below _ (T22.setTop (mkF m 16 #[.val (.int q1), .val (.ref b_1), .val (.int (13 : Int32)), .val (.int (7 : Int32)), .val (.ref w_JOIN_GROUP)] [(.int (7 : Int32)), (.ref b_1)]))
                obtain ⟨cl24, Ar24, qa24, qs24, qn24, qh24, qg24⟩ := id P1_1
                refine own_st (fun _ kS => X22.aaload hx (j := (7 : Int32)) (v := (.ref w_HEARTBEAT)) (by rw [e22]; exact Ar24.1) (State.isArrayOf_alike hZ.alike Ar24.2.1) rfl Ar24.2.2 (inb_of qs24 ⟨by decide, by decide⟩) (qh24.at (inb_of qs24 ⟨by decide, by decide⟩) rfl) (g := (mkF m 16 #[.val (.int q1), .val (.ref b_1), .val (.int (13 : Int32)), .val (.int (7 : Int32)), .val (.ref w_JOIN_GROUP)] [(.int (7 : Int32)), (.ref b_1)])) rfl rfl (hb hby d1_16) _ kS) ?_
                show own_G p.tables e below _ (T22.setTop (mkF m 17 #[.val (.int q1), .val (.ref b_1), .val (.int (13 : Int32)), .val (.int (7 : Int32)), .val (.ref w_JOIN_GROUP)] [(.ref w_HEARTBEAT)]))
                refine own_st (fun _ kS => XS.astore X22.here hx rfl (hb hby d1_17) rfl rfl (l' := #[.val (.int q1), .val (.ref b_1), .val (.int (13 : Int32)), .val (.int (7 : Int32)), .val (.ref w_HEARTBEAT)]) rfl kS) ?_
                show own_G p.tables e below _ (T22.setTop (mkF m 19 #[.val (.int q1), .val (.ref b_1), .val (.int (13 : Int32)), .val (.int (7 : Int32)), .val (.ref w_HEARTBEAT)] []))
                refine own_st (fun _ kS => XS.aload X22.here hx rfl (hb hby d1_19) rfl rfl kS) ?_
                show own_G p.tables e below _ (T22.setTop (mkF m 21 #[.val (.int q1), .val (.ref b_1), .val (.int (13 : Int32)), .val (.int (7 : Int32)), .val (.ref w_HEARTBEAT)] [(.ref w_HEARTBEAT)]))
                obtain ⟨T25, X25, e25, st25⟩ := getF X22 hx hZ hown (host := "") (Or.inl (hw _ (List.mem_of_getElem? (i := 32) rfl))) Via.refl e22 (Fld.ext O1.2 F_HEARTBEAT_id) (g := (mkF m 21 #[.val (.int q1), .val (.ref b_1), .val (.int (13 : Int32)), .val (.int (7 : Int32)), .val (.ref w_HEARTBEAT)] [(.ref w_HEARTBEAT)])) rfl rfl (hb hby d1_21)
                refine own_st st25 ?_
                show own_G p.tables e below _ (T25.setTop (mkF m 24 #[.val (.int q1), .val (.ref b_1), .val (.int (13 : Int32)), .val (.int (7 : Int32)), .val (.ref w_HEARTBEAT)] [(.int (12 : Int32))]))
                refine own_st (fun _ kS => XS.iloadN X25.here hx rfl (hb hby d1_24) rfl kS) ?_
                show own_G p.tables e below _ (T25.setTop (mkF m 25 #[.val (.int q1), .val (.ref b_1), .val (.int (13 : Int32)), .val (.int (7 : Int32)), .val (.ref w_HEARTBEAT)] [(.int q1), (.int (12 : Int32))]))
                by_cases hc25_26 : (12 : Int32) = q1
                · skip
                  refine own_st (fun _ kS => XS.icmpNo X25.here hx rfl (hb hby d1_25) rfl (teq hc25_26).2 kS) ?_
                  show own_G p.tables e below _ (T25.setTop (mkF m 28 #[.val (.int q1), .val (.ref b_1), .val (.int (13 : Int32)), .val (.int (7 : Int32)), .val (.ref w_HEARTBEAT)] []))
                  refine own_st (fun _ kS => XS.aload X25.here hx rfl (hb hby d1_28) rfl rfl kS) ?_
                  show own_G p.tables e below _ (T25.setTop (mkF m 30 #[.val (.int q1), .val (.ref b_1), .val (.int (13 : Int32)), .val (.int (7 : Int32)), .val (.ref w_HEARTBEAT)] [(.ref w_HEARTBEAT)]))
                  exact own_retA X25 hx hlk hret rfl rfl (hb hby d1_30) (by decide) (by decide) (by rw [e25]; exact ⟨(congrArg some (by rw [own_key, if_neg (fun e => hc25_5 e.symm), if_neg (fun e => hc25_8 e.symm), if_neg (fun e => hc25_11 e.symm), if_neg (fun e => hc25_14 e.symm), if_neg (fun e => hc25_17 e.symm), if_neg (fun e => hc25_20 e.symm), if_neg (fun e => hc25_23 e.symm), if_pos hc25_26.symm])), N1, K1⟩)
                · skip
                  refine own_st (fun _ kS => XS.icmpYes X25.here hx rfl (pc0 := 25) (pc' := 31) rfl (hb hby d1_25) rfl (feq hc25_26).2 (by decide) (by decide) kS) ?_
                  show own_G p.tables e below _ (T25.setTop (mkF m 31 #[.val (.int q1), .val (.ref b_1), .val (.int (13 : Int32)), .val (.int (7 : Int32)), .val (.ref w_HEARTBEAT)] []))
                  refine own_st (fun _ kS => XS.iinc X25.here hx rfl (hb hby d1_31) rfl (l' := #[.val (.int q1), .val (.ref b_1), .val (.int (13 : Int32)), .val (.int (8 : Int32)), .val (.ref w_HEARTBEAT)]) rfl kS) ?_
                  show own_G p.tables e below _ (T25.setTop (mkF m 34 #[.val (.int q1), .val (.ref b_1), .val (.int (13 : Int32)), .val (.int (8 : Int32)), .val (.ref w_HEARTBEAT)] []))
                  refine own_st (fun _ kS => XS.goto X25.here hx rfl (pc0 := 34) (pc' := 9) rfl (hb hby d1_34) (by decide) (by decide) kS) ?_
                  show own_G p.tables e below _ (T25.setTop (mkF m 9 #[.val (.int q1), .val (.ref b_1), .val (.int (13 : Int32)), .val (.int (8 : Int32)), .val (.ref w_HEARTBEAT)] []))
                  refine own_st (fun _ kS => XS.iloadN X25.here hx rfl (hb hby d1_9) rfl kS) ?_
                  show own_G p.tables e below _ (T25.setTop (mkF m 10 #[.val (.int q1), .val (.ref b_1), .val (.int (13 : Int32)), .val (.int (8 : Int32)), .val (.ref w_HEARTBEAT)] [(.int (8 : Int32))]))
                  refine own_st (fun _ kS => XS.iloadN X25.here hx rfl (hb hby d1_10) rfl kS) ?_
                  show own_G p.tables e below _ (T25.setTop (mkF m 11 #[.val (.int q1), .val (.ref b_1), .val (.int (13 : Int32)), .val (.int (8 : Int32)), .val (.ref w_HEARTBEAT)] [(.int (13 : Int32)), (.int (8 : Int32))]))
                  refine own_st (fun _ kS => XS.icmpNo X25.here hx rfl (hb hby d1_11) rfl (tlt (by decide : (8 : Int32) < (13 : Int32))).2.1 kS) ?_
                  show own_G p.tables e below _ (T25.setTop (mkF m 14 #[.val (.int q1), .val (.ref b_1), .val (.int (13 : Int32)), .val (.int (8 : Int32)), .val (.ref w_HEARTBEAT)] []))
                  refine own_st (fun _ kS => XS.aloadN X25.here hx rfl (hb hby d1_14) rfl rfl kS) ?_
                  show own_G p.tables e below _ (T25.setTop (mkF m 15 #[.val (.int q1), .val (.ref b_1), .val (.int (13 : Int32)), .val (.int (8 : Int32)), .val (.ref w_HEARTBEAT)] [(.ref b_1)]))
                  refine own_st (fun _ kS => XS.iloadN X25.here hx rfl (hb hby d1_15) rfl kS) ?_
                  show own_G p.tables e below _ (T25.setTop (mkF m 16 #[.val (.int q1), .val (.ref b_1), .val (.int (13 : Int32)), .val (.int (8 : Int32)), .val (.ref w_HEARTBEAT)] [(.int (8 : Int32)), (.ref b_1)]))
                  obtain ⟨cl27, Ar27, qa27, qs27, qn27, qh27, qg27⟩ := id P1_1
                  refine own_st (fun _ kS => X25.aaload hx (j := (8 : Int32)) (v := (.ref w_LEAVE_GROUP)) (by rw [e25]; exact Ar27.1) (State.isArrayOf_alike hZ.alike Ar27.2.1) rfl Ar27.2.2 (inb_of qs27 ⟨by decide, by decide⟩) (qh27.at (inb_of qs27 ⟨by decide, by decide⟩) rfl) (g := (mkF m 16 #[.val (.int q1), .val (.ref b_1), .val (.int (13 : Int32)), .val (.int (8 : Int32)), .val (.ref w_HEARTBEAT)] [(.int (8 : Int32)), (.ref b_1)])) rfl rfl (hb hby d1_16) _ kS) ?_
                  show own_G p.tables e below _ (T25.setTop (mkF m 17 #[.val (.int q1), .val (.ref b_1), .val (.int (13 : Int32)), .val (.int (8 : Int32)), .val (.ref w_HEARTBEAT)] [(.ref w_LEAVE_GROUP)]))
                  refine own_st (fun _ kS => XS.astore X25.here hx rfl (hb hby d1_17) rfl rfl (l' := #[.val (.int q1), .val (.ref b_1), .val (.int (13 : Int32)), .val (.int (8 : Int32)), .val (.ref w_LEAVE_GROUP)]) rfl kS) ?_
                  show own_G p.tables e below _ (T25.setTop (mkF m 19 #[.val (.int q1), .val (.ref b_1), .val (.int (13 : Int32)), .val (.int (8 : Int32)), .val (.ref w_LEAVE_GROUP)] []))
                  refine own_st (fun _ kS => XS.aload X25.here hx rfl (hb hby d1_19) rfl rfl kS) ?_
                  show own_G p.tables e below _ (T25.setTop (mkF m 21 #[.val (.int q1), .val (.ref b_1), .val (.int (13 : Int32)), .val (.int (8 : Int32)), .val (.ref w_LEAVE_GROUP)] [(.ref w_LEAVE_GROUP)]))
                  obtain ⟨T28, X28, e28, st28⟩ := getF X25 hx hZ hown (host := "") (Or.inl (hw _ (List.mem_of_getElem? (i := 32) rfl))) Via.refl e25 (Fld.ext O1.2 F_LEAVE_GROUP_id) (g := (mkF m 21 #[.val (.int q1), .val (.ref b_1), .val (.int (13 : Int32)), .val (.int (8 : Int32)), .val (.ref w_LEAVE_GROUP)] [(.ref w_LEAVE_GROUP)])) rfl rfl (hb hby d1_21)
                  refine own_st st28 ?_
                  show own_G p.tables e below _ (T28.setTop (mkF m 24 #[.val (.int q1), .val (.ref b_1), .val (.int (13 : Int32)), .val (.int (8 : Int32)), .val (.ref w_LEAVE_GROUP)] [(.int (13 : Int32))]))
                  refine own_st (fun _ kS => XS.iloadN X28.here hx rfl (hb hby d1_24) rfl kS) ?_
                  show own_G p.tables e below _ (T28.setTop (mkF m 25 #[.val (.int q1), .val (.ref b_1), .val (.int (13 : Int32)), .val (.int (8 : Int32)), .val (.ref w_LEAVE_GROUP)] [(.int q1), (.int (13 : Int32))]))
                  by_cases hc25_29 : (13 : Int32) = q1
                  · skip
                    refine own_st (fun _ kS => XS.icmpNo X28.here hx rfl (hb hby d1_25) rfl (teq hc25_29).2 kS) ?_
                    show own_G p.tables e below _ (T28.setTop (mkF m 28 #[.val (.int q1), .val (.ref b_1), .val (.int (13 : Int32)), .val (.int (8 : Int32)), .val (.ref w_LEAVE_GROUP)] []))
                    refine own_st (fun _ kS => XS.aload X28.here hx rfl (hb hby d1_28) rfl rfl kS) ?_
                    show own_G p.tables e below _ (T28.setTop (mkF m 30 #[.val (.int q1), .val (.ref b_1), .val (.int (13 : Int32)), .val (.int (8 : Int32)), .val (.ref w_LEAVE_GROUP)] [(.ref w_LEAVE_GROUP)]))
                    exact own_retA X28 hx hlk hret rfl rfl (hb hby d1_30) (by decide) (by decide) (by rw [e28]; exact ⟨(congrArg some (by rw [own_key, if_neg (fun e => hc25_5 e.symm), if_neg (fun e => hc25_8 e.symm), if_neg (fun e => hc25_11 e.symm), if_neg (fun e => hc25_14 e.symm), if_neg (fun e => hc25_17 e.symm), if_neg (fun e => hc25_20 e.symm), if_neg (fun e => hc25_23 e.symm), if_neg (fun e => hc25_26 e.symm), if_pos hc25_29.symm])), N1, K1⟩)
                  · skip
                    refine own_st (fun _ kS => XS.icmpYes X28.here hx rfl (pc0 := 25) (pc' := 31) rfl (hb hby d1_25) rfl (feq hc25_29).2 (by decide) (by decide) kS) ?_
                    show own_G p.tables e below _ (T28.setTop (mkF m 31 #[.val (.int q1), .val (.ref b_1), .val (.int (13 : Int32)), .val (.int (8 : Int32)), .val (.ref w_LEAVE_GROUP)] []))
                    refine own_st (fun _ kS => XS.iinc X28.here hx rfl (hb hby d1_31) rfl (l' := #[.val (.int q1), .val (.ref b_1), .val (.int (13 : Int32)), .val (.int (9 : Int32)), .val (.ref w_LEAVE_GROUP)]) rfl kS) ?_
                    show own_G p.tables e below _ (T28.setTop (mkF m 34 #[.val (.int q1), .val (.ref b_1), .val (.int (13 : Int32)), .val (.int (9 : Int32)), .val (.ref w_LEAVE_GROUP)] []))
                    refine own_st (fun _ kS => XS.goto X28.here hx rfl (pc0 := 34) (pc' := 9) rfl (hb hby d1_34) (by decide) (by decide) kS) ?_
                    show own_G p.tables e below _ (T28.setTop (mkF m 9 #[.val (.int q1), .val (.ref b_1), .val (.int (13 : Int32)), .val (.int (9 : Int32)), .val (.ref w_LEAVE_GROUP)] []))
                    refine own_st (fun _ kS => XS.iloadN X28.here hx rfl (hb hby d1_9) rfl kS) ?_
                    show own_G p.tables e below _ (T28.setTop (mkF m 10 #[.val (.int q1), .val (.ref b_1), .val (.int (13 : Int32)), .val (.int (9 : Int32)), .val (.ref w_LEAVE_GROUP)] [(.int (9 : Int32))]))
                    refine own_st (fun _ kS => XS.iloadN X28.here hx rfl (hb hby d1_10) rfl kS) ?_
                    show own_G p.tables e below _ (T28.setTop (mkF m 11 #[.val (.int q1), .val (.ref b_1), .val (.int (13 : Int32)), .val (.int (9 : Int32)), .val (.ref w_LEAVE_GROUP)] [(.int (13 : Int32)), (.int (9 : Int32))]))
                    refine own_st (fun _ kS => XS.icmpNo X28.here hx rfl (hb hby d1_11) rfl (tlt (by decide : (9 : Int32) < (13 : Int32))).2.1 kS) ?_
                    show own_G p.tables e below _ (T28.setTop (mkF m 14 #[.val (.int q1), .val (.ref b_1), .val (.int (13 : Int32)), .val (.int (9 : Int32)), .val (.ref w_LEAVE_GROUP)] []))
                    refine own_st (fun _ kS => XS.aloadN X28.here hx rfl (hb hby d1_14) rfl rfl kS) ?_
                    show own_G p.tables e below _ (T28.setTop (mkF m 15 #[.val (.int q1), .val (.ref b_1), .val (.int (13 : Int32)), .val (.int (9 : Int32)), .val (.ref w_LEAVE_GROUP)] [(.ref b_1)]))
                    refine own_st (fun _ kS => XS.iloadN X28.here hx rfl (hb hby d1_15) rfl kS) ?_
                    show own_G p.tables e below _ (T28.setTop (mkF m 16 #[.val (.int q1), .val (.ref b_1), .val (.int (13 : Int32)), .val (.int (9 : Int32)), .val (.ref w_LEAVE_GROUP)] [(.int (9 : Int32)), (.ref b_1)]))
                    obtain ⟨cl30, Ar30, qa30, qs30, qn30, qh30, qg30⟩ := id P1_1
                    refine own_st (fun _ kS => X28.aaload hx (j := (9 : Int32)) (v := (.ref w_SYNC_GROUP)) (by rw [e28]; exact Ar30.1) (State.isArrayOf_alike hZ.alike Ar30.2.1) rfl Ar30.2.2 (inb_of qs30 ⟨by decide, by decide⟩) (qh30.at (inb_of qs30 ⟨by decide, by decide⟩) rfl) (g := (mkF m 16 #[.val (.int q1), .val (.ref b_1), .val (.int (13 : Int32)), .val (.int (9 : Int32)), .val (.ref w_LEAVE_GROUP)] [(.int (9 : Int32)), (.ref b_1)])) rfl rfl (hb hby d1_16) _ kS) ?_
                    show own_G p.tables e below _ (T28.setTop (mkF m 17 #[.val (.int q1), .val (.ref b_1), .val (.int (13 : Int32)), .val (.int (9 : Int32)), .val (.ref w_LEAVE_GROUP)] [(.ref w_SYNC_GROUP)]))
                    refine own_st (fun _ kS => XS.astore X28.here hx rfl (hb hby d1_17) rfl rfl (l' := #[.val (.int q1), .val (.ref b_1), .val (.int (13 : Int32)), .val (.int (9 : Int32)), .val (.ref w_SYNC_GROUP)]) rfl kS) ?_
                    show own_G p.tables e below _ (T28.setTop (mkF m 19 #[.val (.int q1), .val (.ref b_1), .val (.int (13 : Int32)), .val (.int (9 : Int32)), .val (.ref w_SYNC_GROUP)] []))
                    refine own_st (fun _ kS => XS.aload X28.here hx rfl (hb hby d1_19) rfl rfl kS) ?_
                    show own_G p.tables e below _ (T28.setTop (mkF m 21 #[.val (.int q1), .val (.ref b_1), .val (.int (13 : Int32)), .val (.int (9 : Int32)), .val (.ref w_SYNC_GROUP)] [(.ref w_SYNC_GROUP)]))
                    obtain ⟨T31, X31, e31, st31⟩ := getF X28 hx hZ hown (host := "") (Or.inl (hw _ (List.mem_of_getElem? (i := 32) rfl))) Via.refl e28 (Fld.ext O1.2 F_SYNC_GROUP_id) (g := (mkF m 21 #[.val (.int q1), .val (.ref b_1), .val (.int (13 : Int32)), .val (.int (9 : Int32)), .val (.ref w_SYNC_GROUP)] [(.ref w_SYNC_GROUP)])) rfl rfl (hb hby d1_21)
                    refine own_st st31 ?_
                    show own_G p.tables e below _ (T31.setTop (mkF m 24 #[.val (.int q1), .val (.ref b_1), .val (.int (13 : Int32)), .val (.int (9 : Int32)), .val (.ref w_SYNC_GROUP)] [(.int (14 : Int32))]))
                    refine own_st (fun _ kS => XS.iloadN X31.here hx rfl (hb hby d1_24) rfl kS) ?_
                    show own_G p.tables e below _ (T31.setTop (mkF m 25 #[.val (.int q1), .val (.ref b_1), .val (.int (13 : Int32)), .val (.int (9 : Int32)), .val (.ref w_SYNC_GROUP)] [(.int q1), (.int (14 : Int32))]))
                    by_cases hc25_32 : (14 : Int32) = q1
                    · skip
                      refine own_st (fun _ kS => XS.icmpNo X31.here hx rfl (hb hby d1_25) rfl (teq hc25_32).2 kS) ?_
                      show own_G p.tables e below _ (T31.setTop (mkF m 28 #[.val (.int q1), .val (.ref b_1), .val (.int (13 : Int32)), .val (.int (9 : Int32)), .val (.ref w_SYNC_GROUP)] []))
                      refine own_st (fun _ kS => XS.aload X31.here hx rfl (hb hby d1_28) rfl rfl kS) ?_
                      show own_G p.tables e below _ (T31.setTop (mkF m 30 #[.val (.int q1), .val (.ref b_1), .val (.int (13 : Int32)), .val (.int (9 : Int32)), .val (.ref w_SYNC_GROUP)] [(.ref w_SYNC_GROUP)]))
                      exact own_retA X31 hx hlk hret rfl rfl (hb hby d1_30) (by decide) (by decide) (by rw [e31]; exact ⟨(congrArg some (by rw [own_key, if_neg (fun e => hc25_5 e.symm), if_neg (fun e => hc25_8 e.symm), if_neg (fun e => hc25_11 e.symm), if_neg (fun e => hc25_14 e.symm), if_neg (fun e => hc25_17 e.symm), if_neg (fun e => hc25_20 e.symm), if_neg (fun e => hc25_23 e.symm), if_neg (fun e => hc25_26 e.symm), if_neg (fun e => hc25_29 e.symm), if_pos hc25_32.symm])), N1, K1⟩)
                    · skip
                      refine own_st (fun _ kS => XS.icmpYes X31.here hx rfl (pc0 := 25) (pc' := 31) rfl (hb hby d1_25) rfl (feq hc25_32).2 (by decide) (by decide) kS) ?_
                      show own_G p.tables e below _ (T31.setTop (mkF m 31 #[.val (.int q1), .val (.ref b_1), .val (.int (13 : Int32)), .val (.int (9 : Int32)), .val (.ref w_SYNC_GROUP)] []))
                      refine own_st (fun _ kS => XS.iinc X31.here hx rfl (hb hby d1_31) rfl (l' := #[.val (.int q1), .val (.ref b_1), .val (.int (13 : Int32)), .val (.int (10 : Int32)), .val (.ref w_SYNC_GROUP)]) rfl kS) ?_
                      show own_G p.tables e below _ (T31.setTop (mkF m 34 #[.val (.int q1), .val (.ref b_1), .val (.int (13 : Int32)), .val (.int (10 : Int32)), .val (.ref w_SYNC_GROUP)] []))
                      refine own_st (fun _ kS => XS.goto X31.here hx rfl (pc0 := 34) (pc' := 9) rfl (hb hby d1_34) (by decide) (by decide) kS) ?_
                      show own_G p.tables e below _ (T31.setTop (mkF m 9 #[.val (.int q1), .val (.ref b_1), .val (.int (13 : Int32)), .val (.int (10 : Int32)), .val (.ref w_SYNC_GROUP)] []))
                      refine own_st (fun _ kS => XS.iloadN X31.here hx rfl (hb hby d1_9) rfl kS) ?_
                      show own_G p.tables e below _ (T31.setTop (mkF m 10 #[.val (.int q1), .val (.ref b_1), .val (.int (13 : Int32)), .val (.int (10 : Int32)), .val (.ref w_SYNC_GROUP)] [(.int (10 : Int32))]))
                      refine own_st (fun _ kS => XS.iloadN X31.here hx rfl (hb hby d1_10) rfl kS) ?_
                      show own_G p.tables e below _ (T31.setTop (mkF m 11 #[.val (.int q1), .val (.ref b_1), .val (.int (13 : Int32)), .val (.int (10 : Int32)), .val (.ref w_SYNC_GROUP)] [(.int (13 : Int32)), (.int (10 : Int32))]))
                      refine own_st (fun _ kS => XS.icmpNo X31.here hx rfl (hb hby d1_11) rfl (tlt (by decide : (10 : Int32) < (13 : Int32))).2.1 kS) ?_
                      show own_G p.tables e below _ (T31.setTop (mkF m 14 #[.val (.int q1), .val (.ref b_1), .val (.int (13 : Int32)), .val (.int (10 : Int32)), .val (.ref w_SYNC_GROUP)] []))
                      refine own_st (fun _ kS => XS.aloadN X31.here hx rfl (hb hby d1_14) rfl rfl kS) ?_
                      show own_G p.tables e below _ (T31.setTop (mkF m 15 #[.val (.int q1), .val (.ref b_1), .val (.int (13 : Int32)), .val (.int (10 : Int32)), .val (.ref w_SYNC_GROUP)] [(.ref b_1)]))
                      refine own_st (fun _ kS => XS.iloadN X31.here hx rfl (hb hby d1_15) rfl kS) ?_
                      show own_G p.tables e below _ (T31.setTop (mkF m 16 #[.val (.int q1), .val (.ref b_1), .val (.int (13 : Int32)), .val (.int (10 : Int32)), .val (.ref w_SYNC_GROUP)] [(.int (10 : Int32)), (.ref b_1)]))
                      obtain ⟨cl33, Ar33, qa33, qs33, qn33, qh33, qg33⟩ := id P1_1
                      refine own_st (fun _ kS => X31.aaload hx (j := (10 : Int32)) (v := (.ref w_DESCRIBE_GROUPS)) (by rw [e31]; exact Ar33.1) (State.isArrayOf_alike hZ.alike Ar33.2.1) rfl Ar33.2.2 (inb_of qs33 ⟨by decide, by decide⟩) (qh33.at (inb_of qs33 ⟨by decide, by decide⟩) rfl) (g := (mkF m 16 #[.val (.int q1), .val (.ref b_1), .val (.int (13 : Int32)), .val (.int (10 : Int32)), .val (.ref w_SYNC_GROUP)] [(.int (10 : Int32)), (.ref b_1)])) rfl rfl (hb hby d1_16) _ kS) ?_
                      show own_G p.tables e below _ (T31.setTop (mkF m 17 #[.val (.int q1), .val (.ref b_1), .val (.int (13 : Int32)), .val (.int (10 : Int32)), .val (.ref w_SYNC_GROUP)] [(.ref w_DESCRIBE_GROUPS)]))
                      refine own_st (fun _ kS => XS.astore X31.here hx rfl (hb hby d1_17) rfl rfl (l' := #[.val (.int q1), .val (.ref b_1), .val (.int (13 : Int32)), .val (.int (10 : Int32)), .val (.ref w_DESCRIBE_GROUPS)]) rfl kS) ?_
                      show own_G p.tables e below _ (T31.setTop (mkF m 19 #[.val (.int q1), .val (.ref b_1), .val (.int (13 : Int32)), .val (.int (10 : Int32)), .val (.ref w_DESCRIBE_GROUPS)] []))
                      refine own_st (fun _ kS => XS.aload X31.here hx rfl (hb hby d1_19) rfl rfl kS) ?_
                      show own_G p.tables e below _ (T31.setTop (mkF m 21 #[.val (.int q1), .val (.ref b_1), .val (.int (13 : Int32)), .val (.int (10 : Int32)), .val (.ref w_DESCRIBE_GROUPS)] [(.ref w_DESCRIBE_GROUPS)]))
                      obtain ⟨T34, X34, e34, st34⟩ := getF X31 hx hZ hown (host := "") (Or.inl (hw _ (List.mem_of_getElem? (i := 32) rfl))) Via.refl e31 (Fld.ext O1.2 F_DESCRIBE_GROUPS_id) (g := (mkF m 21 #[.val (.int q1), .val (.ref b_1), .val (.int (13 : Int32)), .val (.int (10 : Int32)), .val (.ref w_DESCRIBE_GROUPS)] [(.ref w_DESCRIBE_GROUPS)])) rfl rfl (hb hby d1_21)
                      refine own_st st34 ?_
                      show own_G p.tables e below _ (T34.setTop (mkF m 24 #[.val (.int q1), .val (.ref b_1), .val (.int (13 : Int32)), .val (.int (10 : Int32)), .val (.ref w_DESCRIBE_GROUPS)] [(.int (15 : Int32))]))
                      refine own_st (fun _ kS => XS.iloadN X34.here hx rfl (hb hby d1_24) rfl kS) ?_
                      show own_G p.tables e below _ (T34.setTop (mkF m 25 #[.val (.int q1), .val (.ref b_1), .val (.int (13 : Int32)), .val (.int (10 : Int32)), .val (.ref w_DESCRIBE_GROUPS)] [(.int q1), (.int (15 : Int32))]))
                      by_cases hc25_35 : (15 : Int32) = q1
                      · skip
                        refine own_st (fun _ kS => XS.icmpNo X34.here hx rfl (hb hby d1_25) rfl (teq hc25_35).2 kS) ?_
                        show own_G p.tables e below _ (T34.setTop (mkF m 28 #[.val (.int q1), .val (.ref b_1), .val (.int (13 : Int32)), .val (.int (10 : Int32)), .val (.ref w_DESCRIBE_GROUPS)] []))
                        refine own_st (fun _ kS => XS.aload X34.here hx rfl (hb hby d1_28) rfl rfl kS) ?_
                        show own_G p.tables e below _ (T34.setTop (mkF m 30 #[.val (.int q1), .val (.ref b_1), .val (.int (13 : Int32)), .val (.int (10 : Int32)), .val (.ref w_DESCRIBE_GROUPS)] [(.ref w_DESCRIBE_GROUPS)]))
                        exact own_retA X34 hx hlk hret rfl rfl (hb hby d1_30) (by decide) (by decide) (by rw [e34]; exact ⟨(congrArg some (by rw [own_key, if_neg (fun e => hc25_5 e.symm), if_neg (fun e => hc25_8 e.symm), if_neg (fun e => hc25_11 e.symm), if_neg (fun e => hc25_14 e.symm), if_neg (fun e => hc25_17 e.symm), if_neg (fun e => hc25_20 e.symm), if_neg (fun e => hc25_23 e.symm), if_neg (fun e => hc25_26 e.symm), if_neg (fun e => hc25_29 e.symm), if_neg (fun e => hc25_32 e.symm), if_pos hc25_35.symm])), N1, K1⟩)
                      · skip
                        refine own_st (fun _ kS => XS.icmpYes X34.here hx rfl (pc0 := 25) (pc' := 31) rfl (hb hby d1_25) rfl (feq hc25_35).2 (by decide) (by decide) kS) ?_
                        show own_G p.tables e below _ (T34.setTop (mkF m 31 #[.val (.int q1), .val (.ref b_1), .val (.int (13 : Int32)), .val (.int (10 : Int32)), .val (.ref w_DESCRIBE_GROUPS)] []))
                        refine own_st (fun _ kS => XS.iinc X34.here hx rfl (hb hby d1_31) rfl (l' := #[.val (.int q1), .val (.ref b_1), .val (.int (13 : Int32)), .val (.int (11 : Int32)), .val (.ref w_DESCRIBE_GROUPS)]) rfl kS) ?_
                        show own_G p.tables e below _ (T34.setTop (mkF m 34 #[.val (.int q1), .val (.ref b_1), .val (.int (13 : Int32)), .val (.int (11 : Int32)), .val (.ref w_DESCRIBE_GROUPS)] []))
                        refine own_st (fun _ kS => XS.goto X34.here hx rfl (pc0 := 34) (pc' := 9) rfl (hb hby d1_34) (by decide) (by decide) kS) ?_
                        show own_G p.tables e below _ (T34.setTop (mkF m 9 #[.val (.int q1), .val (.ref b_1), .val (.int (13 : Int32)), .val (.int (11 : Int32)), .val (.ref w_DESCRIBE_GROUPS)] []))
                        refine own_st (fun _ kS => XS.iloadN X34.here hx rfl (hb hby d1_9) rfl kS) ?_
                        show own_G p.tables e below _ (T34.setTop (mkF m 10 #[.val (.int q1), .val (.ref b_1), .val (.int (13 : Int32)), .val (.int (11 : Int32)), .val (.ref w_DESCRIBE_GROUPS)] [(.int (11 : Int32))]))
                        refine own_st (fun _ kS => XS.iloadN X34.here hx rfl (hb hby d1_10) rfl kS) ?_
                        show own_G p.tables e below _ (T34.setTop (mkF m 11 #[.val (.int q1), .val (.ref b_1), .val (.int (13 : Int32)), .val (.int (11 : Int32)), .val (.ref w_DESCRIBE_GROUPS)] [(.int (13 : Int32)), (.int (11 : Int32))]))
                        refine own_st (fun _ kS => XS.icmpNo X34.here hx rfl (hb hby d1_11) rfl (tlt (by decide : (11 : Int32) < (13 : Int32))).2.1 kS) ?_
                        show own_G p.tables e below _ (T34.setTop (mkF m 14 #[.val (.int q1), .val (.ref b_1), .val (.int (13 : Int32)), .val (.int (11 : Int32)), .val (.ref w_DESCRIBE_GROUPS)] []))
                        refine own_st (fun _ kS => XS.aloadN X34.here hx rfl (hb hby d1_14) rfl rfl kS) ?_
                        show own_G p.tables e below _ (T34.setTop (mkF m 15 #[.val (.int q1), .val (.ref b_1), .val (.int (13 : Int32)), .val (.int (11 : Int32)), .val (.ref w_DESCRIBE_GROUPS)] [(.ref b_1)]))
                        refine own_st (fun _ kS => XS.iloadN X34.here hx rfl (hb hby d1_15) rfl kS) ?_
                        show own_G p.tables e below _ (T34.setTop (mkF m 16 #[.val (.int q1), .val (.ref b_1), .val (.int (13 : Int32)), .val (.int (11 : Int32)), .val (.ref w_DESCRIBE_GROUPS)] [(.int (11 : Int32)), (.ref b_1)]))
                        obtain ⟨cl36, Ar36, qa36, qs36, qn36, qh36, qg36⟩ := id P1_1
                        refine own_st (fun _ kS => X34.aaload hx (j := (11 : Int32)) (v := (.ref w_LIST_GROUPS)) (by rw [e34]; exact Ar36.1) (State.isArrayOf_alike hZ.alike Ar36.2.1) rfl Ar36.2.2 (inb_of qs36 ⟨by decide, by decide⟩) (qh36.at (inb_of qs36 ⟨by decide, by decide⟩) rfl) (g := (mkF m 16 #[.val (.int q1), .val (.ref b_1), .val (.int (13 : Int32)), .val (.int (11 : Int32)), .val (.ref w_DESCRIBE_GROUPS)] [(.int (11 : Int32)), (.ref b_1)])) rfl rfl (hb hby d1_16) _ kS) ?_
                        show own_G p.tables e below _ (T34.setTop (mkF m 17 #[.val (.int q1), .val (.ref b_1), .val (.int (13 : Int32)), .val (.int (11 : Int32)), .val (.ref w_DESCRIBE_GROUPS)] [(.ref w_LIST_GROUPS)]))
                        refine own_st (fun _ kS => XS.astore X34.here hx rfl (hb hby d1_17) rfl rfl (l' := #[.val (.int q1), .val (.ref b_1), .val (.int (13 : Int32)), .val (.int (11 : Int32)), .val (.ref w_LIST_GROUPS)]) rfl kS) ?_
                        show own_G p.tables e below _ (T34.setTop (mkF m 19 #[.val (.int q1), .val (.ref b_1), .val (.int (13 : Int32)), .val (.int (11 : Int32)), .val (.ref w_LIST_GROUPS)] []))
                        refine own_st (fun _ kS => XS.aload X34.here hx rfl (hb hby d1_19) rfl rfl kS) ?_
                        show own_G p.tables e below _ (T34.setTop (mkF m 21 #[.val (.int q1), .val (.ref b_1), .val (.int (13 : Int32)), .val (.int (11 : Int32)), .val (.ref w_LIST_GROUPS)] [(.ref w_LIST_GROUPS)]))
                        obtain ⟨T37, X37, e37, st37⟩ := getF X34 hx hZ hown (host := "") (Or.inl (hw _ (List.mem_of_getElem? (i := 32) rfl))) Via.refl e34 (Fld.ext O1.2 F_LIST_GROUPS_id) (g := (mkF m 21 #[.val (.int q1), .val (.ref b_1), .val (.int (13 : Int32)), .val (.int (11 : Int32)), .val (.ref w_LIST_GROUPS)] [(.ref w_LIST_GROUPS)])) rfl rfl (hb hby d1_21)
                        refine own_st st37 ?_
                        show own_G p.tables e below _ (T37.setTop (mkF m 24 #[.val (.int q1), .val (.ref b_1), .val (.int (13 : Int32)), .val (.int (11 : Int32)), .val (.ref w_LIST_GROUPS)] [(.int (16 : Int32))]))
                        refine own_st (fun _ kS => XS.iloadN X37.here hx rfl (hb hby d1_24) rfl kS) ?_
                        show own_G p.tables e below _ (T37.setTop (mkF m 25 #[.val (.int q1), .val (.ref b_1), .val (.int (13 : Int32)), .val (.int (11 : Int32)), .val (.ref w_LIST_GROUPS)] [(.int q1), (.int (16 : Int32))]))
                        by_cases hc25_38 : (16 : Int32) = q1
                        · skip
                          refine own_st (fun _ kS => XS.icmpNo X37.here hx rfl (hb hby d1_25) rfl (teq hc25_38).2 kS) ?_
                          show own_G p.tables e below _ (T37.setTop (mkF m 28 #[.val (.int q1), .val (.ref b_1), .val (.int (13 : Int32)), .val (.int (11 : Int32)), .val (.ref w_LIST_GROUPS)] []))
                          refine own_st (fun _ kS => XS.aload X37.here hx rfl (hb hby d1_28) rfl rfl kS) ?_
                          show own_G p.tables e below _ (T37.setTop (mkF m 30 #[.val (.int q1), .val (.ref b_1), .val (.int (13 : Int32)), .val (.int (11 : Int32)), .val (.ref w_LIST_GROUPS)] [(.ref w_LIST_GROUPS)]))
                          exact own_retA X37 hx hlk hret rfl rfl (hb hby d1_30) (by decide) (by decide) (by rw [e37]; exact ⟨(congrArg some (by rw [own_key, if_neg (fun e => hc25_5 e.symm), if_neg (fun e => hc25_8 e.symm), if_neg (fun e => hc25_11 e.symm), if_neg (fun e => hc25_14 e.symm), if_neg (fun e => hc25_17 e.symm), if_neg (fun e => hc25_20 e.symm), if_neg (fun e => hc25_23 e.symm), if_neg (fun e => hc25_26 e.symm), if_neg (fun e => hc25_29 e.symm), if_neg (fun e => hc25_32 e.symm), if_neg (fun e => hc25_35 e.symm), if_pos hc25_38.symm])), N1, K1⟩)
                        · skip
                          refine own_st (fun _ kS => XS.icmpYes X37.here hx rfl (pc0 := 25) (pc' := 31) rfl (hb hby d1_25) rfl (feq hc25_38).2 (by decide) (by decide) kS) ?_
                          show own_G p.tables e below _ (T37.setTop (mkF m 31 #[.val (.int q1), .val (.ref b_1), .val (.int (13 : Int32)), .val (.int (11 : Int32)), .val (.ref w_LIST_GROUPS)] []))
                          refine own_st (fun _ kS => XS.iinc X37.here hx rfl (hb hby d1_31) rfl (l' := #[.val (.int q1), .val (.ref b_1), .val (.int (13 : Int32)), .val (.int (12 : Int32)), .val (.ref w_LIST_GROUPS)]) rfl kS) ?_
                          show own_G p.tables e below _ (T37.setTop (mkF m 34 #[.val (.int q1), .val (.ref b_1), .val (.int (13 : Int32)), .val (.int (12 : Int32)), .val (.ref w_LIST_GROUPS)] []))
                          refine own_st (fun _ kS => XS.goto X37.here hx rfl (pc0 := 34) (pc' := 9) rfl (hb hby d1_34) (by decide) (by decide) kS) ?_
                          show own_G p.tables e below _ (T37.setTop (mkF m 9 #[.val (.int q1), .val (.ref b_1), .val (.int (13 : Int32)), .val (.int (12 : Int32)), .val (.ref w_LIST_GROUPS)] []))
                          refine own_st (fun _ kS => XS.iloadN X37.here hx rfl (hb hby d1_9) rfl kS) ?_
                          show own_G p.tables e below _ (T37.setTop (mkF m 10 #[.val (.int q1), .val (.ref b_1), .val (.int (13 : Int32)), .val (.int (12 : Int32)), .val (.ref w_LIST_GROUPS)] [(.int (12 : Int32))]))
                          refine own_st (fun _ kS => XS.iloadN X37.here hx rfl (hb hby d1_10) rfl kS) ?_
                          show own_G p.tables e below _ (T37.setTop (mkF m 11 #[.val (.int q1), .val (.ref b_1), .val (.int (13 : Int32)), .val (.int (12 : Int32)), .val (.ref w_LIST_GROUPS)] [(.int (13 : Int32)), (.int (12 : Int32))]))
                          refine own_st (fun _ kS => XS.icmpNo X37.here hx rfl (hb hby d1_11) rfl (tlt (by decide : (12 : Int32) < (13 : Int32))).2.1 kS) ?_
                          show own_G p.tables e below _ (T37.setTop (mkF m 14 #[.val (.int q1), .val (.ref b_1), .val (.int (13 : Int32)), .val (.int (12 : Int32)), .val (.ref w_LIST_GROUPS)] []))
                          refine own_st (fun _ kS => XS.aloadN X37.here hx rfl (hb hby d1_14) rfl rfl kS) ?_
                          show own_G p.tables e below _ (T37.setTop (mkF m 15 #[.val (.int q1), .val (.ref b_1), .val (.int (13 : Int32)), .val (.int (12 : Int32)), .val (.ref w_LIST_GROUPS)] [(.ref b_1)]))
                          refine own_st (fun _ kS => XS.iloadN X37.here hx rfl (hb hby d1_15) rfl kS) ?_
                          show own_G p.tables e below _ (T37.setTop (mkF m 16 #[.val (.int q1), .val (.ref b_1), .val (.int (13 : Int32)), .val (.int (12 : Int32)), .val (.ref w_LIST_GROUPS)] [(.int (12 : Int32)), (.ref b_1)]))
                          obtain ⟨cl39, Ar39, qa39, qs39, qn39, qh39, qg39⟩ := id P1_1
                          refine own_st (fun _ kS => X37.aaload hx (j := (12 : Int32)) (v := (.ref w_API_VERSIONS)) (by rw [e37]; exact Ar39.1) (State.isArrayOf_alike hZ.alike Ar39.2.1) rfl Ar39.2.2 (inb_of qs39 ⟨by decide, by decide⟩) (qh39.at (inb_of qs39 ⟨by decide, by decide⟩) rfl) (g := (mkF m 16 #[.val (.int q1), .val (.ref b_1), .val (.int (13 : Int32)), .val (.int (12 : Int32)), .val (.ref w_LIST_GROUPS)] [(.int (12 : Int32)), (.ref b_1)])) rfl rfl (hb hby d1_16) _ kS) ?_
                          show own_G p.tables e below _ (T37.setTop (mkF m 17 #[.val (.int q1), .val (.ref b_1), .val (.int (13 : Int32)), .val (.int (12 : Int32)), .val (.ref w_LIST_GROUPS)] [(.ref w_API_VERSIONS)]))
                          refine own_st (fun _ kS => XS.astore X37.here hx rfl (hb hby d1_17) rfl rfl (l' := #[.val (.int q1), .val (.ref b_1), .val (.int (13 : Int32)), .val (.int (12 : Int32)), .val (.ref w_API_VERSIONS)]) rfl kS) ?_
                          show own_G p.tables e below _ (T37.setTop (mkF m 19 #[.val (.int q1), .val (.ref b_1), .val (.int (13 : Int32)), .val (.int (12 : Int32)), .val (.ref w_API_VERSIONS)] []))
                          refine own_st (fun _ kS => XS.aload X37.here hx rfl (hb hby d1_19) rfl rfl kS) ?_
                          show own_G p.tables e below _ (T37.setTop (mkF m 21 #[.val (.int q1), .val (.ref b_1), .val (.int (13 : Int32)), .val (.int (12 : Int32)), .val (.ref w_API_VERSIONS)] [(.ref w_API_VERSIONS)]))
                          obtain ⟨T40, X40, e40, st40⟩ := getF X37 hx hZ hown (host := "") (Or.inl (hw _ (List.mem_of_getElem? (i := 32) rfl))) Via.refl e37 (Fld.ext O1.2 F_API_VERSIONS_id) (g := (mkF m 21 #[.val (.int q1), .val (.ref b_1), .val (.int (13 : Int32)), .val (.int (12 : Int32)), .val (.ref w_API_VERSIONS)] [(.ref w_API_VERSIONS)])) rfl rfl (hb hby d1_21)
                          refine own_st st40 ?_
                          show own_G p.tables e below _ (T40.setTop (mkF m 24 #[.val (.int q1), .val (.ref b_1), .val (.int (13 : Int32)), .val (.int (12 : Int32)), .val (.ref w_API_VERSIONS)] [(.int (18 : Int32))]))
                          refine own_st (fun _ kS => XS.iloadN X40.here hx rfl (hb hby d1_24) rfl kS) ?_
                          show own_G p.tables e below _ (T40.setTop (mkF m 25 #[.val (.int q1), .val (.ref b_1), .val (.int (13 : Int32)), .val (.int (12 : Int32)), .val (.ref w_API_VERSIONS)] [(.int q1), (.int (18 : Int32))]))
                          by_cases hc25_41 : (18 : Int32) = q1
                          · skip
                            refine own_st (fun _ kS => XS.icmpNo X40.here hx rfl (hb hby d1_25) rfl (teq hc25_41).2 kS) ?_
                            show own_G p.tables e below _ (T40.setTop (mkF m 28 #[.val (.int q1), .val (.ref b_1), .val (.int (13 : Int32)), .val (.int (12 : Int32)), .val (.ref w_API_VERSIONS)] []))
                            refine own_st (fun _ kS => XS.aload X40.here hx rfl (hb hby d1_28) rfl rfl kS) ?_
                            show own_G p.tables e below _ (T40.setTop (mkF m 30 #[.val (.int q1), .val (.ref b_1), .val (.int (13 : Int32)), .val (.int (12 : Int32)), .val (.ref w_API_VERSIONS)] [(.ref w_API_VERSIONS)]))
                            exact own_retA X40 hx hlk hret rfl rfl (hb hby d1_30) (by decide) (by decide) (by rw [e40]; exact ⟨(congrArg some (by rw [own_key, if_neg (fun e => hc25_5 e.symm), if_neg (fun e => hc25_8 e.symm), if_neg (fun e => hc25_11 e.symm), if_neg (fun e => hc25_14 e.symm), if_neg (fun e => hc25_17 e.symm), if_neg (fun e => hc25_20 e.symm), if_neg (fun e => hc25_23 e.symm), if_neg (fun e => hc25_26 e.symm), if_neg (fun e => hc25_29 e.symm), if_neg (fun e => hc25_32 e.symm), if_neg (fun e => hc25_35 e.symm), if_neg (fun e => hc25_38 e.symm), if_pos hc25_41.symm])), N1, K1⟩)
                          · skip
                            refine own_st (fun _ kS => XS.icmpYes X40.here hx rfl (pc0 := 25) (pc' := 31) rfl (hb hby d1_25) rfl (feq hc25_41).2 (by decide) (by decide) kS) ?_
                            show own_G p.tables e below _ (T40.setTop (mkF m 31 #[.val (.int q1), .val (.ref b_1), .val (.int (13 : Int32)), .val (.int (12 : Int32)), .val (.ref w_API_VERSIONS)] []))
                            refine own_st (fun _ kS => XS.iinc X40.here hx rfl (hb hby d1_31) rfl (l' := #[.val (.int q1), .val (.ref b_1), .val (.int (13 : Int32)), .val (.int (13 : Int32)), .val (.ref w_API_VERSIONS)]) rfl kS) ?_
                            show own_G p.tables e below _ (T40.setTop (mkF m 34 #[.val (.int q1), .val (.ref b_1), .val (.int (13 : Int32)), .val (.int (13 : Int32)), .val (.ref w_API_VERSIONS)] []))
                            refine own_st (fun _ kS => XS.goto X40.here hx rfl (pc0 := 34) (pc' := 9) rfl (hb hby d1_34) (by decide) (by decide) kS) ?_
                            show own_G p.tables e below _ (T40.setTop (mkF m 9 #[.val (.int q1), .val (.ref b_1), .val (.int (13 : Int32)), .val (.int (13 : Int32)), .val (.ref w_API_VERSIONS)] []))
                            refine own_st (fun _ kS => XS.iloadN X40.here hx rfl (hb hby d1_9) rfl kS) ?_
                            show own_G p.tables e below _ (T40.setTop (mkF m 10 #[.val (.int q1), .val (.ref b_1), .val (.int (13 : Int32)), .val (.int (13 : Int32)), .val (.ref w_API_VERSIONS)] [(.int (13 : Int32))]))
                            refine own_st (fun _ kS => XS.iloadN X40.here hx rfl (hb hby d1_10) rfl kS) ?_
                            show own_G p.tables e below _ (T40.setTop (mkF m 11 #[.val (.int q1), .val (.ref b_1), .val (.int (13 : Int32)), .val (.int (13 : Int32)), .val (.ref w_API_VERSIONS)] [(.int (13 : Int32)), (.int (13 : Int32))]))
                            refine own_st (fun _ kS => XS.icmpYes X40.here hx rfl (pc0 := 11) (pc' := 37) rfl (hb hby d1_11) rfl (flt (by decide : ¬ ((13 : Int32) < (13 : Int32)))).2.1 (by decide) (by decide) kS) ?_
                            show own_G p.tables e below _ (T40.setTop (mkF m 37 #[.val (.int q1), .val (.ref b_1), .val (.int (13 : Int32)), .val (.int (13 : Int32)), .val (.ref w_API_VERSIONS)] []))
                            refine own_st (fun _ kS => XS.aconstNull X40.here hx rfl (hb hby d1_37) kS) ?_
                            show own_G p.tables e below _ (T40.setTop (mkF m 38 #[.val (.int q1), .val (.ref b_1), .val (.int (13 : Int32)), .val (.int (13 : Int32)), .val (.ref w_API_VERSIONS)] [.null]))
                            exact own_retA X40 hx hlk hret rfl rfl (hb hby d1_38) (by decide) (by decide) (by rw [e40]; exact ⟨(congrArg some (by rw [own_key, if_neg (fun e => hc25_5 e.symm), if_neg (fun e => hc25_8 e.symm), if_neg (fun e => hc25_11 e.symm), if_neg (fun e => hc25_14 e.symm), if_neg (fun e => hc25_17 e.symm), if_neg (fun e => hc25_20 e.symm), if_neg (fun e => hc25_23 e.symm), if_neg (fun e => hc25_26 e.symm), if_neg (fun e => hc25_29 e.symm), if_neg (fun e => hc25_32 e.symm), if_neg (fun e => hc25_35 e.symm), if_neg (fun e => hc25_38 e.symm), if_neg (fun e => hc25_41 e.symm)])), N1, K1⟩)
theorem d3_0 : decode method_2_code 0 = .ok (.iload_n 0, 1) := by decide +kernel
theorem d3_1 : decode method_2_code 1 = .ok (.iconst 1, 1) := by decide +kernel
theorem d3_2 : decode method_2_code 2 = .ok (.if_icmp .ne 7, 3) := by decide +kernel
theorem d3_5 : decode method_2_code 5 = .ok (.getstatic 7, 3) := by decide +kernel
theorem d3_8 : decode method_2_code 8 = .ok (.areturn, 1) := by decide +kernel
theorem d3_9 : decode method_2_code 9 = .ok (.iload_n 0, 1) := by decide +kernel
theorem d3_10 : decode method_2_code 10 = .ok (.iconst 2, 1) := by decide +kernel
theorem d3_11 : decode method_2_code 11 = .ok (.if_icmp .ne 7, 3) := by decide +kernel
theorem d3_14 : decode method_2_code 14 = .ok (.getstatic 13, 3) := by decide +kernel
theorem d3_17 : decode method_2_code 17 = .ok (.areturn, 1) := by decide +kernel
theorem d3_18 : decode method_2_code 18 = .ok (.iload_n 0, 1) := by decide +kernel
theorem d3_19 : decode method_2_code 19 = .ok (.iconst 3, 1) := by decide +kernel
theorem d3_20 : decode method_2_code 20 = .ok (.if_icmp .ne 7, 3) := by decide +kernel
theorem d3_23 : decode method_2_code 23 = .ok (.getstatic 16, 3) := by decide +kernel
theorem d3_26 : decode method_2_code 26 = .ok (.areturn, 1) := by decide +kernel
theorem d3_27 : decode method_2_code 27 = .ok (.iload_n 0, 1) := by decide +kernel
theorem d3_28 : decode method_2_code 28 = .ok (.bipush 8, 2) := by decide +kernel
theorem d3_30 : decode method_2_code 30 = .ok (.if_icmp .ne 7, 3) := by decide +kernel
theorem d3_33 : decode method_2_code 33 = .ok (.getstatic 19, 3) := by decide +kernel
theorem d3_36 : decode method_2_code 36 = .ok (.areturn, 1) := by decide +kernel
theorem d3_37 : decode method_2_code 37 = .ok (.iload_n 0, 1) := by decide +kernel
theorem d3_38 : decode method_2_code 38 = .ok (.bipush 9, 2) := by decide +kernel
theorem d3_40 : decode method_2_code 40 = .ok (.if_icmp .ne 7, 3) := by decide +kernel
theorem d3_43 : decode method_2_code 43 = .ok (.getstatic 22, 3) := by decide +kernel
theorem d3_46 : decode method_2_code 46 = .ok (.areturn, 1) := by decide +kernel
theorem d3_47 : decode method_2_code 47 = .ok (.iload_n 0, 1) := by decide +kernel
theorem d3_48 : decode method_2_code 48 = .ok (.bipush 10, 2) := by decide +kernel
theorem d3_50 : decode method_2_code 50 = .ok (.if_icmp .ne 7, 3) := by decide +kernel
theorem d3_53 : decode method_2_code 53 = .ok (.getstatic 25, 3) := by decide +kernel
theorem d3_56 : decode method_2_code 56 = .ok (.areturn, 1) := by decide +kernel
theorem d3_57 : decode method_2_code 57 = .ok (.iload_n 0, 1) := by decide +kernel
theorem d3_58 : decode method_2_code 58 = .ok (.bipush 11, 2) := by decide +kernel
theorem d3_60 : decode method_2_code 60 = .ok (.if_icmp .ne 7, 3) := by decide +kernel
theorem d3_63 : decode method_2_code 63 = .ok (.getstatic 28, 3) := by decide +kernel
theorem d3_66 : decode method_2_code 66 = .ok (.areturn, 1) := by decide +kernel
theorem d3_67 : decode method_2_code 67 = .ok (.iload_n 0, 1) := by decide +kernel
theorem d3_68 : decode method_2_code 68 = .ok (.bipush 12, 2) := by decide +kernel
theorem d3_70 : decode method_2_code 70 = .ok (.if_icmp .ne 7, 3) := by decide +kernel
theorem d3_73 : decode method_2_code 73 = .ok (.getstatic 31, 3) := by decide +kernel
theorem d3_76 : decode method_2_code 76 = .ok (.areturn, 1) := by decide +kernel
theorem d3_77 : decode method_2_code 77 = .ok (.iload_n 0, 1) := by decide +kernel
theorem d3_78 : decode method_2_code 78 = .ok (.bipush 13, 2) := by decide +kernel
theorem d3_80 : decode method_2_code 80 = .ok (.if_icmp .ne 7, 3) := by decide +kernel
theorem d3_83 : decode method_2_code 83 = .ok (.getstatic 34, 3) := by decide +kernel
theorem d3_86 : decode method_2_code 86 = .ok (.areturn, 1) := by decide +kernel
theorem d3_87 : decode method_2_code 87 = .ok (.iload_n 0, 1) := by decide +kernel
theorem d3_88 : decode method_2_code 88 = .ok (.bipush 14, 2) := by decide +kernel
theorem d3_90 : decode method_2_code 90 = .ok (.if_icmp .ne 7, 3) := by decide +kernel
theorem d3_93 : decode method_2_code 93 = .ok (.getstatic 37, 3) := by decide +kernel
theorem d3_96 : decode method_2_code 96 = .ok (.areturn, 1) := by decide +kernel
theorem d3_97 : decode method_2_code 97 = .ok (.iload_n 0, 1) := by decide +kernel
theorem d3_98 : decode method_2_code 98 = .ok (.bipush 15, 2) := by decide +kernel
theorem d3_100 : decode method_2_code 100 = .ok (.if_icmp .ne 7, 3) := by decide +kernel
theorem d3_103 : decode method_2_code 103 = .ok (.getstatic 40, 3) := by decide +kernel
theorem d3_106 : decode method_2_code 106 = .ok (.areturn, 1) := by decide +kernel
theorem d3_107 : decode method_2_code 107 = .ok (.iload_n 0, 1) := by decide +kernel
theorem d3_108 : decode method_2_code 108 = .ok (.bipush 16, 2) := by decide +kernel
theorem d3_110 : decode method_2_code 110 = .ok (.if_icmp .ne 7, 3) := by decide +kernel
theorem d3_113 : decode method_2_code 113 = .ok (.getstatic 43, 3) := by decide +kernel
theorem d3_116 : decode method_2_code 116 = .ok (.areturn, 1) := by decide +kernel
theorem d3_117 : decode method_2_code 117 = .ok (.iload_n 0, 1) := by decide +kernel
theorem d3_118 : decode method_2_code 118 = .ok (.bipush 18, 2) := by decide +kernel
theorem d3_120 : decode method_2_code 120 = .ok (.if_icmp .ne 7, 3) := by decide +kernel
theorem d3_123 : decode method_2_code 123 = .ok (.getstatic 46, 3) := by decide +kernel
theorem d3_126 : decode method_2_code 126 = .ok (.areturn, 1) := by decide +kernel
theorem d3_127 : decode method_2_code 127 = .ok (.aconst_null, 1) := by decide +kernel
theorem d3_128 : decode method_2_code 128 = .ok (.areturn, 1) := by decide +kernel
theorem pn_3 : plainName "com/example/loose_grip/loosegrip/wire/ApiKeyForIdPinLaw" = true := by first | (simp [plainName, overriddenIn]; done) | decide +kernel
theorem ef_expected (m : MethodId) (x0 : Int32) : entryFrame m #[(.int x0)] 1 = mkF m 0 #[.val (.int x0)] [] := by first | (simp [entryFrame, mkF, argsToLocals, Value.category]; done) | rfl
def Q_expected (Z : State) (q1 : Int32) (w_FETCH : Addr) (w_LIST_OFFSETS : Addr) (w_METADATA : Addr) (w_OFFSET_COMMIT : Addr) (w_OFFSET_FETCH : Addr) (w_FIND_COORDINATOR : Addr) (w_JOIN_GROUP : Addr) (w_HEARTBEAT : Addr) (w_LEAVE_GROUP : Addr) (w_SYNC_GROUP : Addr) (w_DESCRIBE_GROUPS : Addr) (w_LIST_GROUPS : Addr) (w_API_VERSIONS : Addr) (h0 : Heap) (n0 : Nat) (v : Option Value) (h : Heap) (L : List Loc) : Prop := v = some (own_key q1 w_FETCH w_LIST_OFFSETS w_METADATA w_OFFSET_COMMIT w_OFFSET_FETCH w_FIND_COORDINATOR w_JOIN_GROUP w_HEARTBEAT w_LEAVE_GROUP w_SYNC_GROUP w_DESCRIBE_GROUPS w_LIST_GROUPS w_API_VERSIONS) ∧ Fr n0 L ∧ h = h0
set_option maxRecDepth 65536 in
set_option maxHeartbeats 40000000 in
theorem rm_expected (l : Launch) (Z : State) (a0 : Array Value) (hw : ∀ d ∈ tables_1, d.before a0 Z = true) (ws : List Jvm.Cond) (q1 : Int32) (w_FETCH : Addr) (w_LIST_OFFSETS : Addr) (w_METADATA : Addr) (w_OFFSET_COMMIT : Addr) (w_OFFSET_FETCH : Addr) (w_FIND_COORDINATOR : Addr) (w_JOIN_GROUP : Addr) (w_HEARTBEAT : Addr) (w_LEAVE_GROUP : Addr) (w_SYNC_GROUP : Addr) (w_DESCRIBE_GROUPS : Addr) (w_LIST_GROUPS : Addr) (w_API_VERSIONS : Addr) (h0 : Heap) (n0 : Nat) (Z0 : n0 ≤ h0.size) (O0 : Old Z n0 h0) (S_FETCH : Sta Z Z.heap "com/example/loose_grip/loosegrip/wire/ApiKey" "FETCH" "Lcom/example/loose_grip/loosegrip/wire/ApiKey;" (.ref w_FETCH)) (S_LIST_OFFSETS : Sta Z Z.heap "com/example/loose_grip/loosegrip/wire/ApiKey" "LIST_OFFSETS" "Lcom/example/loose_grip/loosegrip/wire/ApiKey;" (.ref w_LIST_OFFSETS)) (S_METADATA : Sta Z Z.heap "com/example/loose_grip/loosegrip/wire/ApiKey" "METADATA" "Lcom/example/loose_grip/loosegrip/wire/ApiKey;" (.ref w_METADATA)) (S_OFFSET_COMMIT : Sta Z Z.heap "com/example/loose_grip/loosegrip/wire/ApiKey" "OFFSET_COMMIT" "Lcom/example/loose_grip/loosegrip/wire/ApiKey;" (.ref w_OFFSET_COMMIT)) (S_OFFSET_FETCH : Sta Z Z.heap "com/example/loose_grip/loosegrip/wire/ApiKey" "OFFSET_FETCH" "Lcom/example/loose_grip/loosegrip/wire/ApiKey;" (.ref w_OFFSET_FETCH)) (S_FIND_COORDINATOR : Sta Z Z.heap "com/example/loose_grip/loosegrip/wire/ApiKey" "FIND_COORDINATOR" "Lcom/example/loose_grip/loosegrip/wire/ApiKey;" (.ref w_FIND_COORDINATOR)) (S_JOIN_GROUP : Sta Z Z.heap "com/example/loose_grip/loosegrip/wire/ApiKey" "JOIN_GROUP" "Lcom/example/loose_grip/loosegrip/wire/ApiKey;" (.ref w_JOIN_GROUP)) (S_HEARTBEAT : Sta Z Z.heap "com/example/loose_grip/loosegrip/wire/ApiKey" "HEARTBEAT" "Lcom/example/loose_grip/loosegrip/wire/ApiKey;" (.ref w_HEARTBEAT)) (S_LEAVE_GROUP : Sta Z Z.heap "com/example/loose_grip/loosegrip/wire/ApiKey" "LEAVE_GROUP" "Lcom/example/loose_grip/loosegrip/wire/ApiKey;" (.ref w_LEAVE_GROUP)) (S_SYNC_GROUP : Sta Z Z.heap "com/example/loose_grip/loosegrip/wire/ApiKey" "SYNC_GROUP" "Lcom/example/loose_grip/loosegrip/wire/ApiKey;" (.ref w_SYNC_GROUP)) (S_DESCRIBE_GROUPS : Sta Z Z.heap "com/example/loose_grip/loosegrip/wire/ApiKey" "DESCRIBE_GROUPS" "Lcom/example/loose_grip/loosegrip/wire/ApiKey;" (.ref w_DESCRIBE_GROUPS)) (S_LIST_GROUPS : Sta Z Z.heap "com/example/loose_grip/loosegrip/wire/ApiKey" "LIST_GROUPS" "Lcom/example/loose_grip/loosegrip/wire/ApiKey;" (.ref w_LIST_GROUPS)) (S_API_VERSIONS : Sta Z Z.heap "com/example/loose_grip/loosegrip/wire/ApiKey" "API_VERSIONS" "Lcom/example/loose_grip/loosegrip/wire/ApiKey;" (.ref w_API_VERSIONS)) :
    MetFree l (⟨"com/example/loose_grip/loosegrip/wire/ApiKeyForIdPinLaw", "expected", "(S)Lcom/example/loose_grip/loosegrip/wire/ApiKey;"⟩ : MethodName) (head1 (Jvm.Cond.code (⟨"com/example/loose_grip/loosegrip/wire/ApiKeyForIdPinLaw", "expected", "(S)Lcom/example/loose_grip/loosegrip/wire/ApiKey;"⟩ : MethodName) method_2_code 1 (some (.object "com/example/loose_grip/loosegrip/wire/ApiKey")) :: ws) ({ frames := 0, cells := 0, slots := 0, locals := 0 } : Room)) (fun a U => a = #[(.int q1)] ∧ Z.Warmed39 U.vm ∧ U.heap = h0) (fun _ _ _ _ _ => True) (fun _ U o U' => ∃ v L, o = .returned v ∧ Q_expected Z q1 w_FETCH w_LIST_OFFSETS w_METADATA w_OFFSET_COMMIT w_OFFSET_FETCH w_FIND_COORDINATOR w_JOIN_GROUP w_HEARTBEAT w_LEAVE_GROUP w_SYNC_GROUP w_DESCRIBE_GROUPS w_LIST_GROUPS w_API_VERSIONS h0 n0 v U'.heap L ∧ FrameEnd U o U' L ({ frames := 0, cells := 0, slots := 0, locals := 0 } : Room).cells ({ frames := 0, cells := 0, slots := 0, locals := 0 } : Room).slots) := by
  refine MetFree.of_bodySF (plainFor_of_name pn_3) hisR ?_
  intro p e s m args below meth c s₁ Bd hml0 hP hK
  obtain ⟨rfl, hZ, hh⟩ := hP
  have hx := Bd.exec
  have hby := Bd.bytes
  have hml : c.maxLocals = 1 := hml0
  have hown : s.vm.findClass "com/example/loose_grip/loosegrip/wire/ApiKeyForIdPinLaw" = some m.cls := findClass_of_methodNamed Bd.named
  have hnm := (name_of_methodNamed Bd.named Bd.method).1
  have hlk := Bd.notSynchronized
  have hret := Bd.returns
  have X0 : Stand p l e ({ frames := 0, cells := 0, slots := 0, locals := 0 } : Room) s m #[(.int q1)] below meth c s₁ [] 0 0 := Stand.of_body Bd
  have e0 : s₁.heap = h0 := by rw [← hh, Bd.state]; rfl
  have N0 := Fr.nil n0
  refine own_in ({ frames := 0, cells := 0, slots := 0, locals := 0 } : Room).cells ({ frames := 0, cells := 0, slots := 0, locals := 0 } : Room).slots (Q_expected Z q1 w_FETCH w_LIST_OFFSETS w_METADATA w_OFFSET_COMMIT w_OFFSET_FETCH w_FIND_COORDINATOR w_JOIN_GROUP w_HEARTBEAT w_LEAVE_GROUP w_SYNC_GROUP w_DESCRIBE_GROUPS w_LIST_GROUPS w_API_VERSIONS h0 n0) (ef_expected m q1) ?_
  show own_G p.tables e below _ (s₁.setTop (mkF m 0 #[.val (.int q1)] []))
  refine own_st (fun _ kS => XS.iloadN X0.here hx rfl (hb hby d3_0) rfl kS) ?_
  show own_G p.tables e below _ (s₁.setTop (mkF m 1 #[.val (.int q1)] [(.int q1)]))
  refine own_st (fun _ kS => XS.iconst X0.here hx rfl (hb hby d3_1) kS) ?_
  show own_G p.tables e below _ (s₁.setTop (mkF m 2 #[.val (.int q1)] [(.int (1 : Int32)), (.int q1)]))
  by_cases hc2_1 : q1 = (1 : Int32)
  · skip
    refine own_st (fun _ kS => XS.icmpNo X0.here hx rfl (hb hby d3_2) rfl (teq hc2_1).2 kS) ?_
    show own_G p.tables e below _ (s₁.setTop (mkF m 5 #[.val (.int q1)] []))
    obtain ⟨T2, X2, e2, st2⟩ := getS2 X0 hx hZ hown (host := "") (Or.inl (hw _ (List.mem_of_getElem? (i := 43) rfl))) Via.refl e0 (Sta.ext O0.2 S_FETCH) (g := (mkF m 5 #[.val (.int q1)] [])) rfl (hb hby d3_5)
    refine own_st st2 ?_
    show own_G p.tables e below _ (T2.setTop (mkF m 8 #[.val (.int q1)] [(.ref w_FETCH)]))
    exact own_retA X2 hx hlk hret rfl rfl (hb hby d3_8) (by decide) (by decide) (by rw [e2]; exact ⟨(congrArg some (by rw [own_key, if_pos hc2_1])), N0, rfl⟩)
  · skip
    refine own_st (fun _ kS => XS.icmpYes X0.here hx rfl (pc0 := 2) (pc' := 9) rfl (hb hby d3_2) rfl (feq hc2_1).2 (by decide) (by decide) kS) ?_
    show own_G p.tables e below _ (s₁.setTop (mkF m 9 #[.val (.int q1)] []))
    refine own_st (fun _ kS => XS.iloadN X0.here hx rfl (hb hby d3_9) rfl kS) ?_
    show own_G p.tables e below _ (s₁.setTop (mkF m 10 #[.val (.int q1)] [(.int q1)]))
    refine own_st (fun _ kS => XS.iconst X0.here hx rfl (hb hby d3_10) kS) ?_
    show own_G p.tables e below _ (s₁.setTop (mkF m 11 #[.val (.int q1)] [(.int (2 : Int32)), (.int q1)]))
    by_cases hc11_3 : q1 = (2 : Int32)
    · skip
      refine own_st (fun _ kS => XS.icmpNo X0.here hx rfl (hb hby d3_11) rfl (teq hc11_3).2 kS) ?_
      show own_G p.tables e below _ (s₁.setTop (mkF m 14 #[.val (.int q1)] []))
      obtain ⟨T4, X4, e4, st4⟩ := getS2 X0 hx hZ hown (host := "") (Or.inl (hw _ (List.mem_of_getElem? (i := 44) rfl))) Via.refl e0 (Sta.ext O0.2 S_LIST_OFFSETS) (g := (mkF m 14 #[.val (.int q1)] [])) rfl (hb hby d3_14)
      refine own_st st4 ?_
      show own_G p.tables e below _ (T4.setTop (mkF m 17 #[.val (.int q1)] [(.ref w_LIST_OFFSETS)]))
      exact own_retA X4 hx hlk hret rfl rfl (hb hby d3_17) (by decide) (by decide) (by rw [e4]; exact ⟨(congrArg some (by rw [own_key, if_neg (fun e => hc2_1 e), if_pos hc11_3])), N0, rfl⟩)
    · skip
      refine own_st (fun _ kS => XS.icmpYes X0.here hx rfl (pc0 := 11) (pc' := 18) rfl (hb hby d3_11) rfl (feq hc11_3).2 (by decide) (by decide) kS) ?_
      show own_G p.tables e below _ (s₁.setTop (mkF m 18 #[.val (.int q1)] []))
      refine own_st (fun _ kS => XS.iloadN X0.here hx rfl (hb hby d3_18) rfl kS) ?_
      show own_G p.tables e below _ (s₁.setTop (mkF m 19 #[.val (.int q1)] [(.int q1)]))
      refine own_st (fun _ kS => XS.iconst X0.here hx rfl (hb hby d3_19) kS) ?_
      show own_G p.tables e below _ (s₁.setTop (mkF m 20 #[.val (.int q1)] [(.int (3 : Int32)), (.int q1)]))
      by_cases hc20_5 : q1 = (3 : Int32)
      · skip
        refine own_st (fun _ kS => XS.icmpNo X0.here hx rfl (hb hby d3_20) rfl (teq hc20_5).2 kS) ?_
        show own_G p.tables e below _ (s₁.setTop (mkF m 23 #[.val (.int q1)] []))
        obtain ⟨T6, X6, e6, st6⟩ := getS2 X0 hx hZ hown (host := "") (Or.inl (hw _ (List.mem_of_getElem? (i := 42) rfl))) Via.refl e0 (Sta.ext O0.2 S_METADATA) (g := (mkF m 23 #[.val (.int q1)] [])) rfl (hb hby d3_23)
        refine own_st st6 ?_
        show own_G p.tables e below _ (T6.setTop (mkF m 26 #[.val (.int q1)] [(.ref w_METADATA)]))
        exact own_retA X6 hx hlk hret rfl rfl (hb hby d3_26) (by decide) (by decide) (by rw [e6]; exact ⟨(congrArg some (by rw [own_key, if_neg (fun e => hc2_1 e), if_neg (fun e => hc11_3 e), if_pos hc20_5])), N0, rfl⟩)
      · skip
        refine own_st (fun _ kS => XS.icmpYes X0.here hx rfl (pc0 := 20) (pc' := 27) rfl (hb hby d3_20) rfl (feq hc20_5).2 (by decide) (by decide) kS) ?_
        show own_G p.tables e below _ (s₁.setTop (mkF m 27 #[.val (.int q1)] []))
        refine own_st (fun _ kS => XS.iloadN X0.here hx rfl (hb hby d3_27) rfl kS) ?_
        show own_G p.tables e below _ (s₁.setTop (mkF m 28 #[.val (.int q1)] [(.int q1)]))
        refine own_st (fun _ kS => XS.bipush X0.here hx rfl (hb hby d3_28) kS) ?_
        show own_G p.tables e below _ (s₁.setTop (mkF m 30 #[.val (.int q1)] [(.int (8 : Int32)), (.int q1)]))
        by_cases hc30_7 : q1 = (8 : Int32)
        · skip
          refine own_st (fun _ kS => XS.icmpNo X0.here hx rfl (hb hby d3_30) rfl (teq hc30_7).2 kS) ?_
          show own_G p.tables e below _ (s₁.setTop (mkF m 33 #[.val (.int q1)] []))
          obtain ⟨T8, X8, e8, st8⟩ := getS2 X0 hx hZ hown (host := "") (Or.inl (hw _ (List.mem_of_getElem? (i := 41) rfl))) Via.refl e0 (Sta.ext O0.2 S_OFFSET_COMMIT) (g := (mkF m 33 #[.val (.int q1)] [])) rfl (hb hby d3_33)
          refine own_st st8 ?_
          show own_G p.tables e below _ (T8.setTop (mkF m 36 #[.val (.int q1)] [(.ref w_OFFSET_COMMIT)]))
          exact own_retA X8 hx hlk hret rfl rfl (hb hby d3_36) (by decide) (by decide) (by rw [e8]; exact ⟨(congrArg some (by rw [own_key, if_neg (fun e => hc2_1 e), if_neg (fun e => hc11_3 e), if_neg (fun e => hc20_5 e), if_pos hc30_7])), N0, rfl⟩)
        · skip
          refine own_st (fun _ kS => XS.icmpYes X0.here hx rfl (pc0 := 30) (pc' := 37) rfl (hb hby d3_30) rfl (feq hc30_7).2 (by decide) (by decide) kS) ?_
          show own_G p.tables e below _ (s₁.setTop (mkF m 37 #[.val (.int q1)] []))
          refine own_st (fun _ kS => XS.iloadN X0.here hx rfl (hb hby d3_37) rfl kS) ?_
          show own_G p.tables e below _ (s₁.setTop (mkF m 38 #[.val (.int q1)] [(.int q1)]))
          refine own_st (fun _ kS => XS.bipush X0.here hx rfl (hb hby d3_38) kS) ?_
          show own_G p.tables e below _ (s₁.setTop (mkF m 40 #[.val (.int q1)] [(.int (9 : Int32)), (.int q1)]))
          by_cases hc40_9 : q1 = (9 : Int32)
          · skip
            refine own_st (fun _ kS => XS.icmpNo X0.here hx rfl (hb hby d3_40) rfl (teq hc40_9).2 kS) ?_
            show own_G p.tables e below _ (s₁.setTop (mkF m 43 #[.val (.int q1)] []))
            obtain ⟨T10, X10, e10, st10⟩ := getS2 X0 hx hZ hown (host := "") (Or.inl (hw _ (List.mem_of_getElem? (i := 47) rfl))) Via.refl e0 (Sta.ext O0.2 S_OFFSET_FETCH) (g := (mkF m 43 #[.val (.int q1)] [])) rfl (hb hby d3_43)
            refine own_st st10 ?_
            show own_G p.tables e below _ (T10.setTop (mkF m 46 #[.val (.int q1)] [(.ref w_OFFSET_FETCH)]))
            exact own_retA X10 hx hlk hret rfl rfl (hb hby d3_46) (by decide) (by decide) (by rw [e10]; exact ⟨(congrArg some (by rw [own_key, if_neg (fun e => hc2_1 e), if_neg (fun e => hc11_3 e), if_neg (fun e => hc20_5 e), if_neg (fun e => hc30_7 e), if_pos hc40_9])), N0, rfl⟩)
          · skip
            refine own_st (fun _ kS => XS.icmpYes X0.here hx rfl (pc0 := 40) (pc' := 47) rfl (hb hby d3_40) rfl (feq hc40_9).2 (by decide) (by decide) kS) ?_
            show own_G p.tables e below _ (s₁.setTop (mkF m 47 #[.val (.int q1)] []))
            refine own_st (fun _ kS => XS.iloadN X0.here hx rfl (hb hby d3_47) rfl kS) ?_
            show own_G p.tables e below _ (s₁.setTop (mkF m 48 #[.val (.int q1)] [(.int q1)]))
            refine own_st (fun _ kS => XS.bipush X0.here hx rfl (hb hby d3_48) kS) ?_
            show own_G p.tables e below _ (s₁.setTop (mkF m 50 #[.val (.int q1)] [(.int (10 : Int32)), (.int q1)]))
            by_cases hc50_11 : q1 = (10 : Int32)
            · skip
              refine own_st (fun _ kS => XS.icmpNo X0.here hx rfl (hb hby d3_50) rfl (teq hc50_11).2 kS) ?_
              show own_G p.tables e below _ (s₁.setTop (mkF m 53 #[.val (.int q1)] []))
              obtain ⟨T12, X12, e12, st12⟩ := getS2 X0 hx hZ hown (host := "") (Or.inl (hw _ (List.mem_of_getElem? (i := 45) rfl))) Via.refl e0 (Sta.ext O0.2 S_FIND_COORDINATOR) (g := (mkF m 53 #[.val (.int q1)] [])) rfl (hb hby d3_53)
              refine own_st st12 ?_
              show own_G p.tables e below _ (T12.setTop (mkF m 56 #[.val (.int q1)] [(.ref w_FIND_COORDINATOR)]))
              exact own_retA X12 hx hlk hret rfl rfl (hb hby d3_56) (by decide) (by decide) (by rw [e12]; exact ⟨(congrArg some (by rw [own_key, if_neg (fun e => hc2_1 e), if_neg (fun e => hc11_3 e), if_neg (fun e => hc20_5 e), if_neg (fun e => hc30_7 e), if_neg (fun e => hc40_9 e), if_pos hc50_11])), N0, rfl⟩)
            · skip
              refine own_st (fun _ kS => XS.icmpYes X0.here hx rfl (pc0 := 50) (pc' := 57) rfl (hb hby d3_50) rfl (feq hc50_11).2 (by decide) (by decide) kS) ?_
              show own_G p.tables e below _ (s₁.setTop (mkF m 57 #[.val (.int q1)] []))
              refine own_st (fun _ kS => XS.iloadN X0.here hx rfl (hb hby d3_57) rfl kS) ?_
              show own_G p.tables e below _ (s₁.setTop (mkF m 58 #[.val (.int q1)] [(.int q1)]))
              refine own_st (fun _ kS => XS.bipush X0.here hx rfl (hb hby d3_58) kS) ?_
              show own_G p.tables e below _ (s₁.setTop (mkF m 60 #[.val (.int q1)] [(.int (11 : Int32)), (.int q1)]))
              by_cases hc60_13 : q1 = (11 : Int32)
              · skip
                refine own_st (fun _ kS => XS.icmpNo X0.here hx rfl (hb hby d3_60) rfl (teq hc60_13).2 kS) ?_
                show own_G p.tables e below _ (s₁.setTop (mkF m 63 #[.val (.int q1)] []))
                obtain ⟨T14, X14, e14, st14⟩ := getS2 X0 hx hZ hown (host := "") (Or.inl (hw _ (List.mem_of_getElem? (i := 46) rfl))) Via.refl e0 (Sta.ext O0.2 S_JOIN_GROUP) (g := (mkF m 63 #[.val (.int q1)] [])) rfl (hb hby d3_63)
                refine own_st st14 ?_
                show own_G p.tables e below _ (T14.setTop (mkF m 66 #[.val (.int q1)] [(.ref w_JOIN_GROUP)]))
                exact own_retA X14 hx hlk hret rfl rfl (hb hby d3_66) (by decide) (by decide) (by rw [e14]; exact ⟨(congrArg some (by rw [own_key, if_neg (fun e => hc2_1 e), if_neg (fun e => hc11_3 e), if_neg (fun e => hc20_5 e), if_neg (fun e => hc30_7 e), if_neg (fun e => hc40_9 e), if_neg (fun e => hc50_11 e), if_pos hc60_13])), N0, rfl⟩)
              · skip
                refine own_st (fun _ kS => XS.icmpYes X0.here hx rfl (pc0 := 60) (pc' := 67) rfl (hb hby d3_60) rfl (feq hc60_13).2 (by decide) (by decide) kS) ?_
                show own_G p.tables e below _ (s₁.setTop (mkF m 67 #[.val (.int q1)] []))
                refine own_st (fun _ kS => XS.iloadN X0.here hx rfl (hb hby d3_67) rfl kS) ?_
                show own_G p.tables e below _ (s₁.setTop (mkF m 68 #[.val (.int q1)] [(.int q1)]))
                refine own_st (fun _ kS => XS.bipush X0.here hx rfl (hb hby d3_68) kS) ?_
                show own_G p.tables e below _ (s₁.setTop (mkF m 70 #[.val (.int q1)] [(.int (12 : Int32)), (.int q1)]))
                by_cases hc70_15 : q1 = (12 : Int32)
                · skip
                  refine own_st (fun _ kS => XS.icmpNo X0.here hx rfl (hb hby d3_70) rfl (teq hc70_15).2 kS) ?_
                  show own_G p.tables e below _ (s₁.setTop (mkF m 73 #[.val (.int q1)] []))
                  obtain ⟨T16, X16, e16, st16⟩ := getS2 X0 hx hZ hown (host := "") (Or.inl (hw _ (List.mem_of_getElem? (i := 39) rfl))) Via.refl e0 (Sta.ext O0.2 S_HEARTBEAT) (g := (mkF m 73 #[.val (.int q1)] [])) rfl (hb hby d3_73)
                  refine own_st st16 ?_
                  show own_G p.tables e below _ (T16.setTop (mkF m 76 #[.val (.int q1)] [(.ref w_HEARTBEAT)]))
                  exact own_retA X16 hx hlk hret rfl rfl (hb hby d3_76) (by decide) (by decide) (by rw [e16]; exact ⟨(congrArg some (by rw [own_key, if_neg (fun e => hc2_1 e), if_neg (fun e => hc11_3 e), if_neg (fun e => hc20_5 e), if_neg (fun e => hc30_7 e), if_neg (fun e => hc40_9 e), if_neg (fun e => hc50_11 e), if_neg (fun e => hc60_13 e), if_pos hc70_15])), N0, rfl⟩)
                · skip
                  refine own_st (fun _ kS => XS.icmpYes X0.here hx rfl (pc0 := 70) (pc' := 77) rfl (hb hby d3_70) rfl (feq hc70_15).2 (by decide) (by decide) kS) ?_
                  show own_G p.tables e below _ (s₁.setTop (mkF m 77 #[.val (.int q1)] []))
                  refine own_st (fun _ kS => XS.iloadN X0.here hx rfl (hb hby d3_77) rfl kS) ?_
                  show own_G p.tables e below _ (s₁.setTop (mkF m 78 #[.val (.int q1)] [(.int q1)]))
                  refine own_st (fun _ kS => XS.bipush X0.here hx rfl (hb hby d3_78) kS) ?_
                  show own_G p.tables e below _ (s₁.setTop (mkF m 80 #[.val (.int q1)] [(.int (13 : Int32)), (.int q1)]))
                  by_cases hc80_17 : q1 = (13 : Int32)
                  · skip
                    refine own_st (fun _ kS => XS.icmpNo X0.here hx rfl (hb hby d3_80) rfl (teq hc80_17).2 kS) ?_
                    show own_G p.tables e below _ (s₁.setTop (mkF m 83 #[.val (.int q1)] []))
                    obtain ⟨T18, X18, e18, st18⟩ := getS2 X0 hx hZ hown (host := "") (Or.inl (hw _ (List.mem_of_getElem? (i := 40) rfl))) Via.refl e0 (Sta.ext O0.2 S_LEAVE_GROUP) (g := (mkF m 83 #[.val (.int q1)] [])) rfl (hb hby d3_83)
                    refine own_st st18 ?_
                    show own_G p.tables e below _ (T18.setTop (mkF m 86 #[.val (.int q1)] [(.ref w_LEAVE_GROUP)]))
                    exact own_retA X18 hx hlk hret rfl rfl (hb hby d3_86) (by decide) (by decide) (by rw [e18]; exact ⟨(congrArg some (by rw [own_key, if_neg (fun e => hc2_1 e), if_neg (fun e => hc11_3 e), if_neg (fun e => hc20_5 e), if_neg (fun e => hc30_7 e), if_neg (fun e => hc40_9 e), if_neg (fun e => hc50_11 e), if_neg (fun e => hc60_13 e), if_neg (fun e => hc70_15 e), if_pos hc80_17])), N0, rfl⟩)
                  · skip
                    refine own_st (fun _ kS => XS.icmpYes X0.here hx rfl (pc0 := 80) (pc' := 87) rfl (hb hby d3_80) rfl (feq hc80_17).2 (by decide) (by decide) kS) ?_
                    show own_G p.tables e below _ (s₁.setTop (mkF m 87 #[.val (.int q1)] []))
                    refine own_st (fun _ kS => XS.iloadN X0.here hx rfl (hb hby d3_87) rfl kS) ?_
                    show own_G p.tables e below _ (s₁.setTop (mkF m 88 #[.val (.int q1)] [(.int q1)]))
                    refine own_st (fun _ kS => XS.bipush X0.here hx rfl (hb hby d3_88) kS) ?_
                    show own_G p.tables e below _ (s₁.setTop (mkF m 90 #[.val (.int q1)] [(.int (14 : Int32)), (.int q1)]))
                    by_cases hc90_19 : q1 = (14 : Int32)
                    · skip
                      refine own_st (fun _ kS => XS.icmpNo X0.here hx rfl (hb hby d3_90) rfl (teq hc90_19).2 kS) ?_
                      show own_G p.tables e below _ (s₁.setTop (mkF m 93 #[.val (.int q1)] []))
                      obtain ⟨T20, X20, e20, st20⟩ := getS2 X0 hx hZ hown (host := "") (Or.inl (hw _ (List.mem_of_getElem? (i := 38) rfl))) Via.refl e0 (Sta.ext O0.2 S_SYNC_GROUP) (g := (mkF m 93 #[.val (.int q1)] [])) rfl (hb hby d3_93)
                      refine own_st st20 ?_
                      show own_G p.tables e below _ (T20.setTop (mkF m 96 #[.val (.int q1)] [(.ref w_SYNC_GROUP)]))
                      exact own_retA X20 hx hlk hret rfl rfl (hb hby d3_96) (by decide) (by decide) (by rw [e20]; exact ⟨(congrArg some (by rw [own_key, if_neg (fun e => hc2_1 e), if_neg (fun e => hc11_3 e), if_neg (fun e => hc20_5 e), if_neg (fun e => hc30_7 e), if_neg (fun e => hc40_9 e), if_neg (fun e => hc50_11 e), if_neg (fun e => hc60_13 e), if_neg (fun e => hc70_15 e), if_neg (fun e => hc80_17 e), if_pos hc90_19])), N0, rfl⟩)
                    · skip
                      refine own_st (fun _ kS => XS.icmpYes X0.here hx rfl (pc0 := 90) (pc' := 97) rfl (hb hby d3_90) rfl (feq hc90_19).2 (by decide) (by decide) kS) ?_
                      show own_G p.tables e below _ (s₁.setTop (mkF m 97 #[.val (.int q1)] []))
                      refine own_st (fun _ kS => XS.iloadN X0.here hx rfl (hb hby d3_97) rfl kS) ?_
                      show own_G p.tables e below _ (s₁.setTop (mkF m 98 #[.val (.int q1)] [(.int q1)]))
                      refine own_st (fun _ kS => XS.bipush X0.here hx rfl (hb hby d3_98) kS) ?_
                      show own_G p.tables e below _ (s₁.setTop (mkF m 100 #[.val (.int q1)] [(.int (15 : Int32)), (.int q1)]))
                      by_cases hc100_21 : q1 = (15 : Int32)
                      · skip
                        refine own_st (fun _ kS => XS.icmpNo X0.here hx rfl (hb hby d3_100) rfl (teq hc100_21).2 kS) ?_
                        show own_G p.tables e below _ (s₁.setTop (mkF m 103 #[.val (.int q1)] []))
                        obtain ⟨T22, X22, e22, st22⟩ := getS2 X0 hx hZ hown (host := "") (Or.inl (hw _ (List.mem_of_getElem? (i := 49) rfl))) Via.refl e0 (Sta.ext O0.2 S_DESCRIBE_GROUPS) (g := (mkF m 103 #[.val (.int q1)] [])) rfl (hb hby d3_103)
                        refine own_st st22 ?_
                        show own_G p.tables e below _ (T22.setTop (mkF m 106 #[.val (.int q1)] [(.ref w_DESCRIBE_GROUPS)]))
                        exact own_retA X22 hx hlk hret rfl rfl (hb hby d3_106) (by decide) (by decide) (by rw [e22]; exact ⟨(congrArg some (by rw [own_key, if_neg (fun e => hc2_1 e), if_neg (fun e => hc11_3 e), if_neg (fun e => hc20_5 e), if_neg (fun e => hc30_7 e), if_neg (fun e => hc40_9 e), if_neg (fun e => hc50_11 e), if_neg (fun e => hc60_13 e), if_neg (fun e => hc70_15 e), if_neg (fun e => hc80_17 e), if_neg (fun e => hc90_19 e), if_pos hc100_21])), N0, rfl⟩)
                      · skip
                        refine own_st (fun _ kS => XS.icmpYes X0.here hx rfl (pc0 := 100) (pc' := 107) rfl (hb hby d3_100) rfl (feq hc100_21).2 (by decide) (by decide) kS) ?_
                        show own_G p.tables e below _ (s₁.setTop (mkF m 107 #[.val (.int q1)] []))
                        refine own_st (fun _ kS => XS.iloadN X0.here hx rfl (hb hby d3_107) rfl kS) ?_
                        show own_G p.tables e below _ (s₁.setTop (mkF m 108 #[.val (.int q1)] [(.int q1)]))
                        refine own_st (fun _ kS => XS.bipush X0.here hx rfl (hb hby d3_108) kS) ?_
                        show own_G p.tables e below _ (s₁.setTop (mkF m 110 #[.val (.int q1)] [(.int (16 : Int32)), (.int q1)]))
                        by_cases hc110_23 : q1 = (16 : Int32)
                        · skip
                          refine own_st (fun _ kS => XS.icmpNo X0.here hx rfl (hb hby d3_110) rfl (teq hc110_23).2 kS) ?_
                          show own_G p.tables e below _ (s₁.setTop (mkF m 113 #[.val (.int q1)] []))
                          obtain ⟨T24, X24, e24, st24⟩ := getS2 X0 hx hZ hown (host := "") (Or.inl (hw _ (List.mem_of_getElem? (i := 50) rfl))) Via.refl e0 (Sta.ext O0.2 S_LIST_GROUPS) (g := (mkF m 113 #[.val (.int q1)] [])) rfl (hb hby d3_113)
                          refine own_st st24 ?_
                          show own_G p.tables e below _ (T24.setTop (mkF m 116 #[.val (.int q1)] [(.ref w_LIST_GROUPS)]))
                          exact own_retA X24 hx hlk hret rfl rfl (hb hby d3_116) (by decide) (by decide) (by rw [e24]; exact ⟨(congrArg some (by rw [own_key, if_neg (fun e => hc2_1 e), if_neg (fun e => hc11_3 e), if_neg (fun e => hc20_5 e), if_neg (fun e => hc30_7 e), if_neg (fun e => hc40_9 e), if_neg (fun e => hc50_11 e), if_neg (fun e => hc60_13 e), if_neg (fun e => hc70_15 e), if_neg (fun e => hc80_17 e), if_neg (fun e => hc90_19 e), if_neg (fun e => hc100_21 e), if_pos hc110_23])), N0, rfl⟩)
                        · skip
                          refine own_st (fun _ kS => XS.icmpYes X0.here hx rfl (pc0 := 110) (pc' := 117) rfl (hb hby d3_110) rfl (feq hc110_23).2 (by decide) (by decide) kS) ?_
                          show own_G p.tables e below _ (s₁.setTop (mkF m 117 #[.val (.int q1)] []))
                          refine own_st (fun _ kS => XS.iloadN X0.here hx rfl (hb hby d3_117) rfl kS) ?_
                          show own_G p.tables e below _ (s₁.setTop (mkF m 118 #[.val (.int q1)] [(.int q1)]))
                          refine own_st (fun _ kS => XS.bipush X0.here hx rfl (hb hby d3_118) kS) ?_
                          show own_G p.tables e below _ (s₁.setTop (mkF m 120 #[.val (.int q1)] [(.int (18 : Int32)), (.int q1)]))
                          by_cases hc120_25 : q1 = (18 : Int32)
                          · skip
                            refine own_st (fun _ kS => XS.icmpNo X0.here hx rfl (hb hby d3_120) rfl (teq hc120_25).2 kS) ?_
                            show own_G p.tables e below _ (s₁.setTop (mkF m 123 #[.val (.int q1)] []))
                            obtain ⟨T26, X26, e26, st26⟩ := getS2 X0 hx hZ hown (host := "") (Or.inl (hw _ (List.mem_of_getElem? (i := 48) rfl))) Via.refl e0 (Sta.ext O0.2 S_API_VERSIONS) (g := (mkF m 123 #[.val (.int q1)] [])) rfl (hb hby d3_123)
                            refine own_st st26 ?_
                            show own_G p.tables e below _ (T26.setTop (mkF m 126 #[.val (.int q1)] [(.ref w_API_VERSIONS)]))
                            exact own_retA X26 hx hlk hret rfl rfl (hb hby d3_126) (by decide) (by decide) (by rw [e26]; exact ⟨(congrArg some (by rw [own_key, if_neg (fun e => hc2_1 e), if_neg (fun e => hc11_3 e), if_neg (fun e => hc20_5 e), if_neg (fun e => hc30_7 e), if_neg (fun e => hc40_9 e), if_neg (fun e => hc50_11 e), if_neg (fun e => hc60_13 e), if_neg (fun e => hc70_15 e), if_neg (fun e => hc80_17 e), if_neg (fun e => hc90_19 e), if_neg (fun e => hc100_21 e), if_neg (fun e => hc110_23 e), if_pos hc120_25])), N0, rfl⟩)
                          · skip
                            refine own_st (fun _ kS => XS.icmpYes X0.here hx rfl (pc0 := 120) (pc' := 127) rfl (hb hby d3_120) rfl (feq hc120_25).2 (by decide) (by decide) kS) ?_
                            show own_G p.tables e below _ (s₁.setTop (mkF m 127 #[.val (.int q1)] []))
                            refine own_st (fun _ kS => XS.aconstNull X0.here hx rfl (hb hby d3_127) kS) ?_
                            show own_G p.tables e below _ (s₁.setTop (mkF m 128 #[.val (.int q1)] [.null]))
                            exact own_retA X0 hx hlk hret rfl rfl (hb hby d3_128) (by decide) (by decide) (by rw [e0]; exact ⟨(congrArg some (by rw [own_key, if_neg (fun e => hc2_1 e), if_neg (fun e => hc11_3 e), if_neg (fun e => hc20_5 e), if_neg (fun e => hc30_7 e), if_neg (fun e => hc40_9 e), if_neg (fun e => hc50_11 e), if_neg (fun e => hc60_13 e), if_neg (fun e => hc70_15 e), if_neg (fun e => hc80_17 e), if_neg (fun e => hc90_19 e), if_neg (fun e => hc100_21 e), if_neg (fun e => hc110_23 e), if_neg (fun e => hc120_25 e)])), N0, rfl⟩)
theorem pn_0 : plainName "com/example/loose_grip/loosegrip/wire/ApiKeyForIdPinLaw" = true := by first | (simp [plainName, overriddenIn]; done) | decide +kernel
def Q_law (n0 : Nat) (v : Option Value) (h : Heap) (L : List Loc) : Prop := v = some (.int (1 : Int32)) ∧ Fr n0 L
theorem own_pd1 : parseMethodDescriptor "(S)Lcom/example/loose_grip/loosegrip/wire/ApiKey;" = some ⟨[.short], some (.object "com/example/loose_grip/loosegrip/wire/ApiKey")⟩ := by decide +kernel
set_option maxRecDepth 65536 in
set_option maxHeartbeats 40000000 in
theorem sg_A {p : Program} {l : Launch} {e : Env} {s : State} {m : MethodId} {args : Array Value} {below : List Frame} {meth : Method} {c : Code} {T0 : State} {locs : List Loc} {Z : State} {a0 : Array Value} {h0 : Heap} {n0 : Nat} (hx : p.tables.exec = Jvm.exec) (hby : c.code = code) (hml : c.maxLocals = 6) (hown : s.vm.findClass "com/example/loose_grip/loosegrip/wire/ApiKeyForIdPinLaw" = some m.cls) (hlk : meth.locks = false) (hret : meth.sig.returnType = some .boolean) (hZ : Z.Warmed39 s.vm) (hw : ∀ d ∈ tables_1, d.before a0 Z = true) (Z0 : n0 ≤ h0.size)
    (X0 : Stand p l e room_1 s m args below meth c T0 locs 0 0) (e0 : T0.heap = h0) (N0 : Fr n0 locs) (O0 : Old Z n0 h0) (p1 : Int32) (p2 : Int32) (sm : Int32) (t : Int32) (wV : Addr) (kV : ClassId) (w_FETCH : Addr) (w_LIST_OFFSETS : Addr) (w_METADATA : Addr) (w_OFFSET_COMMIT : Addr) (w_OFFSET_FETCH : Addr) (w_FIND_COORDINATOR : Addr) (w_JOIN_GROUP : Addr) (w_HEARTBEAT : Addr) (w_LEAVE_GROUP : Addr) (w_SYNC_GROUP : Addr) (w_DESCRIBE_GROUPS : Addr) (w_LIST_GROUPS : Addr) (w_API_VERSIONS : Addr) (S_V : Sta Z Z.heap "com/example/loose_grip/loosegrip/wire/ApiKey" "$VALUES" "[Lcom/example/loose_grip/loosegrip/wire/ApiKey;" (.ref wV)) (R_V : Arv Z Z.heap wV kV (.object "com/example/loose_grip/loosegrip/wire/ApiKey") (13 : Int32) [(.ref w_FETCH), (.ref w_LIST_OFFSETS), (.ref w_METADATA), (.ref w_OFFSET_COMMIT), (.ref w_OFFSET_FETCH), (.ref w_FIND_COORDINATOR), (.ref w_JOIN_GROUP), (.ref w_HEARTBEAT), (.ref w_LEAVE_GROUP), (.ref w_SYNC_GROUP), (.ref w_DESCRIBE_GROUPS), (.ref w_LIST_GROUPS), (.ref w_API_VERSIONS)] .null) (E_V : Exa Z Z.heap wV "[Lcom/example/loose_grip/loosegrip/wire/ApiKey;") (S_FETCH : Sta Z Z.heap "com/example/loose_grip/loosegrip/wire/ApiKey" "FETCH" "Lcom/example/loose_grip/loosegrip/wire/ApiKey;" (.ref w_FETCH)) (S_LIST_OFFSETS : Sta Z Z.heap "com/example/loose_grip/loosegrip/wire/ApiKey" "LIST_OFFSETS" "Lcom/example/loose_grip/loosegrip/wire/ApiKey;" (.ref w_LIST_OFFSETS)) (S_METADATA : Sta Z Z.heap "com/example/loose_grip/loosegrip/wire/ApiKey" "METADATA" "Lcom/example/loose_grip/loosegrip/wire/ApiKey;" (.ref w_METADATA)) (S_OFFSET_COMMIT : Sta Z Z.heap "com/example/loose_grip/loosegrip/wire/ApiKey" "OFFSET_COMMIT" "Lcom/example/loose_grip/loosegrip/wire/ApiKey;" (.ref w_OFFSET_COMMIT)) (S_OFFSET_FETCH : Sta Z Z.heap "com/example/loose_grip/loosegrip/wire/ApiKey" "OFFSET_FETCH" "Lcom/example/loose_grip/loosegrip/wire/ApiKey;" (.ref w_OFFSET_FETCH)) (S_FIND_COORDINATOR : Sta Z Z.heap "com/example/loose_grip/loosegrip/wire/ApiKey" "FIND_COORDINATOR" "Lcom/example/loose_grip/loosegrip/wire/ApiKey;" (.ref w_FIND_COORDINATOR)) (S_JOIN_GROUP : Sta Z Z.heap "com/example/loose_grip/loosegrip/wire/ApiKey" "JOIN_GROUP" "Lcom/example/loose_grip/loosegrip/wire/ApiKey;" (.ref w_JOIN_GROUP)) (S_HEARTBEAT : Sta Z Z.heap "com/example/loose_grip/loosegrip/wire/ApiKey" "HEARTBEAT" "Lcom/example/loose_grip/loosegrip/wire/ApiKey;" (.ref w_HEARTBEAT)) (S_LEAVE_GROUP : Sta Z Z.heap "com/example/loose_grip/loosegrip/wire/ApiKey" "LEAVE_GROUP" "Lcom/example/loose_grip/loosegrip/wire/ApiKey;" (.ref w_LEAVE_GROUP)) (S_SYNC_GROUP : Sta Z Z.heap "com/example/loose_grip/loosegrip/wire/ApiKey" "SYNC_GROUP" "Lcom/example/loose_grip/loosegrip/wire/ApiKey;" (.ref w_SYNC_GROUP)) (S_DESCRIBE_GROUPS : Sta Z Z.heap "com/example/loose_grip/loosegrip/wire/ApiKey" "DESCRIBE_GROUPS" "Lcom/example/loose_grip/loosegrip/wire/ApiKey;" (.ref w_DESCRIBE_GROUPS)) (S_LIST_GROUPS : Sta Z Z.heap "com/example/loose_grip/loosegrip/wire/ApiKey" "LIST_GROUPS" "Lcom/example/loose_grip/loosegrip/wire/ApiKey;" (.ref w_LIST_GROUPS)) (S_API_VERSIONS : Sta Z Z.heap "com/example/loose_grip/loosegrip/wire/ApiKey" "API_VERSIONS" "Lcom/example/loose_grip/loosegrip/wire/ApiKey;" (.ref w_API_VERSIONS)) (F_FETCH_id : Fld Z Z.heap w_FETCH "com/example/loose_grip/loosegrip/wire/ApiKey" "id" "S" (.int (1 : Int32))) (F_LIST_OFFSETS_id : Fld Z Z.heap w_LIST_OFFSETS "com/example/loose_grip/loosegrip/wire/ApiKey" "id" "S" (.int (2 : Int32))) (F_METADATA_id : Fld Z Z.heap w_METADATA "com/example/loose_grip/loosegrip/wire/ApiKey" "id" "S" (.int (3 : Int32))) (F_OFFSET_COMMIT_id : Fld Z Z.heap w_OFFSET_COMMIT "com/example/loose_grip/loosegrip/wire/ApiKey" "id" "S" (.int (8 : Int32))) (F_OFFSET_FETCH_id : Fld Z Z.heap w_OFFSET_FETCH "com/example/loose_grip/loosegrip/wire/ApiKey" "id" "S" (.int (9 : Int32))) (F_FIND_COORDINATOR_id : Fld Z Z.heap w_FIND_COORDINATOR "com/example/loose_grip/loosegrip/wire/ApiKey" "id" "S" (.int (10 : Int32))) (F_JOIN_GROUP_id : Fld Z Z.heap w_JOIN_GROUP "com/example/loose_grip/loosegrip/wire/ApiKey" "id" "S" (.int (11 : Int32))) (F_HEARTBEAT_id : Fld Z Z.heap w_HEARTBEAT "com/example/loose_grip/loosegrip/wire/ApiKey" "id" "S" (.int (12 : Int32))) (F_LEAVE_GROUP_id : Fld Z Z.heap w_LEAVE_GROUP "com/example/loose_grip/loosegrip/wire/ApiKey" "id" "S" (.int (13 : Int32))) (F_SYNC_GROUP_id : Fld Z Z.heap w_SYNC_GROUP "com/example/loose_grip/loosegrip/wire/ApiKey" "id" "S" (.int (14 : Int32))) (F_DESCRIBE_GROUPS_id : Fld Z Z.heap w_DESCRIBE_GROUPS "com/example/loose_grip/loosegrip/wire/ApiKey" "id" "S" (.int (15 : Int32))) (F_LIST_GROUPS_id : Fld Z Z.heap w_LIST_GROUPS "com/example/loose_grip/loosegrip/wire/ApiKey" "id" "S" (.int (16 : Int32))) (F_API_VERSIONS_id : Fld Z Z.heap w_API_VERSIONS "com/example/loose_grip/loosegrip/wire/ApiKey" "id" "S" (.int (18 : Int32))) :
    own_G p.tables e below (own_E s (Q_law n0) room_1.cells room_1.slots) (T0.setTop (mkF m 26 #[.val (.int p1), .val (.int p2), .val (.int sm), .unset, .unset, .unset] [(.int t)])) := by
  show own_G p.tables e below _ (T0.setTop (mkF m 26 #[.val (.int p1), .val (.int p2), .val (.int sm), .unset, .unset, .unset] [(.int t)]))
  refine own_st (fun _ kS => XS.istoreN X0.here hx rfl (hb hby at_26) rfl (l' := #[.val (.int p1), .val (.int p2), .val (.int sm), .val (.int t), .unset, .unset]) rfl kS) ?_
  show own_G p.tables e below _ (T0.setTop (mkF m 27 #[.val (.int p1), .val (.int p2), .val (.int sm), .val (.int t), .unset, .unset] []))
  refine own_st (fun _ kS => XS.iloadN X0.here hx rfl (hb hby at_27) rfl kS) ?_
  show own_G p.tables e below _ (T0.setTop (mkF m 28 #[.val (.int p1), .val (.int p2), .val (.int sm), .val (.int t), .unset, .unset] [(.int t)]))
  obtain ⟨_, _, ⟨T1, L1, k1, n1⟩, -, X1, ⟨Lc1, hQ1, l1, y1, z1⟩, st1⟩ := Jvm.LawKit.callS X0 hx (y := (⟨"com/example/loose_grip/loosegrip/wire/ApiKey", "forId", "(S)Lcom/example/loose_grip/loosegrip/wire/ApiKey;"⟩ : MethodName)) hown (mvT hZ (hw _ (List.mem_of_getElem? (i := 0) rfl))) (mvT hZ (hw _ (List.mem_of_getElem? (i := 1) rfl))) (mvT hZ (hw _ (List.mem_of_getElem? (i := 2) rfl))) (mvT hZ (hw _ (List.mem_of_getElem? (i := 3) rfl))) (by decide) (backOf (W := 0) (rm_forId l Z a0 hw [] t wV kV w_FETCH w_LIST_OFFSETS w_METADATA w_OFFSET_COMMIT w_OFFSET_FETCH w_FIND_COORDINATOR w_JOIN_GROUP w_HEARTBEAT w_LEAVE_GROUP w_SYNC_GROUP w_DESCRIBE_GROUPS w_LIST_GROUPS w_API_VERSIONS h0 n0 Z0 O0 S_V R_V E_V F_FETCH_id F_LIST_OFFSETS_id F_METADATA_id F_OFFSET_COMMIT_id F_OFFSET_FETCH_id F_FIND_COORDINATOR_id F_JOIN_GROUP_id F_HEARTBEAT_id F_LEAVE_GROUP_id F_SYNC_GROUP_id F_DESCRIBE_GROUPS_id F_LIST_GROUPS_id F_API_VERSIONS_id) hZ (hw _ (List.mem_of_getElem? (i := 3) rfl)) (hw _ (List.mem_of_getElem? (i := 2) rfl)) (by decide) (by decide)) (g := (mkF m 28 #[.val (.int p1), .val (.int p2), .val (.int sm), .val (.int t), .unset, .unset] [(.int t)])) rfl (by rw [hml]; rfl) (argsL := [(.int t)]) (rest := []) (lenOf own_pd1 rfl) rfl (by show 2 * 0 + _ ≤ _; exact Nat.le_of_eq rfl) (hb hby at_28) (fun _ _ => ⟨rfl, e0, (by decide : 0 + 1 ≤ _), (by decide : 0 + 13 ≤ _)⟩)
  dsimp only [Pt.U, Pt.locs, Pt.cells, Pt.slots] at X1 l1 y1 z1 st1 hQ1
  subst l1 y1 z1
  obtain ⟨rfl, Nq1, Kc1⟩ := hQ1
  have N1 := Fr.app N0 Nq1
  have O1 := O0.keep Kc1 all0
  refine own_st st1 ?_
  show own_G p.tables e below _ (T1.setTop (mkF m 31 #[.val (.int p1), .val (.int p2), .val (.int sm), .val (.int t), .unset, .unset] [(own_key t w_FETCH w_LIST_OFFSETS w_METADATA w_OFFSET_COMMIT w_OFFSET_FETCH w_FIND_COORDINATOR w_JOIN_GROUP w_HEARTBEAT w_LEAVE_GROUP w_SYNC_GROUP w_DESCRIBE_GROUPS w_LIST_GROUPS w_API_VERSIONS)]))
  refine own_st (fun _ kS => XS.astore X1.here hx rfl (hb hby at_31) rfl (own_keyR t w_FETCH w_LIST_OFFSETS w_METADATA w_OFFSET_COMMIT w_OFFSET_FETCH w_FIND_COORDINATOR w_JOIN_GROUP w_HEARTBEAT w_LEAVE_GROUP w_SYNC_GROUP w_DESCRIBE_GROUPS w_LIST_GROUPS w_API_VERSIONS) (l' := #[.val (.int p1), .val (.int p2), .val (.int sm), .val (.int t), .val (own_key t w_FETCH w_LIST_OFFSETS w_METADATA w_OFFSET_COMMIT w_OFFSET_FETCH w_FIND_COORDINATOR w_JOIN_GROUP w_HEARTBEAT w_LEAVE_GROUP w_SYNC_GROUP w_DESCRIBE_GROUPS w_LIST_GROUPS w_API_VERSIONS), .unset]) ((XS.store1 (o := .unset) rfl (Or.inl rfl) (own_cat (own_keyR t w_FETCH w_LIST_OFFSETS w_METADATA w_OFFSET_COMMIT w_OFFSET_FETCH w_FIND_COORDINATOR w_JOIN_GROUP w_HEARTBEAT w_LEAVE_GROUP w_SYNC_GROUP w_DESCRIBE_GROUPS w_LIST_GROUPS w_API_VERSIONS))).trans rfl) kS) ?_
  show own_G p.tables e below _ (T1.setTop (mkF m 33 #[.val (.int p1), .val (.int p2), .val (.int sm), .val (.int t), .val (own_key t w_FETCH w_LIST_OFFSETS w_METADATA w_OFFSET_COMMIT w_OFFSET_FETCH w_FIND_COORDINATOR w_JOIN_GROUP w_HEARTBEAT w_LEAVE_GROUP w_SYNC_GROUP w_DESCRIBE_GROUPS w_LIST_GROUPS w_API_VERSIONS), .unset] []))
  refine own_st (fun _ kS => XS.iloadN X1.here hx rfl (hb hby at_33) rfl kS) ?_
  show own_G p.tables e below _ (T1.setTop (mkF m 34 #[.val (.int p1), .val (.int p2), .val (.int sm), .val (.int t), .val (own_key t w_FETCH w_LIST_OFFSETS w_METADATA w_OFFSET_COMMIT w_OFFSET_FETCH w_FIND_COORDINATOR w_JOIN_GROUP w_HEARTBEAT w_LEAVE_GROUP w_SYNC_GROUP w_DESCRIBE_GROUPS w_LIST_GROUPS w_API_VERSIONS), .unset] [(.int t)]))
  obtain ⟨_, _, ⟨T2, L2, k2, n2⟩, -, X2, ⟨Lc2, hQ2, l2, y2, z2⟩, st2⟩ := Jvm.LawKit.callS X1 hx (y := (⟨"com/example/loose_grip/loosegrip/wire/ApiKeyForIdPinLaw", "expected", "(S)Lcom/example/loose_grip/loosegrip/wire/ApiKey;"⟩ : MethodName)) hown (mvT hZ (hw _ (List.mem_of_getElem? (i := 34) rfl))) (mvT hZ (hw _ (List.mem_of_getElem? (i := 35) rfl))) (mvT hZ (hw _ (List.mem_of_getElem? (i := 36) rfl))) (mvT hZ (hw _ (List.mem_of_getElem? (i := 37) rfl))) (by decide) (backOf (W := 0) (rm_expected l Z a0 hw [] t w_FETCH w_LIST_OFFSETS w_METADATA w_OFFSET_COMMIT w_OFFSET_FETCH w_FIND_COORDINATOR w_JOIN_GROUP w_HEARTBEAT w_LEAVE_GROUP w_SYNC_GROUP w_DESCRIBE_GROUPS w_LIST_GROUPS w_API_VERSIONS T1.heap n0 (Nat.le_trans Z0 Kc1.1) O1 S_FETCH S_LIST_OFFSETS S_METADATA S_OFFSET_COMMIT S_OFFSET_FETCH S_FIND_COORDINATOR S_JOIN_GROUP S_HEARTBEAT S_LEAVE_GROUP S_SYNC_GROUP S_DESCRIBE_GROUPS S_LIST_GROUPS S_API_VERSIONS) hZ (hw _ (List.mem_of_getElem? (i := 37) rfl)) (hw _ (List.mem_of_getElem? (i := 36) rfl)) (by decide) (by decide)) (g := (mkF m 34 #[.val (.int p1), .val (.int p2), .val (.int sm), .val (.int t), .val (own_key t w_FETCH w_LIST_OFFSETS w_METADATA w_OFFSET_COMMIT w_OFFSET_FETCH w_FIND_COORDINATOR w_JOIN_GROUP w_HEARTBEAT w_LEAVE_GROUP w_SYNC_GROUP w_DESCRIBE_GROUPS w_LIST_GROUPS w_API_VERSIONS), .unset] [(.int t)])) rfl (by rw [hml]; rfl) (argsL := [(.int t)]) (rest := []) (lenOf own_pd1 rfl) rfl (by show 2 * 0 + _ ≤ _; exact Nat.le_of_eq rfl) (hb hby at_34) (fun _ _ => ⟨rfl, rfl, (by decide : 1 + 0 ≤ _), (by decide : 13 + 0 ≤ _)⟩)
  dsimp only [Pt.U, Pt.locs, Pt.cells, Pt.slots] at X2 l2 y2 z2 st2 hQ2
  subst l2 y2 z2
  obtain ⟨rfl, Nq2, eq2⟩ := hQ2
  have N2 := Fr.app N1 Nq2
  refine own_st st2 ?_
  show own_G p.tables e below _ (T2.setTop (mkF m 37 #[.val (.int p1), .val (.int p2), .val (.int sm), .val (.int t), .val (own_key t w_FETCH w_LIST_OFFSETS w_METADATA w_OFFSET_COMMIT w_OFFSET_FETCH w_FIND_COORDINATOR w_JOIN_GROUP w_HEARTBEAT w_LEAVE_GROUP w_SYNC_GROUP w_DESCRIBE_GROUPS w_LIST_GROUPS w_API_VERSIONS), .unset] [(own_key t w_FETCH w_LIST_OFFSETS w_METADATA w_OFFSET_COMMIT w_OFFSET_FETCH w_FIND_COORDINATOR w_JOIN_GROUP w_HEARTBEAT w_LEAVE_GROUP w_SYNC_GROUP w_DESCRIBE_GROUPS w_LIST_GROUPS w_API_VERSIONS)]))
  refine own_st (fun _ kS => XS.astore X2.here hx rfl (hb hby at_37) rfl (own_keyR t w_FETCH w_LIST_OFFSETS w_METADATA w_OFFSET_COMMIT w_OFFSET_FETCH w_FIND_COORDINATOR w_JOIN_GROUP w_HEARTBEAT w_LEAVE_GROUP w_SYNC_GROUP w_DESCRIBE_GROUPS w_LIST_GROUPS w_API_VERSIONS) (l' := #[.val (.int p1), .val (.int p2), .val (.int sm), .val (.int t), .val (own_key t w_FETCH w_LIST_OFFSETS w_METADATA w_OFFSET_COMMIT w_OFFSET_FETCH w_FIND_COORDINATOR w_JOIN_GROUP w_HEARTBEAT w_LEAVE_GROUP w_SYNC_GROUP w_DESCRIBE_GROUPS w_LIST_GROUPS w_API_VERSIONS), .val (own_key t w_FETCH w_LIST_OFFSETS w_METADATA w_OFFSET_COMMIT w_OFFSET_FETCH w_FIND_COORDINATOR w_JOIN_GROUP w_HEARTBEAT w_LEAVE_GROUP w_SYNC_GROUP w_DESCRIBE_GROUPS w_LIST_GROUPS w_API_VERSIONS)]) ((XS.store1 (o := .unset) rfl (Or.inl rfl) (own_cat (own_keyR t w_FETCH w_LIST_OFFSETS w_METADATA w_OFFSET_COMMIT w_OFFSET_FETCH w_FIND_COORDINATOR w_JOIN_GROUP w_HEARTBEAT w_LEAVE_GROUP w_SYNC_GROUP w_DESCRIBE_GROUPS w_LIST_GROUPS w_API_VERSIONS))).trans rfl) kS) ?_
  show own_G p.tables e below _ (T2.setTop (mkF m 39 #[.val (.int p1), .val (.int p2), .val (.int sm), .val (.int t), .val (own_key t w_FETCH w_LIST_OFFSETS w_METADATA w_OFFSET_COMMIT w_OFFSET_FETCH w_FIND_COORDINATOR w_JOIN_GROUP w_HEARTBEAT w_LEAVE_GROUP w_SYNC_GROUP w_DESCRIBE_GROUPS w_LIST_GROUPS w_API_VERSIONS), .val (own_key t w_FETCH w_LIST_OFFSETS w_METADATA w_OFFSET_COMMIT w_OFFSET_FETCH w_FIND_COORDINATOR w_JOIN_GROUP w_HEARTBEAT w_LEAVE_GROUP w_SYNC_GROUP w_DESCRIBE_GROUPS w_LIST_GROUPS w_API_VERSIONS)] []))
  refine own_st (fun _ kS => XS.aload X2.here hx rfl (hb hby at_39) rfl (own_keyR t w_FETCH w_LIST_OFFSETS w_METADATA w_OFFSET_COMMIT w_OFFSET_FETCH w_FIND_COORDINATOR w_JOIN_GROUP w_HEARTBEAT w_LEAVE_GROUP w_SYNC_GROUP w_DESCRIBE_GROUPS w_LIST_GROUPS w_API_VERSIONS) kS) ?_
  show own_G p.tables e below _ (T2.setTop (mkF m 41 #[.val (.int p1), .val (.int p2), .val (.int sm), .val (.int t), .val (own_key t w_FETCH w_LIST_OFFSETS w_METADATA w_OFFSET_COMMIT w_OFFSET_FETCH w_FIND_COORDINATOR w_JOIN_GROUP w_HEARTBEAT w_LEAVE_GROUP w_SYNC_GROUP w_DESCRIBE_GROUPS w_LIST_GROUPS w_API_VERSIONS), .val (own_key t w_FETCH w_LIST_OFFSETS w_METADATA w_OFFSET_COMMIT w_OFFSET_FETCH w_FIND_COORDINATOR w_JOIN_GROUP w_HEARTBEAT w_LEAVE_GROUP w_SYNC_GROUP w_DESCRIBE_GROUPS w_LIST_GROUPS w_API_VERSIONS)] [(own_key t w_FETCH w_LIST_OFFSETS w_METADATA w_OFFSET_COMMIT w_OFFSET_FETCH w_FIND_COORDINATOR w_JOIN_GROUP w_HEARTBEAT w_LEAVE_GROUP w_SYNC_GROUP w_DESCRIBE_GROUPS w_LIST_GROUPS w_API_VERSIONS)]))
  refine own_st (fun _ kS => XS.aload X2.here hx rfl (hb hby at_41) rfl (own_keyR t w_FETCH w_LIST_OFFSETS w_METADATA w_OFFSET_COMMIT w_OFFSET_FETCH w_FIND_COORDINATOR w_JOIN_GROUP w_HEARTBEAT w_LEAVE_GROUP w_SYNC_GROUP w_DESCRIBE_GROUPS w_LIST_GROUPS w_API_VERSIONS) kS) ?_
  show own_G p.tables e below _ (T2.setTop (mkF m 43 #[.val (.int p1), .val (.int p2), .val (.int sm), .val (.int t), .val (own_key t w_FETCH w_LIST_OFFSETS w_METADATA w_OFFSET_COMMIT w_OFFSET_FETCH w_FIND_COORDINATOR w_JOIN_GROUP w_HEARTBEAT w_LEAVE_GROUP w_SYNC_GROUP w_DESCRIBE_GROUPS w_LIST_GROUPS w_API_VERSIONS), .val (own_key t w_FETCH w_LIST_OFFSETS w_METADATA w_OFFSET_COMMIT w_OFFSET_FETCH w_FIND_COORDINATOR w_JOIN_GROUP w_HEARTBEAT w_LEAVE_GROUP w_SYNC_GROUP w_DESCRIBE_GROUPS w_LIST_GROUPS w_API_VERSIONS)] [(own_key t w_FETCH w_LIST_OFFSETS w_METADATA w_OFFSET_COMMIT w_OFFSET_FETCH w_FIND_COORDINATOR w_JOIN_GROUP w_HEARTBEAT w_LEAVE_GROUP w_SYNC_GROUP w_DESCRIBE_GROUPS w_LIST_GROUPS w_API_VERSIONS), (own_key t w_FETCH w_LIST_OFFSETS w_METADATA w_OFFSET_COMMIT w_OFFSET_FETCH w_FIND_COORDINATOR w_JOIN_GROUP w_HEARTBEAT w_LEAVE_GROUP w_SYNC_GROUP w_DESCRIBE_GROUPS w_LIST_GROUPS w_API_VERSIONS)]))
  refine own_st (fun _ kS => Jvm.RoadKit.acmp (g := (mkF m 43 #[.val (.int p1), .val (.int p2), .val (.int sm), .val (.int t), .val (own_key t w_FETCH w_LIST_OFFSETS w_METADATA w_OFFSET_COMMIT w_OFFSET_FETCH w_FIND_COORDINATOR w_JOIN_GROUP w_HEARTBEAT w_LEAVE_GROUP w_SYNC_GROUP w_DESCRIBE_GROUPS w_LIST_GROUPS w_API_VERSIONS), .val (own_key t w_FETCH w_LIST_OFFSETS w_METADATA w_OFFSET_COMMIT w_OFFSET_FETCH w_FIND_COORDINATOR w_JOIN_GROUP w_HEARTBEAT w_LEAVE_GROUP w_SYNC_GROUP w_DESCRIBE_GROUPS w_LIST_GROUPS w_API_VERSIONS)] [(own_key t w_FETCH w_LIST_OFFSETS w_METADATA w_OFFSET_COMMIT w_OFFSET_FETCH w_FIND_COORDINATOR w_JOIN_GROUP w_HEARTBEAT w_LEAVE_GROUP w_SYNC_GROUP w_DESCRIBE_GROUPS w_LIST_GROUPS w_API_VERSIONS), (own_key t w_FETCH w_LIST_OFFSETS w_METADATA w_OFFSET_COMMIT w_OFFSET_FETCH w_FIND_COORDINATOR w_JOIN_GROUP w_HEARTBEAT w_LEAVE_GROUP w_SYNC_GROUP w_DESCRIBE_GROUPS w_LIST_GROUPS w_API_VERSIONS)])) X2 hx rfl (own_keyR t w_FETCH w_LIST_OFFSETS w_METADATA w_OFFSET_COMMIT w_OFFSET_FETCH w_FIND_COORDINATOR w_JOIN_GROUP w_HEARTBEAT w_LEAVE_GROUP w_SYNC_GROUP w_DESCRIBE_GROUPS w_LIST_GROUPS w_API_VERSIONS) (own_keyR t w_FETCH w_LIST_OFFSETS w_METADATA w_OFFSET_COMMIT w_OFFSET_FETCH w_FIND_COORDINATOR w_JOIN_GROUP w_HEARTBEAT w_LEAVE_GROUP w_SYNC_GROUP w_DESCRIBE_GROUPS w_LIST_GROUPS w_API_VERSIONS) (pc0 := 43) (pc' := 46) (same := true) rfl (hb hby at_43) rfl (decide_eq_true rfl) (by decide) (by decide) kS) ?_
  show own_G p.tables e below _ (T2.setTop (mkF m 46 #[.val (.int p1), .val (.int p2), .val (.int sm), .val (.int t), .val (own_key t w_FETCH w_LIST_OFFSETS w_METADATA w_OFFSET_COMMIT w_OFFSET_FETCH w_FIND_COORDINATOR w_JOIN_GROUP w_HEARTBEAT w_LEAVE_GROUP w_SYNC_GROUP w_DESCRIBE_GROUPS w_LIST_GROUPS w_API_VERSIONS), .val (own_key t w_FETCH w_LIST_OFFSETS w_METADATA w_OFFSET_COMMIT w_OFFSET_FETCH w_FIND_COORDINATOR w_JOIN_GROUP w_HEARTBEAT w_LEAVE_GROUP w_SYNC_GROUP w_DESCRIBE_GROUPS w_LIST_GROUPS w_API_VERSIONS)] []))
  refine own_st (fun _ kS => XS.iconst X2.here hx rfl (hb hby at_46) kS) ?_
  show own_G p.tables e below _ (T2.setTop (mkF m 47 #[.val (.int p1), .val (.int p2), .val (.int sm), .val (.int t), .val (own_key t w_FETCH w_LIST_OFFSETS w_METADATA w_OFFSET_COMMIT w_OFFSET_FETCH w_FIND_COORDINATOR w_JOIN_GROUP w_HEARTBEAT w_LEAVE_GROUP w_SYNC_GROUP w_DESCRIBE_GROUPS w_LIST_GROUPS w_API_VERSIONS), .val (own_key t w_FETCH w_LIST_OFFSETS w_METADATA w_OFFSET_COMMIT w_OFFSET_FETCH w_FIND_COORDINATOR w_JOIN_GROUP w_HEARTBEAT w_LEAVE_GROUP w_SYNC_GROUP w_DESCRIBE_GROUPS w_LIST_GROUPS w_API_VERSIONS)] [(.int (1 : Int32))]))
  refine own_st (fun _ kS => XS.goto X2.here hx rfl (pc0 := 47) (pc' := 51) rfl (hb hby at_47) (by decide) (by decide) kS) ?_
  show own_G p.tables e below _ (T2.setTop (mkF m 51 #[.val (.int p1), .val (.int p2), .val (.int sm), .val (.int t), .val (own_key t w_FETCH w_LIST_OFFSETS w_METADATA w_OFFSET_COMMIT w_OFFSET_FETCH w_FIND_COORDINATOR w_JOIN_GROUP w_HEARTBEAT w_LEAVE_GROUP w_SYNC_GROUP w_DESCRIBE_GROUPS w_LIST_GROUPS w_API_VERSIONS), .val (own_key t w_FETCH w_LIST_OFFSETS w_METADATA w_OFFSET_COMMIT w_OFFSET_FETCH w_FIND_COORDINATOR w_JOIN_GROUP w_HEARTBEAT w_LEAVE_GROUP w_SYNC_GROUP w_DESCRIBE_GROUPS w_LIST_GROUPS w_API_VERSIONS)] [(.int (1 : Int32))]))
  exact own_retN X2 hx hlk (t := .boolean) hret (by simp) (hb hby at_51) (by decide) (by decide) (v' := (1 : Int32)) rfl (by rw [eq2]; exact ⟨rfl, N2⟩)
theorem ef_law (m : MethodId) (x0 : Int32) (x1 : Int32) : entryFrame m #[(.int x0), (.int x1)] maxLocals = mkF m 0 #[.val (.int x0), .val (.int x1), .unset, .unset, .unset, .unset] [] := by first | (simp [entryFrame, mkF, argsToLocals, Value.category, maxLocals]; done) | rfl
set_option maxRecDepth 65536 in
set_option maxHeartbeats 40000000 in
theorem rm_law (l : Launch) (Z : State) (a0 : Array Value) (hw : ∀ d ∈ tables_1, d.before a0 Z = true) (ws : List Jvm.Cond) (p1 : Int32) (p2 : Int32) (wV : Addr) (kV : ClassId) (w_FETCH : Addr) (w_LIST_OFFSETS : Addr) (w_METADATA : Addr) (w_OFFSET_COMMIT : Addr) (w_OFFSET_FETCH : Addr) (w_FIND_COORDINATOR : Addr) (w_JOIN_GROUP : Addr) (w_HEARTBEAT : Addr) (w_LEAVE_GROUP : Addr) (w_SYNC_GROUP : Addr) (w_DESCRIBE_GROUPS : Addr) (w_LIST_GROUPS : Addr) (w_API_VERSIONS : Addr) (h0 : Heap) (n0 : Nat) (Z0 : n0 ≤ h0.size) (O0 : Old Z n0 h0) (S_V : Sta Z Z.heap "com/example/loose_grip/loosegrip/wire/ApiKey" "$VALUES" "[Lcom/example/loose_grip/loosegrip/wire/ApiKey;" (.ref wV)) (R_V : Arv Z Z.heap wV kV (.object "com/example/loose_grip/loosegrip/wire/ApiKey") (13 : Int32) [(.ref w_FETCH), (.ref w_LIST_OFFSETS), (.ref w_METADATA), (.ref w_OFFSET_COMMIT), (.ref w_OFFSET_FETCH), (.ref w_FIND_COORDINATOR), (.ref w_JOIN_GROUP), (.ref w_HEARTBEAT), (.ref w_LEAVE_GROUP), (.ref w_SYNC_GROUP), (.ref w_DESCRIBE_GROUPS), (.ref w_LIST_GROUPS), (.ref w_API_VERSIONS)] .null) (E_V : Exa Z Z.heap wV "[Lcom/example/loose_grip/loosegrip/wire/ApiKey;") (S_FETCH : Sta Z Z.heap "com/example/loose_grip/loosegrip/wire/ApiKey" "FETCH" "Lcom/example/loose_grip/loosegrip/wire/ApiKey;" (.ref w_FETCH)) (S_LIST_OFFSETS : Sta Z Z.heap "com/example/loose_grip/loosegrip/wire/ApiKey" "LIST_OFFSETS" "Lcom/example/loose_grip/loosegrip/wire/ApiKey;" (.ref w_LIST_OFFSETS)) (S_METADATA : Sta Z Z.heap "com/example/loose_grip/loosegrip/wire/ApiKey" "METADATA" "Lcom/example/loose_grip/loosegrip/wire/ApiKey;" (.ref w_METADATA)) (S_OFFSET_COMMIT : Sta Z Z.heap "com/example/loose_grip/loosegrip/wire/ApiKey" "OFFSET_COMMIT" "Lcom/example/loose_grip/loosegrip/wire/ApiKey;" (.ref w_OFFSET_COMMIT)) (S_OFFSET_FETCH : Sta Z Z.heap "com/example/loose_grip/loosegrip/wire/ApiKey" "OFFSET_FETCH" "Lcom/example/loose_grip/loosegrip/wire/ApiKey;" (.ref w_OFFSET_FETCH)) (S_FIND_COORDINATOR : Sta Z Z.heap "com/example/loose_grip/loosegrip/wire/ApiKey" "FIND_COORDINATOR" "Lcom/example/loose_grip/loosegrip/wire/ApiKey;" (.ref w_FIND_COORDINATOR)) (S_JOIN_GROUP : Sta Z Z.heap "com/example/loose_grip/loosegrip/wire/ApiKey" "JOIN_GROUP" "Lcom/example/loose_grip/loosegrip/wire/ApiKey;" (.ref w_JOIN_GROUP)) (S_HEARTBEAT : Sta Z Z.heap "com/example/loose_grip/loosegrip/wire/ApiKey" "HEARTBEAT" "Lcom/example/loose_grip/loosegrip/wire/ApiKey;" (.ref w_HEARTBEAT)) (S_LEAVE_GROUP : Sta Z Z.heap "com/example/loose_grip/loosegrip/wire/ApiKey" "LEAVE_GROUP" "Lcom/example/loose_grip/loosegrip/wire/ApiKey;" (.ref w_LEAVE_GROUP)) (S_SYNC_GROUP : Sta Z Z.heap "com/example/loose_grip/loosegrip/wire/ApiKey" "SYNC_GROUP" "Lcom/example/loose_grip/loosegrip/wire/ApiKey;" (.ref w_SYNC_GROUP)) (S_DESCRIBE_GROUPS : Sta Z Z.heap "com/example/loose_grip/loosegrip/wire/ApiKey" "DESCRIBE_GROUPS" "Lcom/example/loose_grip/loosegrip/wire/ApiKey;" (.ref w_DESCRIBE_GROUPS)) (S_LIST_GROUPS : Sta Z Z.heap "com/example/loose_grip/loosegrip/wire/ApiKey" "LIST_GROUPS" "Lcom/example/loose_grip/loosegrip/wire/ApiKey;" (.ref w_LIST_GROUPS)) (S_API_VERSIONS : Sta Z Z.heap "com/example/loose_grip/loosegrip/wire/ApiKey" "API_VERSIONS" "Lcom/example/loose_grip/loosegrip/wire/ApiKey;" (.ref w_API_VERSIONS)) (F_FETCH_id : Fld Z Z.heap w_FETCH "com/example/loose_grip/loosegrip/wire/ApiKey" "id" "S" (.int (1 : Int32))) (F_LIST_OFFSETS_id : Fld Z Z.heap w_LIST_OFFSETS "com/example/loose_grip/loosegrip/wire/ApiKey" "id" "S" (.int (2 : Int32))) (F_METADATA_id : Fld Z Z.heap w_METADATA "com/example/loose_grip/loosegrip/wire/ApiKey" "id" "S" (.int (3 : Int32))) (F_OFFSET_COMMIT_id : Fld Z Z.heap w_OFFSET_COMMIT "com/example/loose_grip/loosegrip/wire/ApiKey" "id" "S" (.int (8 : Int32))) (F_OFFSET_FETCH_id : Fld Z Z.heap w_OFFSET_FETCH "com/example/loose_grip/loosegrip/wire/ApiKey" "id" "S" (.int (9 : Int32))) (F_FIND_COORDINATOR_id : Fld Z Z.heap w_FIND_COORDINATOR "com/example/loose_grip/loosegrip/wire/ApiKey" "id" "S" (.int (10 : Int32))) (F_JOIN_GROUP_id : Fld Z Z.heap w_JOIN_GROUP "com/example/loose_grip/loosegrip/wire/ApiKey" "id" "S" (.int (11 : Int32))) (F_HEARTBEAT_id : Fld Z Z.heap w_HEARTBEAT "com/example/loose_grip/loosegrip/wire/ApiKey" "id" "S" (.int (12 : Int32))) (F_LEAVE_GROUP_id : Fld Z Z.heap w_LEAVE_GROUP "com/example/loose_grip/loosegrip/wire/ApiKey" "id" "S" (.int (13 : Int32))) (F_SYNC_GROUP_id : Fld Z Z.heap w_SYNC_GROUP "com/example/loose_grip/loosegrip/wire/ApiKey" "id" "S" (.int (14 : Int32))) (F_DESCRIBE_GROUPS_id : Fld Z Z.heap w_DESCRIBE_GROUPS "com/example/loose_grip/loosegrip/wire/ApiKey" "id" "S" (.int (15 : Int32))) (F_LIST_GROUPS_id : Fld Z Z.heap w_LIST_GROUPS "com/example/loose_grip/loosegrip/wire/ApiKey" "id" "S" (.int (16 : Int32))) (F_API_VERSIONS_id : Fld Z Z.heap w_API_VERSIONS "com/example/loose_grip/loosegrip/wire/ApiKey" "id" "S" (.int (18 : Int32))) :
    MetFree l x (head1 (Jvm.Cond.code x code maxLocals ret :: ws) room_1) (fun a U => a = #[(.int p1), (.int p2)] ∧ Z.Warmed39 U.vm ∧ U.heap = h0) (fun _ _ _ _ _ => True) (fun _ U o U' => ∃ v L, o = .returned v ∧ Q_law n0 v U'.heap L ∧ FrameEnd U o U' L room_1.cells room_1.slots) := by
  refine MetFree.of_bodySF (plainFor_of_name pn_0) hisR ?_
  intro p e s m args below meth c s₁ Bd hml0 hP hK
  obtain ⟨rfl, hZ, hh⟩ := hP
  have hx := Bd.exec
  have hby := Bd.bytes
  have hml : c.maxLocals = 6 := hml0
  have hown : s.vm.findClass "com/example/loose_grip/loosegrip/wire/ApiKeyForIdPinLaw" = some m.cls := findClass_of_methodNamed Bd.named
  have hnm := (name_of_methodNamed Bd.named Bd.method).1
  have hlk := Bd.notSynchronized
  have hret := Bd.returns
  have X0 : Stand p l e room_1 s m #[(.int p1), (.int p2)] below meth c s₁ [] 0 0 := Stand.of_body Bd
  have e0 : s₁.heap = h0 := by rw [← hh, Bd.state]; rfl
  have N0 := Fr.nil n0
  refine own_in room_1.cells room_1.slots (Q_law n0) (ef_law m p1 p2) ?_
  show own_G p.tables e below _ (s₁.setTop (mkF m 0 #[.val (.int p1), .val (.int p2), .unset, .unset, .unset, .unset] []))
  refine own_st (fun _ kS => XS.iloadN X0.here hx rfl (hb hby at_0) rfl kS) ?_
  show own_G p.tables e below _ (s₁.setTop (mkF m 1 #[.val (.int p1), .val (.int p2), .unset, .unset, .unset, .unset] [(.int p2)]))
  refine own_st (fun _ kS => XS.iconst X0.here hx rfl (hb hby at_1) kS) ?_
  show own_G p.tables e below _ (s₁.setTop (mkF m 2 #[.val (.int p1), .val (.int p2), .unset, .unset, .unset, .unset] [(.int (1 : Int32)), (.int p2)]))
  refine own_st (fun _ kS => XS.iand X0.here hx rfl (hb hby at_2) rfl kS) ?_
  show own_G p.tables e below _ (s₁.setTop (mkF m 3 #[.val (.int p1), .val (.int p2), .unset, .unset, .unset, .unset] [(.int (p2 &&& (1 : Int32)))]))
  by_cases hc3_1 : (p2 &&& (1 : Int32)) = (0 : Int32)
  · skip
    refine own_st (fun _ kS => XS.ifYes X0.here hx rfl (pc0 := 3) (pc' := 10) rfl (hb hby at_3) rfl ((if0 _ _).trans (teq hc3_1).1) (by decide) (by decide) kS) ?_
    show own_G p.tables e below _ (s₁.setTop (mkF m 10 #[.val (.int p1), .val (.int p2), .unset, .unset, .unset, .unset] []))
    refine own_st (fun _ kS => XS.iconst X0.here hx rfl (hb hby at_10) kS) ?_
    show own_G p.tables e below _ (s₁.setTop (mkF m 11 #[.val (.int p1), .val (.int p2), .unset, .unset, .unset, .unset] [(.int (0 : Int32))]))
    refine own_st (fun _ kS => XS.istoreN X0.here hx rfl (hb hby at_11) rfl (l' := #[.val (.int p1), .val (.int p2), .val (.int (0 : Int32)), .unset, .unset, .unset]) rfl kS) ?_
    show own_G p.tables e below _ (s₁.setTop (mkF m 12 #[.val (.int p1), .val (.int p2), .val (.int (0 : Int32)), .unset, .unset, .unset] []))
    refine own_st (fun _ kS => XS.iloadN X0.here hx rfl (hb hby at_12) rfl kS) ?_
    show own_G p.tables e below _ (s₁.setTop (mkF m 13 #[.val (.int p1), .val (.int p2), .val (.int (0 : Int32)), .unset, .unset, .unset] [(.int (0 : Int32))]))
    refine own_st (fun _ kS => XS.ifYes X0.here hx rfl (pc0 := 13) (pc' := 24) rfl (hb hby at_13) rfl ((if0 _ _).trans (teq (by decide : (0 : Int32) = (0 : Int32))).1) (by decide) (by decide) kS) ?_
    show own_G p.tables e below _ (s₁.setTop (mkF m 24 #[.val (.int p1), .val (.int p2), .val (.int (0 : Int32)), .unset, .unset, .unset] []))
    refine own_st (fun _ kS => XS.iloadN X0.here hx rfl (hb hby at_24) rfl kS) ?_
    show own_G p.tables e below _ (s₁.setTop (mkF m 25 #[.val (.int p1), .val (.int p2), .val (.int (0 : Int32)), .unset, .unset, .unset] [(.int p1)]))
    refine own_st (fun _ kS => XT.i2s X0.here hx rfl (hb hby at_25) rfl kS) ?_
    show own_G p.tables e below _ (s₁.setTop (mkF m 26 #[.val (.int p1), .val (.int p2), .val (.int (0 : Int32)), .unset, .unset, .unset] [(.int (p1.toInt16.toInt32))]))
    exact sg_A hx hby hml hown hlk hret hZ hw Z0  X0 e0 N0 O0 p1 p2 (0 : Int32) (p1.toInt16.toInt32) wV kV w_FETCH w_LIST_OFFSETS w_METADATA w_OFFSET_COMMIT w_OFFSET_FETCH w_FIND_COORDINATOR w_JOIN_GROUP w_HEARTBEAT w_LEAVE_GROUP w_SYNC_GROUP w_DESCRIBE_GROUPS w_LIST_GROUPS w_API_VERSIONS S_V R_V E_V S_FETCH S_LIST_OFFSETS S_METADATA S_OFFSET_COMMIT S_OFFSET_FETCH S_FIND_COORDINATOR S_JOIN_GROUP S_HEARTBEAT S_LEAVE_GROUP S_SYNC_GROUP S_DESCRIBE_GROUPS S_LIST_GROUPS S_API_VERSIONS F_FETCH_id F_LIST_OFFSETS_id F_METADATA_id F_OFFSET_COMMIT_id F_OFFSET_FETCH_id F_FIND_COORDINATOR_id F_JOIN_GROUP_id F_HEARTBEAT_id F_LEAVE_GROUP_id F_SYNC_GROUP_id F_DESCRIBE_GROUPS_id F_LIST_GROUPS_id F_API_VERSIONS_id
  · skip
    refine own_st (fun _ kS => XS.ifNo X0.here hx rfl (hb hby at_3) rfl ((if0 _ _).trans (feq hc3_1).1) kS) ?_
    show own_G p.tables e below _ (s₁.setTop (mkF m 6 #[.val (.int p1), .val (.int p2), .unset, .unset, .unset, .unset] []))
    refine own_st (fun _ kS => XS.iconst X0.here hx rfl (hb hby at_6) kS) ?_
    show own_G p.tables e below _ (s₁.setTop (mkF m 7 #[.val (.int p1), .val (.int p2), .unset, .unset, .unset, .unset] [(.int (1 : Int32))]))
    refine own_st (fun _ kS => XS.goto X0.here hx rfl (pc0 := 7) (pc' := 11) rfl (hb hby at_7) (by decide) (by decide) kS) ?_
    show own_G p.tables e below _ (s₁.setTop (mkF m 11 #[.val (.int p1), .val (.int p2), .unset, .unset, .unset, .unset] [(.int (1 : Int32))]))
    refine own_st (fun _ kS => XS.istoreN X0.here hx rfl (hb hby at_11) rfl (l' := #[.val (.int p1), .val (.int p2), .val (.int (1 : Int32)), .unset, .unset, .unset]) rfl kS) ?_
    show own_G p.tables e below _ (s₁.setTop (mkF m 12 #[.val (.int p1), .val (.int p2), .val (.int (1 : Int32)), .unset, .unset, .unset] []))
    refine own_st (fun _ kS => XS.iloadN X0.here hx rfl (hb hby at_12) rfl kS) ?_
    show own_G p.tables e below _ (s₁.setTop (mkF m 13 #[.val (.int p1), .val (.int p2), .val (.int (1 : Int32)), .unset, .unset, .unset] [(.int (1 : Int32))]))
    refine own_st (fun _ kS => XS.ifNo X0.here hx rfl (hb hby at_13) rfl ((if0 _ _).trans (feq (by decide : ¬ ((1 : Int32) = (0 : Int32)))).1) kS) ?_
    show own_G p.tables e below _ (s₁.setTop (mkF m 16 #[.val (.int p1), .val (.int p2), .val (.int (1 : Int32)), .unset, .unset, .unset] []))
    refine own_st (fun _ kS => XS.iloadN X0.here hx rfl (hb hby at_16) rfl kS) ?_
    show own_G p.tables e below _ (s₁.setTop (mkF m 17 #[.val (.int p1), .val (.int p2), .val (.int (1 : Int32)), .unset, .unset, .unset] [(.int p1)]))
    refine own_st (fun _ kS => XS.bipush X0.here hx rfl (hb hby at_17) kS) ?_
    show own_G p.tables e below _ (s₁.setTop (mkF m 19 #[.val (.int p1), .val (.int p2), .val (.int (1 : Int32)), .unset, .unset, .unset] [(.int (31 : Int32)), (.int p1)]))
    refine own_st (fun _ kS => XS.iand X0.here hx rfl (hb hby at_19) rfl kS) ?_
    show own_G p.tables e below _ (s₁.setTop (mkF m 20 #[.val (.int p1), .val (.int p2), .val (.int (1 : Int32)), .unset, .unset, .unset] [(.int (p1 &&& (31 : Int32)))]))
    refine own_st (fun _ kS => XT.i2s X0.here hx rfl (hb hby at_20) rfl kS) ?_
    show own_G p.tables e below _ (s₁.setTop (mkF m 21 #[.val (.int p1), .val (.int p2), .val (.int (1 : Int32)), .unset, .unset, .unset] [(.int ((p1 &&& (31 : Int32)).toInt16.toInt32))]))
    refine own_st (fun _ kS => XS.goto X0.here hx rfl (pc0 := 21) (pc' := 26) rfl (hb hby at_21) (by decide) (by decide) kS) ?_
    show own_G p.tables e below _ (s₁.setTop (mkF m 26 #[.val (.int p1), .val (.int p2), .val (.int (1 : Int32)), .unset, .unset, .unset] [(.int ((p1 &&& (31 : Int32)).toInt16.toInt32))]))
    exact sg_A hx hby hml hown hlk hret hZ hw Z0  X0 e0 N0 O0 p1 p2 (1 : Int32) ((p1 &&& (31 : Int32)).toInt16.toInt32) wV kV w_FETCH w_LIST_OFFSETS w_METADATA w_OFFSET_COMMIT w_OFFSET_FETCH w_FIND_COORDINATOR w_JOIN_GROUP w_HEARTBEAT w_LEAVE_GROUP w_SYNC_GROUP w_DESCRIBE_GROUPS w_LIST_GROUPS w_API_VERSIONS S_V R_V E_V S_FETCH S_LIST_OFFSETS S_METADATA S_OFFSET_COMMIT S_OFFSET_FETCH S_FIND_COORDINATOR S_JOIN_GROUP S_HEARTBEAT S_LEAVE_GROUP S_SYNC_GROUP S_DESCRIBE_GROUPS S_LIST_GROUPS S_API_VERSIONS F_FETCH_id F_LIST_OFFSETS_id F_METADATA_id F_OFFSET_COMMIT_id F_OFFSET_FETCH_id F_FIND_COORDINATOR_id F_JOIN_GROUP_id F_HEARTBEAT_id F_LEAVE_GROUP_id F_SYNC_GROUP_id F_DESCRIBE_GROUPS_id F_LIST_GROUPS_id F_API_VERSIONS_id
set_option maxRecDepth 65536 in
set_option maxHeartbeats 40000000 in
theorem comes_1 {Post : Tables → Env → Array Value → State → Outcome → State → Prop} (hpost : ∀ tb e args s v u, (limb_1_1.after args s (.returned v) u = true ∧ limb_1_2.after args s (.returned v) u = true ∧ True) → FrameEnd s (.returned v) u (Jvm.fieldLocs frame_1_writes args s ++ Jvm.arrayLocs frame_1_arrays args s ++ Jvm.staticLocs frame_1_statics s) 16 128 → Post tb e args s (.returned v) u) :
    ArmFor flags0 classFile x code maxLocals ret World_1 tables_1 room_1 Calls_1 rest_1 Pre_1 Post := by
  intro l hfl _ _ p e ha hc hk s m args below hf hA hF happ hP
  obtain ⟨hcalls, hrest, hpre⟩ := hP
  obtain ⟨-, -, -, hnamed, -, -, -, hat⟩ := (Spec.applies_iff hf).mp happ
  obtain ⟨hg, hn⟩ := and_e (Cond.before_iff.mp (show (Jvm.Cond.and given_1 narrow_1).before args s = true from hpre))
  obtain ⟨g1a, g1b⟩ := and_e hg
  obtain ⟨g2a, g2b⟩ := and_e g1b
  obtain ⟨w0, w1, rfl⟩ : ∃ w0 w1 : Value, args = #[w0, w1] := by
    have hs : args.size = 2 := by simpa [Cond.value, given_1] using g1a
    obtain ⟨L⟩ := args
    match L, hs with
    | [w0, w1], _ => exact ⟨w0, w1, rfl⟩
  have hw := fun d (hd : d ∈ tables_1) => atoms_spec (ws := Jvm.Cond.code x code maxLocals ret :: tables_1) hat d (List.mem_cons_of_mem _ hd)
  have hfit : Fit s := fun {y c} hc i hi => by
    obtain ⟨ha, rfl⟩ := Array.getElem?_eq_some_iff.mp hc
    have q := List.all_eq_true.mp ((Array.all_eq_true_iff_forall_mem.mp hF) _ (Array.getElem_mem ha)) i (List.mem_range.mpr hi)
    simpa [Array.getElem?_eq_getElem hi] using q
  obtain ⟨i0, ei0⟩ := is_v g2a
  obtain rfl : w0 = (.int i0) := Option.some.inj ei0
  obtain ⟨i1, ei1⟩ := is_v g2b
  obtain rfl : w1 = (.int i1) := Option.some.inj ei1
  obtain ⟨g3a, g3b⟩ := and_e hn
  obtain ⟨g4a, g4b⟩ := and_e g3b
  obtain ⟨g5a, g5b⟩ := and_e g4b
  obtain ⟨g6a, g6b⟩ := and_e g5b
  obtain ⟨g7a, g7b⟩ := and_e g6b
  obtain ⟨g8a, g8b⟩ := and_e g7b
  obtain ⟨g9a, g9b⟩ := and_e g8b
  obtain ⟨g10a, g10b⟩ := and_e g9b
  obtain ⟨g11a, g11b⟩ := and_e g10b
  obtain ⟨g12a, g12b⟩ := and_e g11b
  obtain ⟨g13a, g13b⟩ := and_e g12b
  obtain ⟨g14a, g14b⟩ := and_e g13b
  obtain ⟨g15a, g15b⟩ := and_e g14b
  obtain ⟨g16a, g16b⟩ := and_e g15b
  obtain ⟨g17a, g17b⟩ := and_e g16b
  obtain ⟨g18a, g18b⟩ := and_e g17b
  obtain ⟨g19a, g19b⟩ := and_e g18b
  obtain ⟨g20a, g20b⟩ := and_e g19b
  obtain ⟨g21a, g21b⟩ := and_e g20b
  obtain ⟨g22a, g22b⟩ := and_e g21b
  obtain ⟨g23a, g23b⟩ := and_e g22b
  obtain ⟨g24a, g24b⟩ := and_e g23b
  obtain ⟨g25a, g25b⟩ := and_e g24b
  obtain ⟨g26a, g26b⟩ := and_e g25b
  obtain ⟨g27a, g27b⟩ := and_e g26b
  obtain ⟨g28a, g28b⟩ := and_e g27b
  obtain ⟨g29a, g29b⟩ := and_e g28b
  obtain ⟨g30a, g30b⟩ := and_e g29b
  obtain ⟨g31a, g31b⟩ := and_e g30b
  obtain ⟨g32a, g32b⟩ := and_e g31b
  obtain ⟨g33a, g33b⟩ := and_e g32b
  obtain ⟨g34a, g34b⟩ := and_e g33b
  obtain ⟨g35a, g35b⟩ := and_e g34b
  obtain ⟨g36a, g36b⟩ := and_e g35b
  obtain ⟨g37a, g37b⟩ := and_e g36b
  obtain ⟨g38a, g38b⟩ := and_e g37b
  obtain ⟨g39a, g39b⟩ := and_e g38b
  obtain ⟨g40a, g40b⟩ := and_e g39b
  obtain ⟨g41a, g41b⟩ := and_e g40b
  obtain ⟨g42a, g42b⟩ := and_e g41b
  obtain ⟨g43a, g43b⟩ := and_e g42b
  obtain ⟨w_FETCH, v_FETCH⟩ := exa_v g6a
  have E_FETCH := Exa.start v_FETCH g6a
  have S_FETCH := Sta.start v_FETCH (Or.inr ⟨(hw _ (List.mem_of_getElem? (i := 2) rfl)), (hw _ (List.mem_of_getElem? (i := 16) rfl))⟩)
  obtain ⟨w_LIST_OFFSETS, v_LIST_OFFSETS⟩ := exa_v g8a
  have E_LIST_OFFSETS := Exa.start v_LIST_OFFSETS g8a
  have S_LIST_OFFSETS := Sta.start v_LIST_OFFSETS (Or.inr ⟨(hw _ (List.mem_of_getElem? (i := 2) rfl)), (hw _ (List.mem_of_getElem? (i := 17) rfl))⟩)
  obtain ⟨w_METADATA, v_METADATA⟩ := exa_v g10a
  have E_METADATA := Exa.start v_METADATA g10a
  have S_METADATA := Sta.start v_METADATA (Or.inr ⟨(hw _ (List.mem_of_getElem? (i := 2) rfl)), (hw _ (List.mem_of_getElem? (i := 18) rfl))⟩)
  obtain ⟨w_OFFSET_COMMIT, v_OFFSET_COMMIT⟩ := exa_v g12a
  have E_OFFSET_COMMIT := Exa.start v_OFFSET_COMMIT g12a
  have S_OFFSET_COMMIT := Sta.start v_OFFSET_COMMIT (Or.inr ⟨(hw _ (List.mem_of_getElem? (i := 2) rfl)), (hw _ (List.mem_of_getElem? (i := 19) rfl))⟩)
  obtain ⟨w_OFFSET_FETCH, v_OFFSET_FETCH⟩ := exa_v g14a
  have E_OFFSET_FETCH := Exa.start v_OFFSET_FETCH g14a
  have S_OFFSET_FETCH := Sta.start v_OFFSET_FETCH (Or.inr ⟨(hw _ (List.mem_of_getElem? (i := 2) rfl)), (hw _ (List.mem_of_getElem? (i := 20) rfl))⟩)
  obtain ⟨w_FIND_COORDINATOR, v_FIND_COORDINATOR⟩ := exa_v g16a
  have E_FIND_COORDINATOR := Exa.start v_FIND_COORDINATOR g16a
  have S_FIND_COORDINATOR := Sta.start v_FIND_COORDINATOR (Or.inr ⟨(hw _ (List.mem_of_getElem? (i := 2) rfl)), (hw _ (List.mem_of_getElem? (i := 21) rfl))⟩)
  obtain ⟨w_JOIN_GROUP, v_JOIN_GROUP⟩ := exa_v g18a
  have E_JOIN_GROUP := Exa.start v_JOIN_GROUP g18a
  have S_JOIN_GROUP := Sta.start v_JOIN_GROUP (Or.inr ⟨(hw _ (List.mem_of_getElem? (i := 2) rfl)), (hw _ (List.mem_of_getElem? (i := 22) rfl))⟩)
  obtain ⟨w_HEARTBEAT, v_HEARTBEAT⟩ := exa_v g20a
  have E_HEARTBEAT := Exa.start v_HEARTBEAT g20a
  have S_HEARTBEAT := Sta.start v_HEARTBEAT (Or.inr ⟨(hw _ (List.mem_of_getElem? (i := 2) rfl)), (hw _ (List.mem_of_getElem? (i := 23) rfl))⟩)
  obtain ⟨w_LEAVE_GROUP, v_LEAVE_GROUP⟩ := exa_v g22a
  have E_LEAVE_GROUP := Exa.start v_LEAVE_GROUP g22a
  have S_LEAVE_GROUP := Sta.start v_LEAVE_GROUP (Or.inr ⟨(hw _ (List.mem_of_getElem? (i := 2) rfl)), (hw _ (List.mem_of_getElem? (i := 24) rfl))⟩)
  obtain ⟨w_SYNC_GROUP, v_SYNC_GROUP⟩ := exa_v g24a
  have E_SYNC_GROUP := Exa.start v_SYNC_GROUP g24a
  have S_SYNC_GROUP := Sta.start v_SYNC_GROUP (Or.inr ⟨(hw _ (List.mem_of_getElem? (i := 2) rfl)), (hw _ (List.mem_of_getElem? (i := 25) rfl))⟩)
  obtain ⟨w_DESCRIBE_GROUPS, v_DESCRIBE_GROUPS⟩ := exa_v g26a
  have E_DESCRIBE_GROUPS := Exa.start v_DESCRIBE_GROUPS g26a
  have S_DESCRIBE_GROUPS := Sta.start v_DESCRIBE_GROUPS (Or.inr ⟨(hw _ (List.mem_of_getElem? (i := 2) rfl)), (hw _ (List.mem_of_getElem? (i := 26) rfl))⟩)
  obtain ⟨w_LIST_GROUPS, v_LIST_GROUPS⟩ := exa_v g28a
  have E_LIST_GROUPS := Exa.start v_LIST_GROUPS g28a
  have S_LIST_GROUPS := Sta.start v_LIST_GROUPS (Or.inr ⟨(hw _ (List.mem_of_getElem? (i := 2) rfl)), (hw _ (List.mem_of_getElem? (i := 27) rfl))⟩)
  obtain ⟨w_API_VERSIONS, v_API_VERSIONS⟩ := exa_v g30a
  have E_API_VERSIONS := Exa.start v_API_VERSIONS g30a
  have S_API_VERSIONS := Sta.start v_API_VERSIONS (Or.inr ⟨(hw _ (List.mem_of_getElem? (i := 2) rfl)), (hw _ (List.mem_of_getElem? (i := 28) rfl))⟩)
  have F_FETCH_id : Fld s s.heap w_FETCH "com/example/loose_grip/loosegrip/wire/ApiKey" "id" "S" (.int (1 : Int32)) := Fld.start ((fld_at v_FETCH).symm.trans (eqv_i (Term.int_eval (1)) g32a))
  have F_LIST_OFFSETS_id : Fld s s.heap w_LIST_OFFSETS "com/example/loose_grip/loosegrip/wire/ApiKey" "id" "S" (.int (2 : Int32)) := Fld.start ((fld_at v_LIST_OFFSETS).symm.trans (eqv_i (Term.int_eval (2)) g33a))
  have F_METADATA_id : Fld s s.heap w_METADATA "com/example/loose_grip/loosegrip/wire/ApiKey" "id" "S" (.int (3 : Int32)) := Fld.start ((fld_at v_METADATA).symm.trans (eqv_i (Term.int_eval (3)) g34a))
  have F_OFFSET_COMMIT_id : Fld s s.heap w_OFFSET_COMMIT "com/example/loose_grip/loosegrip/wire/ApiKey" "id" "S" (.int (8 : Int32)) := Fld.start ((fld_at v_OFFSET_COMMIT).symm.trans (eqv_i (Term.int_eval (8)) g35a))
  have F_OFFSET_FETCH_id : Fld s s.heap w_OFFSET_FETCH "com/example/loose_grip/loosegrip/wire/ApiKey" "id" "S" (.int (9 : Int32)) := Fld.start ((fld_at v_OFFSET_FETCH).symm.trans (eqv_i (Term.int_eval (9)) g36a))
  have F_FIND_COORDINATOR_id : Fld s s.heap w_FIND_COORDINATOR "com/example/loose_grip/loosegrip/wire/ApiKey" "id" "S" (.int (10 : Int32)) := Fld.start ((fld_at v_FIND_COORDINATOR).symm.trans (eqv_i (Term.int_eval (10)) g37a))
  have F_JOIN_GROUP_id : Fld s s.heap w_JOIN_GROUP "com/example/loose_grip/loosegrip/wire/ApiKey" "id" "S" (.int (11 : Int32)) := Fld.start ((fld_at v_JOIN_GROUP).symm.trans (eqv_i (Term.int_eval (11)) g38a))
  have F_HEARTBEAT_id : Fld s s.heap w_HEARTBEAT "com/example/loose_grip/loosegrip/wire/ApiKey" "id" "S" (.int (12 : Int32)) := Fld.start ((fld_at v_HEARTBEAT).symm.trans (eqv_i (Term.int_eval (12)) g39a))
  have F_LEAVE_GROUP_id : Fld s s.heap w_LEAVE_GROUP "com/example/loose_grip/loosegrip/wire/ApiKey" "id" "S" (.int (13 : Int32)) := Fld.start ((fld_at v_LEAVE_GROUP).symm.trans (eqv_i (Term.int_eval (13)) g40a))
  have F_SYNC_GROUP_id : Fld s s.heap w_SYNC_GROUP "com/example/loose_grip/loosegrip/wire/ApiKey" "id" "S" (.int (14 : Int32)) := Fld.start ((fld_at v_SYNC_GROUP).symm.trans (eqv_i (Term.int_eval (14)) g41a))
  have F_DESCRIBE_GROUPS_id : Fld s s.heap w_DESCRIBE_GROUPS "com/example/loose_grip/loosegrip/wire/ApiKey" "id" "S" (.int (15 : Int32)) := Fld.start ((fld_at v_DESCRIBE_GROUPS).symm.trans (eqv_i (Term.int_eval (15)) g42a))
  have F_LIST_GROUPS_id : Fld s s.heap w_LIST_GROUPS "com/example/loose_grip/loosegrip/wire/ApiKey" "id" "S" (.int (16 : Int32)) := Fld.start ((fld_at v_LIST_GROUPS).symm.trans (eqv_i (Term.int_eval (16)) g43a))
  have F_API_VERSIONS_id : Fld s s.heap w_API_VERSIONS "com/example/loose_grip/loosegrip/wire/ApiKey" "id" "S" (.int (18 : Int32)) := Fld.start ((fld_at v_API_VERSIONS).symm.trans (eqv_i (Term.int_eval (18)) g43b))
  obtain ⟨wV, vV⟩ := arr_v g3a
  have E_V := Exa.start vV g4a
  obtain ⟨cV, AV⟩ := Arr.start vV g3a
  have S_V := Sta.start vV (Or.inl (hw _ (List.mem_of_getElem? (i := 29) rfl)))
  have qV := own_len vV AV g5a
  have el0 := own_elem vV AV (j := 0) g7a v_FETCH
  have el1 := own_elem vV AV (j := 1) g9a v_LIST_OFFSETS
  have el2 := own_elem vV AV (j := 2) g11a v_METADATA
  have el3 := own_elem vV AV (j := 3) g13a v_OFFSET_COMMIT
  have el4 := own_elem vV AV (j := 4) g15a v_OFFSET_FETCH
  have el5 := own_elem vV AV (j := 5) g17a v_FIND_COORDINATOR
  have el6 := own_elem vV AV (j := 6) g19a v_JOIN_GROUP
  have el7 := own_elem vV AV (j := 7) g21a v_HEARTBEAT
  have el8 := own_elem vV AV (j := 8) g23a v_LEAVE_GROUP
  have el9 := own_elem vV AV (j := 9) g25a v_SYNC_GROUP
  have el10 := own_elem vV AV (j := 10) g27a v_DESCRIBE_GROUPS
  have el11 := own_elem vV AV (j := 11) g29a v_LIST_GROUPS
  have el12 := own_elem vV AV (j := 12) g31a v_API_VERSIONS
  have R_V : Arv s s.heap wV cV.cls (.object "com/example/loose_grip/loosegrip/wire/ApiKey") (13 : Int32) [(.ref w_FETCH), (.ref w_LIST_OFFSETS), (.ref w_METADATA), (.ref w_OFFSET_COMMIT), (.ref w_OFFSET_FETCH), (.ref w_FIND_COORDINATOR), (.ref w_JOIN_GROUP), (.ref w_HEARTBEAT), (.ref w_LEAVE_GROUP), (.ref w_SYNC_GROUP), (.ref w_DESCRIBE_GROUPS), (.ref w_LIST_GROUPS), (.ref w_API_VERSIONS)] .null := Arv.start hfit AV qV.1 qV.2 (by decide) rfl ⟨el0, el1, el2, el3, el4, el5, el6, el7, el8, el9, el10, el11, el12, trivial⟩
  obtain ⟨n, o, h1, h2, h3, _, L, rfl, ⟨rfl, N⟩, hq⟩ := rm_law l s _ hw tables_1 i0 i1 wV cV.cls w_FETCH w_LIST_OFFSETS w_METADATA w_OFFSET_COMMIT w_OFFSET_FETCH w_FIND_COORDINATOR w_JOIN_GROUP w_HEARTBEAT w_LEAVE_GROUP w_SYNC_GROUP w_DESCRIBE_GROUPS w_LIST_GROUPS w_API_VERSIONS s.heap s.heap.size (Nat.le_refl _) (Old.start s) S_V R_V E_V S_FETCH S_LIST_OFFSETS S_METADATA S_OFFSET_COMMIT S_OFFSET_FETCH S_FIND_COORDINATOR S_JOIN_GROUP S_HEARTBEAT S_LEAVE_GROUP S_SYNC_GROUP S_DESCRIBE_GROUPS S_LIST_GROUPS S_API_VERSIONS F_FETCH_id F_LIST_OFFSETS_id F_METADATA_id F_OFFSET_COMMIT_id F_OFFSET_FETCH_id F_FIND_COORDINATOR_id F_JOIN_GROUP_id F_HEARTBEAT_id F_LEAVE_GROUP_id F_SYNC_GROUP_id F_DESCRIBE_GROUPS_id F_LIST_GROUPS_id F_API_VERSIONS_id p e ha hc hk s m _ below hf ((Spec.applies_iff_loose hf).mp happ).1 ⟨rfl, State.Warmed39.refl s, rfl⟩ trivial
  refine ⟨n, _, h1, h2, h3, hpost _ _ _ _ _ _ ⟨Cond.after_iff.mpr rfl, Cond.after_iff.mpr (eq_i res_at (Term.int_eval (1)) rfl), trivial⟩ ⟨hq.1, hq.2.1, (hq.2.2.sift fun y hy => Or.inr (N y hy)).mono (by decide) (by decide)⟩⟩
theorem main_1_1 : Claimed_1_1 := comes_1 fun _ _ _ _ _ _ h hF => ⟨h.1, hF⟩
theorem main_1_2 : Claimed_1_2 := comes_1 fun _ _ _ _ _ _ h hF => ⟨h.2.1, hF⟩
end Jvm.Pilot.@@N@@
namespace Jvm.Pilot.@@N@@
open Jvm Jvm.ClassFile Sem Op Lib Jvm.Free Jvm.Stand Jvm.Pilot.@@N@@.Jvm.D
/-! MADE BY PROGRAM (witnessworld.py) out of the Statement's table words and the real class files: 13 classes; the members and pool entries that the words name. The judged class is class 1, her method 2. -/
namespace start1
open Jvm.ClassFile
def u (s : String) : CpInfo := .utf8 (stringToUtf16 s)
/-- a pool by its gaps: so many unusable entries, then the entry; so many at the end -/
def gap : Nat → List CpInfo → List CpInfo
  | 0, r => r
  | n + 1, r => .unusable :: gap n r
def poolList (es : List (Nat × CpInfo)) (last : Nat) : List CpInfo := es.foldr (fun e r => gap e.1 (e.2 :: r)) (gap last [])
def pool (es : List (Nat × CpInfo)) (last : Nat) : Array CpInfo := ⟨poolList es last⟩
def fileOf (pool : Array CpInfo) (this : Nat) (attrs : Array Attribute := #[]) (ms : Array MethodInfo := #[]) (fl : Nat := 33) (sup : Nat := 0) (ifs : Array Nat := #[]) (fds : Array FieldInfo := #[]) : ClassFile where
  minorVersion := 0
  majorVersion := 65
  constantPool := pool
  accessFlags := fl
  thisClass := this
  superClass := sup
  interfaces := ifs
  fields := fds
  methods := ms
  attributes := attrs
def plain (name : String) (sup : Option ClassId) : Class where
  name := name
  kind := .ordinary
  loader := none
  accessFlags := 33
  super := sup
  interfaces := #[]
  cf := none
  fields := #[]
  methods := #[]
  instanceTypes := #[]
  staticTypes := #[]
  resolved := #[]
  callSites := []
  init := .initialized
  statics := none
  mirror := none

def pool0 : Array CpInfo := pool [(5, u "<init>"), (0, u "()V"), (1, .class_ 10), (1, u "java/lang/Object"), (85, u "clone"), (0, u "()Ljava/lang/Object;")] 26

def k0m0 : Method := { name := "<init>", desc := "()V", sig := { parameters := [], returnType := none }, accessFlags := 1, code := none }
def k0m1 : Method := { name := "clone", desc := "()Ljava/lang/Object;", sig := { parameters := [], returnType := some (.object "java/lang/Object") }, accessFlags := 260, code := none }
/-- java/lang/Object -/
def k0 : Class := { plain "java/lang/Object" none with
  accessFlags := 33
  interfaces := #[]
  cf := some (fileOf pool0 8 #[] #[{ accessFlags := 1, nameIndex := 5, descriptorIndex := 6, attributes := #[] }, { accessFlags := 260, nameIndex := 96, descriptorIndex := 97, attributes := #[] }] 33 0 #[] #[])
  fields := #[]
  methods := #[k0m0, k0m1]
  instanceTypes := #[]
  staticTypes := #[]
  resolved := Array.replicate 124 none
  statics := none }

def pool1 : Array CpInfo := pool [(2, .class_ 4), (1, u "java/lang/Object"), (0, u "<init>"), (0, u "()V"), (0, .fieldref 8 9), (0, .class_ 10), (0, .nameAndType 11 12), (0, u "com/example/loose_grip/loosegrip/wire/ApiKey"), (0, u "FETCH"), (0, u "Lcom/example/loose_grip/loosegrip/wire/ApiKey;"), (0, .fieldref 8 14), (0, .nameAndType 15 12), (0, u "LIST_OFFSETS"), (0, .fieldref 8 17), (0, .nameAndType 18 12), (0, u "METADATA"), (0, .fieldref 8 20), (0, .nameAndType 21 12), (0, u "OFFSET_COMMIT"), (0, .fieldref 8 23), (0, .nameAndType 24 12), (0, u "OFFSET_FETCH"), (0, .fieldref 8 26), (0, .nameAndType 27 12), (0, u "FIND_COORDINATOR"), (0, .fieldref 8 29), (0, .nameAndType 30 12), (0, u "JOIN_GROUP"), (0, .fieldref 8 32), (0, .nameAndType 33 12), (0, u "HEARTBEAT"), (0, .fieldref 8 35), (0, .nameAndType 36 12), (0, u "LEAVE_GROUP"), (0, .fieldref 8 38), (0, .nameAndType 39 12), (0, u "SYNC_GROUP"), (0, .fieldref 8 41), (0, .nameAndType 42 12), (0, u "DESCRIBE_GROUPS"), (0, .fieldref 8 44), (0, .nameAndType 45 12), (0, u "LIST_GROUPS"), (0, .fieldref 8 47), (0, .nameAndType 48 12), (0, u "API_VERSIONS"), (0, .methodref 8 50), (0, .nameAndType 51 52), (0, u "forId"), (0, u "(S)Lcom/example/loose_grip/loosegrip/wire/ApiKey;"), (0, .methodref 54 55), (0, .class_ 56), (0, .nameAndType 57 52), (0, u "com/example/loose_grip/loosegrip/wire/ApiKeyForIdPinLaw"), (0, u "expected"), (3, u "law"), (0, u "(II)Z")] 2

def k1m0 : Method := { name := "<init>", desc := "()V", sig := { parameters := [], returnType := none }, accessFlags := 2, code := none }
def k1c1 : Code := { maxStack := 2, maxLocals := 1, code := method_2_code, exceptionTable := #[], attributes := #[] }
def k1m1 : Method := { name := "expected", desc := "(S)Lcom/example/loose_grip/loosegrip/wire/ApiKey;", sig := { parameters := [.short], returnType := some (.object "com/example/loose_grip/loosegrip/wire/ApiKey") }, accessFlags := 10, code := some k1c1 }
def k1c2 : Code := { maxStack := 2, maxLocals := 6, code := code, exceptionTable := #[], attributes := #[] }
def k1m2 : Method := { name := "law", desc := "(II)Z", sig := { parameters := [.int, .int], returnType := some .boolean }, accessFlags := 9, code := some k1c2 }
/-- com/example/loose_grip/loosegrip/wire/ApiKeyForIdPinLaw -/
def k1 : Class := { plain "com/example/loose_grip/loosegrip/wire/ApiKeyForIdPinLaw" (some 0) with
  accessFlags := 49
  interfaces := #[]
  cf := some (fileOf pool1 54 #[] #[{ accessFlags := 2, nameIndex := 5, descriptorIndex := 6, attributes := #[] }, { accessFlags := 10, nameIndex := 57, descriptorIndex := 52, attributes := #[] }, { accessFlags := 9, nameIndex := 61, descriptorIndex := 62, attributes := #[] }] 49 2 #[] #[])
  fields := #[]
  methods := #[k1m0, k1m1, k1m2]
  instanceTypes := #[]
  staticTypes := #[]
  resolved := Array.replicate 65 none
  statics := none }

def pool2 : Array CpInfo := pool [(1, .class_ 2), (0, u "java/lang/constant/Constable"), (0, .class_ 4), (0, u "java/lang/Object")] 6

/-- java/lang/constant/Constable -/
def k2 : Class := { plain "java/lang/constant/Constable" (some 0) with
  accessFlags := 1537
  interfaces := #[]
  cf := some (fileOf pool2 1 #[] #[] 1537 3 #[] #[])
  fields := #[]
  methods := #[]
  instanceTypes := #[]
  staticTypes := #[]
  resolved := Array.replicate 11 none
  statics := none }

def pool3 : Array CpInfo := pool [(1, .class_ 2), (0, u "java/lang/Comparable"), (0, .class_ 4), (0, u "java/lang/Object")] 7

/-- java/lang/Comparable -/
def k3 : Class := { plain "java/lang/Comparable" (some 0) with
  accessFlags := 1537
  interfaces := #[]
  cf := some (fileOf pool3 1 #[] #[] 1537 3 #[] #[])
  fields := #[]
  methods := #[]
  instanceTypes := #[]
  staticTypes := #[]
  resolved := Array.replicate 12 none
  statics := none }

def pool4 : Array CpInfo := pool [(1, .class_ 2), (0, u "java/io/Serializable"), (0, .class_ 4), (0, u "java/lang/Object")] 2

/-- java/io/Serializable -/
def k4 : Class := { plain "java/io/Serializable" (some 0) with
  accessFlags := 1537
  interfaces := #[]
  cf := some (fileOf pool4 1 #[] #[] 1537 3 #[] #[])
  fields := #[]
  methods := #[]
  instanceTypes := #[]
  staticTypes := #[]
  resolved := Array.replicate 7 none
  statics := none }

def pool5 : Array CpInfo := pool [(2, .class_ 4), (1, u "java/lang/Enum"), (0, u "name"), (0, u "Ljava/lang/String;"), (2, u "ordinal"), (0, u "I"), (1, .class_ 14), (1, u "java/lang/Object"), (4, u "hash"), (86, .class_ 108), (1, u "java/lang/Enum$EnumDesc"), (2, .class_ 112), (0, u "java/lang/constant/Constable"), (0, .class_ 114), (0, u "java/lang/Comparable"), (0, .class_ 116), (0, u "java/io/Serializable")] 87

/-- java/lang/Enum -/
def k5 : Class := { plain "java/lang/Enum" (some 0) with
  accessFlags := 1057
  interfaces := #[2, 3, 4]
  cf := some (fileOf pool5 2 #[.nestMembers #[106]] #[] 1057 12 #[111, 113, 115] #[{ accessFlags := 18, nameIndex := 5, descriptorIndex := 6, attributes := #[] }, { accessFlags := 18, nameIndex := 9, descriptorIndex := 10, attributes := #[] }, { accessFlags := 2, nameIndex := 19, descriptorIndex := 10, attributes := #[] }])
  fields := #[{ name := "name", type := (.object "java/lang/String"), accessFlags := 18, slot := 0, constantValue := 0 }, { name := "ordinal", type := .int, accessFlags := 18, slot := 1, constantValue := 0 }, { name := "hash", type := .int, accessFlags := 2, slot := 2, constantValue := 0 }]
  methods := #[]
  instanceTypes := #[(.object "java/lang/String"), .int, .int]
  staticTypes := #[]
  resolved := Array.replicate 204 none
  statics := none }

def pool6 : Array CpInfo := pool [(1, .class_ 2), (0, u "com/example/loose_grip/loosegrip/wire/ApiKey"), (2, u "FETCH"), (0, u "Lcom/example/loose_grip/loosegrip/wire/ApiKey;"), (2, u "LIST_OFFSETS"), (2, u "METADATA"), (2, u "OFFSET_COMMIT"), (2, u "OFFSET_FETCH"), (2, u "FIND_COORDINATOR"), (2, u "JOIN_GROUP"), (2, u "HEARTBEAT"), (2, u "LEAVE_GROUP"), (2, u "SYNC_GROUP"), (2, u "DESCRIBE_GROUPS"), (2, u "LIST_GROUPS"), (2, u "API_VERSIONS"), (0, .fieldref 1 44), (0, .nameAndType 45 46), (0, u "$VALUES"), (0, u "[Lcom/example/loose_grip/loosegrip/wire/ApiKey;"), (0, .methodref 48 49), (0, .class_ 46), (0, .nameAndType 50 51), (0, u "clone"), (0, u "()Ljava/lang/Object;"), (1, .class_ 55), (1, u "java/lang/Enum"), (6, .fieldref 1 63), (0, .nameAndType 64 65), (0, u "id"), (0, u "S"), (2, u "protocolName"), (0, u "Ljava/lang/String;"), (2, u "minVersion"), (2, u "maxVersion"), (0, .methodref 1 77), (0, .nameAndType 78 79), (0, u "values"), (0, u "()[Lcom/example/loose_grip/loosegrip/wire/ApiKey;"), (51, u "forId"), (0, u "(S)Lcom/example/loose_grip/loosegrip/wire/ApiKey;")] 14

def k6c0 : Code := { maxStack := 1, maxLocals := 0, code := prog_36_method_1_code, exceptionTable := #[], attributes := #[] }
def k6m0 : Method := { name := "values", desc := "()[Lcom/example/loose_grip/loosegrip/wire/ApiKey;", sig := { parameters := [], returnType := some (.array (.object "com/example/loose_grip/loosegrip/wire/ApiKey")) }, accessFlags := 9, code := some k6c0 }
def k6c1 : Code := { maxStack := 2, maxLocals := 5, code := prog_36_method_4_code, exceptionTable := #[], attributes := #[] }
def k6m1 : Method := { name := "forId", desc := "(S)Lcom/example/loose_grip/loosegrip/wire/ApiKey;", sig := { parameters := [.short], returnType := some (.object "com/example/loose_grip/loosegrip/wire/ApiKey") }, accessFlags := 9, code := some k6c1 }
/-- com/example/loose_grip/loosegrip/wire/ApiKey -/
def k6 : Class := { plain "com/example/loose_grip/loosegrip/wire/ApiKey" (some 5) with
  accessFlags := 16433
  interfaces := #[]
  cf := some (fileOf pool6 1 #[] #[{ accessFlags := 9, nameIndex := 78, descriptorIndex := 79, attributes := #[] }, { accessFlags := 9, nameIndex := 131, descriptorIndex := 132, attributes := #[] }] 16433 53 #[] #[{ accessFlags := 16409, nameIndex := 5, descriptorIndex := 6, attributes := #[] }, { accessFlags := 16409, nameIndex := 9, descriptorIndex := 6, attributes := #[] }, { accessFlags := 16409, nameIndex := 12, descriptorIndex := 6, attributes := #[] }, { accessFlags := 16409, nameIndex := 15, descriptorIndex := 6, attributes := #[] }, { accessFlags := 16409, nameIndex := 18, descriptorIndex := 6, attributes := #[] }, { accessFlags := 16409, nameIndex := 21, descriptorIndex := 6, attributes := #[] }, { accessFlags := 16409, nameIndex := 24, descriptorIndex := 6, attributes := #[] }, { accessFlags := 16409, nameIndex := 27, descriptorIndex := 6, attributes := #[] }, { accessFlags := 16409, nameIndex := 30, descriptorIndex := 6, attributes := #[] }, { accessFlags := 16409, nameIndex := 33, descriptorIndex := 6, attributes := #[] }, { accessFlags := 16409, nameIndex := 36, descriptorIndex := 6, attributes := #[] }, { accessFlags := 16409, nameIndex := 39, descriptorIndex := 6, attributes := #[] }, { accessFlags := 16409, nameIndex := 42, descriptorIndex := 6, attributes := #[] }, { accessFlags := 18, nameIndex := 64, descriptorIndex := 65, attributes := #[] }, { accessFlags := 18, nameIndex := 68, descriptorIndex := 69, attributes := #[] }, { accessFlags := 18, nameIndex := 72, descriptorIndex := 65, attributes := #[] }, { accessFlags := 18, nameIndex := 75, descriptorIndex := 65, attributes := #[] }, { accessFlags := 4122, nameIndex := 45, descriptorIndex := 46, attributes := #[] }])
  fields := #[{ name := "FETCH", type := (.object "com/example/loose_grip/loosegrip/wire/ApiKey"), accessFlags := 16409, slot := 0, constantValue := 0 }, { name := "LIST_OFFSETS", type := (.object "com/example/loose_grip/loosegrip/wire/ApiKey"), accessFlags := 16409, slot := 1, constantValue := 0 }, { name := "METADATA", type := (.object "com/example/loose_grip/loosegrip/wire/ApiKey"), accessFlags := 16409, slot := 2, constantValue := 0 }, { name := "OFFSET_COMMIT", type := (.object "com/example/loose_grip/loosegrip/wire/ApiKey"), accessFlags := 16409, slot := 3, constantValue := 0 }, { name := "OFFSET_FETCH", type := (.object "com/example/loose_grip/loosegrip/wire/ApiKey"), accessFlags := 16409, slot := 4, constantValue := 0 }, { name := "FIND_COORDINATOR", type := (.object "com/example/loose_grip/loosegrip/wire/ApiKey"), accessFlags := 16409, slot := 5, constantValue := 0 }, { name := "JOIN_GROUP", type := (.object "com/example/loose_grip/loosegrip/wire/ApiKey"), accessFlags := 16409, slot := 6, constantValue := 0 }, { name := "HEARTBEAT", type := (.object "com/example/loose_grip/loosegrip/wire/ApiKey"), accessFlags := 16409, slot := 7, constantValue := 0 }, { name := "LEAVE_GROUP", type := (.object "com/example/loose_grip/loosegrip/wire/ApiKey"), accessFlags := 16409, slot := 8, constantValue := 0 }, { name := "SYNC_GROUP", type := (.object "com/example/loose_grip/loosegrip/wire/ApiKey"), accessFlags := 16409, slot := 9, constantValue := 0 }, { name := "DESCRIBE_GROUPS", type := (.object "com/example/loose_grip/loosegrip/wire/ApiKey"), accessFlags := 16409, slot := 10, constantValue := 0 }, { name := "LIST_GROUPS", type := (.object "com/example/loose_grip/loosegrip/wire/ApiKey"), accessFlags := 16409, slot := 11, constantValue := 0 }, { name := "API_VERSIONS", type := (.object "com/example/loose_grip/loosegrip/wire/ApiKey"), accessFlags := 16409, slot := 12, constantValue := 0 }, { name := "id", type := .short, accessFlags := 18, slot := 3, constantValue := 0 }, { name := "protocolName", type := (.object "java/lang/String"), accessFlags := 18, slot := 4, constantValue := 0 }, { name := "minVersion", type := .short, accessFlags := 18, slot := 5, constantValue := 0 }, { name := "maxVersion", type := .short, accessFlags := 18, slot := 6, constantValue := 0 }, { name := "$VALUES", type := (.array (.object "com/example/loose_grip/loosegrip/wire/ApiKey")), accessFlags := 4122, slot := 13, constantValue := 0 }]
  methods := #[k6m0, k6m1]
  instanceTypes := #[(.object "java/lang/String"), .int, .int, .short, (.object "java/lang/String"), .short, .short]
  staticTypes := #[(.object "com/example/loose_grip/loosegrip/wire/ApiKey"), (.object "com/example/loose_grip/loosegrip/wire/ApiKey"), (.object "com/example/loose_grip/loosegrip/wire/ApiKey"), (.object "com/example/loose_grip/loosegrip/wire/ApiKey"), (.object "com/example/loose_grip/loosegrip/wire/ApiKey"), (.object "com/example/loose_grip/loosegrip/wire/ApiKey"), (.object "com/example/loose_grip/loosegrip/wire/ApiKey"), (.object "com/example/loose_grip/loosegrip/wire/ApiKey"), (.object "com/example/loose_grip/loosegrip/wire/ApiKey"), (.object "com/example/loose_grip/loosegrip/wire/ApiKey"), (.object "com/example/loose_grip/loosegrip/wire/ApiKey"), (.object "com/example/loose_grip/loosegrip/wire/ApiKey"), (.object "com/example/loose_grip/loosegrip/wire/ApiKey"), (.array (.object "com/example/loose_grip/loosegrip/wire/ApiKey"))]
  resolved := Array.replicate 147 none
  statics := some 0 }

def pool7 : Array CpInfo := pool [(1, .class_ 2), (0, u "java/lang/Cloneable"), (0, .class_ 4), (0, u "java/lang/Object")] 2

/-- java/lang/Cloneable -/
def k7 : Class := { plain "java/lang/Cloneable" (some 0) with
  accessFlags := 1537
  interfaces := #[]
  cf := some (fileOf pool7 1 #[] #[] 1537 3 #[] #[])
  fields := #[]
  methods := #[]
  instanceTypes := #[]
  staticTypes := #[]
  resolved := Array.replicate 7 none
  statics := none }

/-- the primitive byte -/
def k8 : Class := { plain "byte" none with kind := .primitive 'B', accessFlags := 0x411 }
/-- [B -/
def k9 : Class := { plain "[B" (some 0) with kind := .array 8 .byte, interfaces := #[7, 4], accessFlags := 1041 }

/-- the primitive int -/
def k10 : Class := { plain "int" none with kind := .primitive 'I', accessFlags := 0x411 }
/-- [I -/
def k11 : Class := { plain "[I" (some 0) with kind := .array 10 .int, interfaces := #[7, 4], accessFlags := 1041 }

/-- [Lcom/example/loose_grip/loosegrip/wire/ApiKey; -/
def k12 : Class := { plain "[Lcom/example/loose_grip/loosegrip/wire/ApiKey;" (some 0) with kind := .array 6 (.object "com/example/loose_grip/loosegrip/wire/ApiKey"), interfaces := #[7, 4], accessFlags := 1041 }

def heap : Heap := #[{ cls := 6, slots := #[.ref 2, .ref 3, .ref 4, .ref 5, .ref 6, .ref 7, .ref 8, .ref 9, .ref 10, .ref 11, .ref 12, .ref 13, .ref 14, .ref 1], vm := .statics 6 },
  { cls := 12, slots := #[.ref 2, .ref 3, .ref 4, .ref 5, .ref 6, .ref 7, .ref 8, .ref 9, .ref 10, .ref 11, .ref 12, .ref 13, .ref 14], vm := .none },
  { cls := 6, slots := #[.null, .int 0, .int 0, .int 1, .null, .int 0, .int 11], vm := .none },
  { cls := 6, slots := #[.null, .int 1, .int 0, .int 2, .null, .int 0, .int 5], vm := .none },
  { cls := 6, slots := #[.null, .int 2, .int 0, .int 3, .null, .int 0, .int 4], vm := .none },
  { cls := 6, slots := #[.null, .int 3, .int 0, .int 8, .null, .int 2, .int 7], vm := .none },
  { cls := 6, slots := #[.null, .int 4, .int 0, .int 9, .null, .int 1, .int 5], vm := .none },
  { cls := 6, slots := #[.null, .int 5, .int 0, .int 10, .null, .int 0, .int 2], vm := .none },
  { cls := 6, slots := #[.null, .int 6, .int 0, .int 11, .null, .int 0, .int 5], vm := .none },
  { cls := 6, slots := #[.null, .int 7, .int 0, .int 12, .null, .int 0, .int 3], vm := .none },
  { cls := 6, slots := #[.null, .int 8, .int 0, .int 13, .null, .int 0, .int 3], vm := .none },
  { cls := 6, slots := #[.null, .int 9, .int 0, .int 14, .null, .int 0, .int 3], vm := .none },
  { cls := 6, slots := #[.null, .int 10, .int 0, .int 15, .null, .int 0, .int 4], vm := .none },
  { cls := 6, slots := #[.null, .int 11, .int 0, .int 16, .null, .int 0, .int 2], vm := .none },
  { cls := 6, slots := #[.null, .int 12, .int 0, .int 18, .null, .int 0, .int 2], vm := .none }]
def classes : Array Class := #[k0, k1, k2, k3, k4, k5, k6, k7, k8, k9, k10, k11, k12]
def interned : List (Array UInt16 × Addr) := []
def slotsUsed : Nat := 118
def theMethod : MethodId := ⟨1, 2⟩
def args0 : Array Value := #[.int 5, .int 1]
def aboutOver (below : List Frame) : State where
  vm := { classes := classes, interned := interned.toArray }
  heap := heap
  slotsUsed := slotsUsed
  threads := #[{ frames := .invoking theMethod args0 :: below }]
def below0 : List Frame := [.native { method := ⟨0, 0⟩, args := #[] }]
def about1 : State := aboutOver below0
def p0 : Program := .bare "" "" ""
def e0 : Env := launch0.env 0 0 0
theorem w_frames : about1.frames = Frame.invoking theMethod args0 :: below0 := rfl
set_option maxRecDepth 65536 in
theorem w_args : argsFit about1.vm theMethod args0 = true := by decide +kernel
set_option maxRecDepth 65536 in
theorem w_heap : heapFits about1 = true := by decide +kernel
set_option maxRecDepth 65536 in
theorem w_runnable : about1.curStatus? = some .runnable := by decide +kernel
set_option maxRecDepth 65536 in
theorem w_alone : about1.alone = true := by decide +kernel
set_option maxRecDepth 65536 in
theorem w_named : about1.methodNamed? x = some theMethod := by decide +kernel
set_option maxRecDepth 65536 in
theorem w_hears : about1.hears theMethod below0 = true := by decide +kernel
set_option maxRecDepth 65536 in
theorem w_ripe : about1.ripe theMethod args0 below0 = true := by decide +kernel
theorem w_running : about1.status = .running := rfl
set_option maxRecDepth 65536 in
theorem w_room : about1.hasRoom e0.platform room_1 = true :=
  launch0.hasRoom_least _ room_1 (by decide +kernel) (by decide +kernel) (by decide +kernel) (by decide +kernel) (by decide +kernel) (by decide +kernel)
theorem allAtoms_all (ts : List Jvm.Cond) (a : Array Jvm.Value) (st : Jvm.State) : (allAtoms ts).before a st = ts.all (fun c => c.before a st) := by
  induction ts with
  | nil => rfl
  | cons c t ih =>
    show (Jvm.Cond.and c (allAtoms t)).before a st = _
    rw [Jvm.Cond.before_and, ih, List.all_cons]
def words1 : List Jvm.Cond := Jvm.Cond.code x code maxLocals ret :: tables_1
/-- a 'code' word, met by the world's own term for the bytes: nothing is compared byte by byte -/
theorem code_word {y : MethodName} {bytes : ByteArray} {mx : Nat} {rt : Option FieldType} {a : Array Value} {s : State} {m : MethodId} {meth : Method} {c : Code} (h1 : s.methodNamed? y = some m) (h2 : s.vm.method? m = some meth) (h3 : meth.code = some c) (h4 : c.code = bytes)
    (h5 : (c.maxLocals == mx && c.exceptionTable.isEmpty && decide (c.maxStack ≤ mostOperands) && decide (meth.sig.returnType = rt) && !meth.locks && decide (parseMethodDescriptor y.desc = some meth.sig)) = true) : (Jvm.Cond.code y bytes mx rt).before a s = true := by
  simp only [Bool.and_eq_true, beq_iff_eq, Bool.not_eq_true', decide_eq_true_eq] at h5
  obtain ⟨⟨⟨⟨⟨g1, g2⟩, g3⟩, g4⟩, g5⟩, g6⟩ := h5
  simp [Cond.before, Cond.holds, Cond.value, h1, h2, h3, h4, g1, g2, g3, g4, g5, g6]
def isCode : Jvm.Cond → Bool
  | .code _ _ _ _ => true
  | _ => false
theorem all_split {L : List Jvm.Cond} {P : Jvm.Cond → Bool} (h1 : L.all (fun c => isCode c || P c) = true) (h2 : ∀ c ∈ L.filter isCode, P c = true) : L.all P = true := by
  refine List.all_eq_true.mpr fun c hc => ?_
  have h := List.all_eq_true.mp h1 c hc
  rcases Bool.eq_false_or_eq_true (isCode c) with hi | hi
  · exact h2 c (List.mem_filter.mpr ⟨hc, hi⟩)
  · simpa [hi] using h
set_option maxRecDepth 65536 in
theorem w_c0 : (Jvm.Cond.code x code maxLocals ret).before args0 about1 = true := code_word (m := ⟨1, 2⟩) (meth := k1m2) (c := k1c2) (by decide +kernel) rfl rfl rfl (by decide +kernel)
set_option maxRecDepth 65536 in
theorem w_c1 : (Jvm.Cond.code ({ cls := "com/example/loose_grip/loosegrip/wire/ApiKey", name := "forId", desc := "(S)Lcom/example/loose_grip/loosegrip/wire/ApiKey;" } : Jvm.MethodName) prog_36_method_4_code (5 : Nat) (Option.some (Jvm.ClassFile.FieldType.object "com/example/loose_grip/loosegrip/wire/ApiKey"))).before args0 about1 = true := code_word (m := ⟨6, 1⟩) (meth := k6m1) (c := k6c1) (by decide +kernel) rfl rfl rfl (by decide +kernel)
set_option maxRecDepth 65536 in
theorem w_c2 : (Jvm.Cond.code ({ cls := "com/example/loose_grip/loosegrip/wire/ApiKey", name := "values", desc := "()[Lcom/example/loose_grip/loosegrip/wire/ApiKey;" } : Jvm.MethodName) prog_36_method_1_code (0 : Nat) (Option.some (Jvm.ClassFile.FieldType.array (Jvm.ClassFile.FieldType.object "com/example/loose_grip/loosegrip/wire/ApiKey")))).before args0 about1 = true := code_word (m := ⟨6, 0⟩) (meth := k6m0) (c := k6c0) (by decide +kernel) rfl rfl rfl (by decide +kernel)
set_option maxRecDepth 65536 in
theorem w_c3 : (Jvm.Cond.code ({ cls := "com/example/loose_grip/loosegrip/wire/ApiKeyForIdPinLaw", name := "expected", desc := "(S)Lcom/example/loose_grip/loosegrip/wire/ApiKey;" } : Jvm.MethodName) method_2_code (1 : Nat) (Option.some (Jvm.ClassFile.FieldType.object "com/example/loose_grip/loosegrip/wire/ApiKey"))).before args0 about1 = true := code_word (m := ⟨1, 1⟩) (meth := k1m1) (c := k1c1) (by decide +kernel) rfl rfl rfl (by decide +kernel)
def codes1 : List Jvm.Cond := [Jvm.Cond.code x code maxLocals ret, Jvm.Cond.code ({ cls := "com/example/loose_grip/loosegrip/wire/ApiKey", name := "forId", desc := "(S)Lcom/example/loose_grip/loosegrip/wire/ApiKey;" } : Jvm.MethodName) prog_36_method_4_code (5 : Nat) (Option.some (Jvm.ClassFile.FieldType.object "com/example/loose_grip/loosegrip/wire/ApiKey")), Jvm.Cond.code ({ cls := "com/example/loose_grip/loosegrip/wire/ApiKey", name := "values", desc := "()[Lcom/example/loose_grip/loosegrip/wire/ApiKey;" } : Jvm.MethodName) prog_36_method_1_code (0 : Nat) (Option.some (Jvm.ClassFile.FieldType.array (Jvm.ClassFile.FieldType.object "com/example/loose_grip/loosegrip/wire/ApiKey"))), Jvm.Cond.code ({ cls := "com/example/loose_grip/loosegrip/wire/ApiKeyForIdPinLaw", name := "expected", desc := "(S)Lcom/example/loose_grip/loosegrip/wire/ApiKey;" } : Jvm.MethodName) method_2_code (1 : Nat) (Option.some (Jvm.ClassFile.FieldType.object "com/example/loose_grip/loosegrip/wire/ApiKey"))]
set_option maxRecDepth 65536 in
theorem codes_eq : words1.filter isCode = codes1 := rfl
theorem w_codes : ∀ c ∈ words1.filter isCode, c.before args0 about1 = true := by
  rw [codes_eq]
  intro c hc
  simp only [codes1, List.mem_cons, List.not_mem_nil, or_false] at hc
  rcases hc with rfl | rfl | rfl | rfl
  · exact w_c0
  · exact w_c1
  · exact w_c2
  · exact w_c3
set_option maxRecDepth 65536 in
theorem w_t1 : (words1.take 24).all (fun c => isCode c || c.before args0 about1) = true := by decide +kernel
set_option maxRecDepth 65536 in
theorem w_t2 : ((words1.drop 24).take 24).all (fun c => isCode c || c.before args0 about1) = true := by decide +kernel
set_option maxRecDepth 65536 in
theorem w_t3 : ((words1.drop 24).drop 24).all (fun c => isCode c || c.before args0 about1) = true := by decide +kernel
theorem w_tables : (allAtoms (Jvm.Cond.code x code maxLocals ret :: tables_1)).before args0 about1 = true := by
  rw [allAtoms_all]
  show words1.all (fun c => c.before args0 about1) = true
  refine all_split ?_ w_codes
  rw [← List.take_append_drop 24 words1, List.all_append, w_t1, ← List.take_append_drop 24 (words1.drop 24), List.all_append, w_t2, w_t3]
  rfl
set_option maxRecDepth 65536 in
theorem w_case : (Jvm.Cond.and given_1 narrow_1).before args0 about1 = true := by decide +kernel
theorem w_applies : (headSpec (Jvm.Cond.code x code maxLocals ret :: tables_1) room_1).applies x e0.platform about1 = true :=
  (Spec.applies_iff w_frames).mpr ⟨w_running, w_runnable, w_alone, w_named, w_hears, w_ripe, w_room, w_tables⟩
theorem atStart : AtStart classFile x code maxLocals ret World_1 tables_1 room_1 Calls_1 rest_1 Pre_1 launch0 p0 e0 about1 theMethod args0 below0 :=
  ⟨lists_1, trivial, launch0.admits_env _ _ _, launch0.least_env, fairChoices_fair.cas, fairChoices_fair.clock, w_frames, w_args, w_heap, w_applies, trivial, trivial, w_case⟩
end start1
theorem witness_1 : WitnessClaimed_1 := ⟨start1.p0, start1.e0, start1.about1, start1.theMethod, start1.args0, start1.below0, start1.atStart⟩
end Jvm.Pilot.@@N@@
