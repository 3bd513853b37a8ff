import JvmDerived
import JvmDerived.Pilot.@@N@@Statement
import JvmDerived.Pilot.@@N@@Code
set_option linter.unusedVariables false
set_option linter.unusedSimpArgs false
namespace Jvm.Pilot.@@N@@
open Jvm Jvm.ClassFile Sem Op Lib Jvm.Free Jvm.Stand Jvm.LawKit Jvm.RoadKit Bundle Jvm.Pilot.@@N@@.Jvm.D
section OwnKit
variable {p : Program} {l : Launch} {e : Env} {R : Room} {s : State} {m : MethodId} {args : Array Value} {below : List Frame} {meth : Method} {c : Code} {T : State} {locs : List Loc} {cells slots : Nat}
/-- from S the run comes to an end that Φ takes -/
def own_G (tb : Tables) (e : Env) (below : List Frame) (Φ : State → Outcome → Prop) (S : State) : Prop := ∃ t o, Steps tb e below S t ∧ t.status = .running ∧ Ended t below o ∧ Φ t o
def own_E (s : State) (Q : Option Value → Heap → List Loc → Prop) (kc ks : Nat) : State → Outcome → Prop := fun t o => ∃ v L, o = .returned v ∧ Q v t.heap L ∧ FrameEnd s o t L kc ks
theorem own_st {tb : Tables} {Φ : State → Outcome → Prop} {S S' : State} (h : ∀ t, Steps tb e below S' t → Steps tb e below S t) (g : own_G tb e below Φ S') : own_G tb e below Φ S := by
  obtain ⟨t, o, a, b⟩ := g
  exact ⟨t, o, h t a, b⟩
theorem own_tr {tb : Tables} {Φ : State → Outcome → Prop} {S S' : State} (h : Steps tb e below S S') (g : own_G tb e below Φ S') : own_G tb e below Φ S := by
  obtain ⟨t, o, a, b⟩ := g
  exact ⟨t, o, h.trans a, b⟩
theorem own_in {s₁ : State} (kc ks : Nat) (Q : Option Value → Heap → List Loc → Prop) {mL : Nat} {g : JFrame} (ef : entryFrame m args mL = g) (k : own_G p.tables e below (own_E s Q kc ks) (s₁.setTop g)) :
    ∃ s₂ o, Steps p.tables e below (s₁.setTop (entryFrame m args mL)) s₂ ∧ s₂.status = .running ∧ Ended s₂ below o ∧ ∃ v L, o = .returned v ∧ Q v s₂.heap L ∧ FrameEnd s o s₂ L kc ks := by
  rw [ef]
  exact k
theorem own_retI0 (X : Stand p l e R s m args below meth c T locs cells slots) (hx : p.tables.exec = Jvm.exec) {pc : Nat} {Ls : Array Slot} {z : Int32} {rest : List Value} (hret : meth.sig.returnType = some .int) (hd : decode c.code pc = .ok (.ireturn, 1)) {fs : List Frame}
    (hl : ∀ (f : JFrame) (acts : List Action), f.method = m → f.locked = none → f.entered = [] → (doReturn e (T.setTop f) acts (some (.int z))).1 = T.setFrames fs) : Steps p.tables e below (T.setTop (mkF m pc Ls (.int z :: rest))) (T.setFrames fs) :=
  retOut X hx hret rfl (Or.inl ⟨rfl, Or.inl rfl, z, rfl⟩) hd hl
theorem own_retI (X : Stand p l e R s m args below meth c T locs cells slots) (hx : p.tables.exec = Jvm.exec) (hlk : meth.locks = false) {pc : Nat} {Ls : Array Slot} {z : Int32} {rest : List Value} (hret : meth.sig.returnType = some .int) (hd : decode c.code pc = .ok (.ireturn, 1))
    {Q : Option Value → Heap → List Loc → Prop} {kc ks : Nat} (hc : cells ≤ kc) (hs : slots ≤ ks) (q : Q (some (.int z)) T.heap locs) : own_G p.tables e below (own_E s Q kc ks) (T.setTop (mkF m pc Ls (.int z :: rest))) := by
  obtain ⟨fs, hr, hrun, hended, hW, hsame⟩ := X.leave (v := some (.int z)) (fun h => by rw [hret] at h; cases h)
  exact ⟨_, _, own_retI0 X hx hret hd hr, hrun, hended, _, _, rfl, q, ⟨_, rfl⟩, hW, hsame.mono hc hs⟩
theorem own_retN (X : Stand p l e R s m args below meth c T locs cells slots) (hx : p.tables.exec = Jvm.exec) (hlk : meth.locks = false) {pc : Nat} {Ls : Array Slot} {z : Int32} {t : FieldType} {rest : List Value} (hret : meth.sig.returnType = some t) (ht : t = .boolean ∨ t = .byte ∨ t = .char ∨ t = .short) (hd : decode c.code pc = .ok (.ireturn, 1))
    {Q : Option Value → Heap → List Loc → Prop} {kc ks : Nat} (hc : cells ≤ kc) (hs : slots ≤ ks) {v' : Int32} (hv : nar t z = v') (q : Q (some (.int v')) T.heap locs) : own_G p.tables e below (own_E s Q kc ks) (T.setTop (mkF m pc Ls (.int z :: rest))) := by
  subst hv
  obtain ⟨fs, hr, hrun, hended, hW, hsame⟩ := X.leave (v := some (.int (nar t z))) (fun h => by rw [hret] at h; cases h)
  exact ⟨_, _, retN X hx hret ht hd hr, hrun, hended, _, _, rfl, q, ⟨_, rfl⟩, hW, hsame.mono hc hs⟩
theorem own_retA (X : Stand p l e R s m args below meth c T locs cells slots) (hx : p.tables.exec = Jvm.exec) (hlk : meth.locks = false) {pc : Nat} {Ls : Array Slot} {w : Value} {t : FieldType} {rest : List Value} (hret : meth.sig.returnType = some t) (ht : t.isReference = true) (hw : w.isRef = true) (hd : decode c.code pc = .ok (.areturn, 1))
    {Q : Option Value → Heap → List Loc → Prop} {kc ks : Nat} (hc : cells ≤ kc) (hs : slots ≤ ks) (q : Q (some w) T.heap locs) : own_G p.tables e below (own_E s Q kc ks) (T.setTop (mkF m pc Ls (w :: rest))) := by
  obtain ⟨fs, hr, hrun, hended, hW, hsame⟩ := X.leave (v := some w) (fun h => by rw [hret] at h; cases h)
  have hn : narrow t w = w := by rcases ref_cases hw with rfl | ⟨a, rfl⟩ <;> cases t <;> rfl
  exact ⟨_, _, retOut X hx hret hn (Or.inr (Or.inr (Or.inr (Or.inr ⟨rfl, ht, hw⟩)))) hd hr, hrun, hended, _, _, rfl, q, ⟨_, rfl⟩, hW, hsame.mono hc hs⟩
theorem own_retJ (X : Stand p l e R s m args below meth c T locs cells slots) (hx : p.tables.exec = Jvm.exec) (hlk : meth.locks = false) {pc : Nat} {Ls : Array Slot} {z : Int64} {rest : List Value} (hret : meth.sig.returnType = some .long) (hd : decode c.code pc = .ok (.lreturn, 1))
    {Q : Option Value → Heap → List Loc → Prop} {kc ks : Nat} (hc : cells ≤ kc) (hs : slots ≤ ks) (q : Q (some (.long z)) T.heap locs) : own_G p.tables e below (own_E s Q kc ks) (T.setTop (mkF m pc Ls (.long z :: rest))) := by
  obtain ⟨fs, hr, hrun, hended, hW, hsame⟩ := X.leave (v := some (.long z)) (fun h => by rw [hret] at h; cases h)
  exact ⟨_, _, retOut X hx hret rfl (Or.inr (Or.inl ⟨rfl, rfl, z, rfl⟩)) hd hr, hrun, hended, _, _, rfl, q, ⟨_, rfl⟩, hW, hsame.mono hc hs⟩
theorem own_retV (X : Stand p l e R s m args below meth c T locs cells slots) (hx : p.tables.exec = Jvm.exec) (hlk : meth.locks = false) {pc : Nat} {Ls : Array Slot} (hret : meth.sig.returnType = none) (hd : decode c.code pc = .ok (.return_, 1))
    {Q : Option Value → Heap → List Loc → Prop} {kc ks : Nat} (hc : cells ≤ kc) (hs : slots ≤ ks) (q : Q none T.heap locs) : own_G p.tables e below (own_E s Q kc ks) (T.setTop (mkF m pc Ls [])) := by
  obtain ⟨fs, hr, hrun, hended, hW, hsame⟩ := X.leave (v := none) (fun _ => rfl)
  exact ⟨_, _, X.returnOut hx hret hd hr, hrun, hended, _, _, rfl, q, ⟨_, rfl⟩, hW, hsame.mono hc hs⟩
end OwnKit
theorem own_cat {v : Value} (h : v.isRef = true) : v.category = 1 := by cases v <;> first | rfl | (simp [Value.isRef] at h)
theorem own_i32 {a b : Int32} (h : a.toInt = b.toInt) : a = b := Int32.toInt_inj.mp h
theorem own_i64 {a b : Int64} (h : a.toInt = b.toInt) : a = b := Int64.toInt_inj.mp h
/-- (x & 0x7fffffff) % d lies from 0 to d - 1 -/
theorem own_mod (x y : Int32) (d : Int) (hy : y.toInt = d) (hd : 0 < d) : 0 ≤ ((x &&& 2147483647) % y).toInt ∧ ((x &&& 2147483647) % y).toInt < d ∧ ((x &&& 2147483647) % y).toInt = (x.toInt % 2147483648) % d := by
  have h1 := c_mask x 2147483647 31 (by decide) (by decide)
  have h2 := (c_irem (x &&& 2147483647) y d hy).1 (by rw [h1]; omega)
  rw [h2, h1]
  refine ⟨Int.emod_nonneg _ (by omega), Int.emod_lt_of_pos _ hd, rfl⟩
theorem own_mod7 (x : Int32) : (x &&& 2147483647) % 7 = (0 : Int32) ∨ (x &&& 2147483647) % 7 = (1 : Int32) ∨ (x &&& 2147483647) % 7 = (2 : Int32) ∨ (x &&& 2147483647) % 7 = (3 : Int32) ∨ (x &&& 2147483647) % 7 = (4 : Int32) ∨ (x &&& 2147483647) % 7 = (5 : Int32) ∨ (x &&& 2147483647) % 7 = (6 : Int32) := by
  have h := own_mod x 7 7 (by decide) (by decide)
  have : ((x &&& 2147483647) % 7).toInt = 0 ∨ ((x &&& 2147483647) % 7).toInt = 1 ∨ ((x &&& 2147483647) % 7).toInt = 2 ∨ ((x &&& 2147483647) % 7).toInt = 3 ∨ ((x &&& 2147483647) % 7).toInt = 4 ∨ ((x &&& 2147483647) % 7).toInt = 5 ∨ ((x &&& 2147483647) % 7).toInt = 6 := by omega
  rcases this with h | h | h | h | h | h | h
  · exact Or.inl (own_i32 (h.trans (by decide)))
  · exact Or.inr (Or.inl (own_i32 (h.trans (by decide))))
  · exact Or.inr (Or.inr (Or.inl (own_i32 (h.trans (by decide)))))
  · exact Or.inr (Or.inr (Or.inr (Or.inl (own_i32 (h.trans (by decide))))))
  · exact Or.inr (Or.inr (Or.inr (Or.inr (Or.inl (own_i32 (h.trans (by decide)))))))
  · exact Or.inr (Or.inr (Or.inr (Or.inr (Or.inr (Or.inl (own_i32 (h.trans (by decide))))))))
  · exact Or.inr (Or.inr (Or.inr (Or.inr (Or.inr (Or.inr (own_i32 (h.trans (by decide))))))))
theorem d1_0 : decode method_2_code 0 = .ok (.iload_n 0, 1) := by decide +kernel
theorem d1_1 : decode method_2_code 1 = .ok (.ifCond .ne 7, 3) := by decide +kernel
theorem d1_4 : decode method_2_code 4 = .ok (.getstatic 7, 3) := by decide +kernel
theorem d1_7 : decode method_2_code 7 = .ok (.areturn, 1) := by decide +kernel
theorem d1_8 : decode method_2_code 8 = .ok (.iload_n 0, 1) := by decide +kernel
theorem d1_9 : decode method_2_code 9 = .ok (.iconst 1, 1) := by decide +kernel
theorem d1_10 : decode method_2_code 10 = .ok (.if_icmp .ne 7, 3) := by decide +kernel
theorem d1_13 : decode method_2_code 13 = .ok (.getstatic 13, 3) := by decide +kernel
theorem d1_16 : decode method_2_code 16 = .ok (.areturn, 1) := by decide +kernel
theorem d1_17 : decode method_2_code 17 = .ok (.iload_n 0, 1) := by decide +kernel
theorem d1_18 : decode method_2_code 18 = .ok (.iconst 2, 1) := by decide +kernel
theorem d1_19 : decode method_2_code 19 = .ok (.if_icmp .ne 7, 3) := by decide +kernel
theorem d1_22 : decode method_2_code 22 = .ok (.getstatic 16, 3) := by decide +kernel
theorem d1_25 : decode method_2_code 25 = .ok (.areturn, 1) := by decide +kernel
theorem d1_26 : decode method_2_code 26 = .ok (.iload_n 0, 1) := by decide +kernel
theorem d1_27 : decode method_2_code 27 = .ok (.iconst 3, 1) := by decide +kernel
theorem d1_28 : decode method_2_code 28 = .ok (.if_icmp .ne 7, 3) := by decide +kernel
theorem d1_31 : decode method_2_code 31 = .ok (.getstatic 19, 3) := by decide +kernel
theorem d1_34 : decode method_2_code 34 = .ok (.areturn, 1) := by decide +kernel
theorem d1_35 : decode method_2_code 35 = .ok (.iload_n 0, 1) := by decide +kernel
theorem d1_36 : decode method_2_code 36 = .ok (.iconst 4, 1) := by decide +kernel
theorem d1_37 : decode method_2_code 37 = .ok (.if_icmp .ne 7, 3) := by decide +kernel
theorem d1_40 : decode method_2_code 40 = .ok (.getstatic 22, 3) := by decide +kernel
theorem d1_43 : decode method_2_code 43 = .ok (.areturn, 1) := by decide +kernel
theorem d1_44 : decode method_2_code 44 = .ok (.iload_n 0, 1) := by decide +kernel
theorem d1_45 : decode method_2_code 45 = .ok (.iconst 5, 1) := by decide +kernel
theorem d1_46 : decode method_2_code 46 = .ok (.if_icmp .ne 7, 3) := by decide +kernel
theorem d1_49 : decode method_2_code 49 = .ok (.getstatic 25, 3) := by decide +kernel
theorem d1_52 : decode method_2_code 52 = .ok (.areturn, 1) := by decide +kernel
theorem d1_53 : decode method_2_code 53 = .ok (.getstatic 28, 3) := by decide +kernel
theorem d1_56 : decode method_2_code 56 = .ok (.areturn, 1) := by decide +kernel
theorem pn_1 : plainName "com/example/rillworks/rillworks/row/ValueTypeIsNumberPinLaw" = true := by first | (simp [plainName, overriddenIn]; done) | decide +kernel
theorem ef_pick0 (m : MethodId)  : entryFrame m #[(.int (0 : Int32))] 1 = mkF m 0 #[.val (.int (0 : Int32))] [] := by first | (simp [entryFrame, mkF, argsToLocals, Value.category]; done) | rfl
def Q_pick0 (Z : State) (w : Addr) (h0 : Heap) (n0 : Nat) (v : Option Value) (h : Heap) (L : List Loc) : Prop := v = some (.ref w) ∧ Fr n0 L ∧ h = h0
set_option maxRecDepth 65536 in
set_option maxHeartbeats 40000000 in
theorem rm_pick0 (l : Launch) (Z : State) (a0 : Array Value) (hw : ∀ d ∈ tables_1, d.before a0 Z = true) (ws : List Jvm.Cond) (w : Addr) (h0 : Heap) (n0 : Nat) (Z0 : n0 ≤ h0.size) (O0 : Old Z n0 h0) (S_STRING : Sta Z Z.heap "com/example/rillworks/rillworks/row/ValueType" "STRING" "Lcom/example/rillworks/rillworks/row/ValueType;" (.ref w)) :
    MetFree l (⟨"com/example/rillworks/rillworks/row/ValueTypeIsNumberPinLaw", "pick", "(I)Lcom/example/rillworks/rillworks/row/ValueType;"⟩ : MethodName) (head1 (Jvm.Cond.code (⟨"com/example/rillworks/rillworks/row/ValueTypeIsNumberPinLaw", "pick", "(I)Lcom/example/rillworks/rillworks/row/ValueType;"⟩ : MethodName) method_2_code 1 (some (.object "com/example/rillworks/rillworks/row/ValueType")) :: ws) ({ frames := 0, cells := 0, slots := 0, locals := 0 } : Room)) (fun a U => a = #[(.int (0 : Int32))] ∧ Z.Warmed39 U.vm ∧ U.heap = h0) (fun _ _ _ _ _ => True) (fun _ U o U' => ∃ v L, o = .returned v ∧ Q_pick0 Z w h0 n0 v U'.heap L ∧ FrameEnd U o U' L ({ frames := 0, cells := 0, slots := 0, locals := 0 } : Room).cells ({ frames := 0, cells := 0, slots := 0, locals := 0 } : Room).slots) := by
  refine MetFree.of_bodySF (plainFor_of_name pn_1) hisR ?_
  intro p e s m args below meth c s₁ Bd hml0 hP hK
  obtain ⟨rfl, hZ, hh⟩ := hP
  have hx := Bd.exec
  have hby := Bd.bytes
  have hml : c.maxLocals = 1 := hml0
  have hown : s.vm.findClass "com/example/rillworks/rillworks/row/ValueTypeIsNumberPinLaw" = some m.cls := findClass_of_methodNamed Bd.named
  have hnm := (name_of_methodNamed Bd.named Bd.method).1
  have hlk := Bd.notSynchronized
  have hret := Bd.returns
  have X0 : Stand p l e ({ frames := 0, cells := 0, slots := 0, locals := 0 } : Room) s m #[(.int (0 : Int32))] below meth c s₁ [] 0 0 := Stand.of_body Bd
  have e0 : s₁.heap = h0 := by rw [← hh, Bd.state]; rfl
  have N0 := Fr.nil n0
  refine own_in ({ frames := 0, cells := 0, slots := 0, locals := 0 } : Room).cells ({ frames := 0, cells := 0, slots := 0, locals := 0 } : Room).slots (Q_pick0 Z w h0 n0) (ef_pick0 m ) ?_
  show own_G p.tables e below _ (s₁.setTop (mkF m 0 #[.val (.int (0 : Int32))] []))
  refine own_st (fun _ kS => XS.iloadN X0.here hx rfl (hb hby d1_0) rfl kS) ?_
  show own_G p.tables e below _ (s₁.setTop (mkF m 1 #[.val (.int (0 : Int32))] [(.int (0 : Int32))]))
  refine own_st (fun _ kS => XS.ifNo X0.here hx rfl (hb hby d1_1) rfl ((if0 _ _).trans (teq (by decide : (0 : Int32) = (0 : Int32))).2) kS) ?_
  show own_G p.tables e below _ (s₁.setTop (mkF m 4 #[.val (.int (0 : Int32))] []))
  obtain ⟨T1, X1, e1, st1⟩ := getS2 X0 hx hZ hown (host := "") (Or.inl (hw _ (List.mem_of_getElem? (i := 5) rfl))) Via.refl e0 (Sta.ext O0.2 S_STRING) (g := (mkF m 4 #[.val (.int (0 : Int32))] [])) rfl (hb hby d1_4)
  refine own_st st1 ?_
  show own_G p.tables e below _ (T1.setTop (mkF m 7 #[.val (.int (0 : Int32))] [(.ref w)]))
  exact own_retA X1 hx hlk hret rfl rfl (hb hby d1_7) (by decide) (by decide) (by rw [e1]; exact ⟨rfl, N0, rfl⟩)
theorem ef_pick1 (m : MethodId)  : entryFrame m #[(.int (1 : Int32))] 1 = mkF m 0 #[.val (.int (1 : Int32))] [] := by first | (simp [entryFrame, mkF, argsToLocals, Value.category]; done) | rfl
def Q_pick1 (Z : State) (w : Addr) (h0 : Heap) (n0 : Nat) (v : Option Value) (h : Heap) (L : List Loc) : Prop := v = some (.ref w) ∧ Fr n0 L ∧ h = h0
set_option maxRecDepth 65536 in
set_option maxHeartbeats 40000000 in
theorem rm_pick1 (l : Launch) (Z : State) (a0 : Array Value) (hw : ∀ d ∈ tables_1, d.before a0 Z = true) (ws : List Jvm.Cond) (w : Addr) (h0 : Heap) (n0 : Nat) (Z0 : n0 ≤ h0.size) (O0 : Old Z n0 h0) (S_INTEGER : Sta Z Z.heap "com/example/rillworks/rillworks/row/ValueType" "INTEGER" "Lcom/example/rillworks/rillworks/row/ValueType;" (.ref w)) :
    MetFree l (⟨"com/example/rillworks/rillworks/row/ValueTypeIsNumberPinLaw", "pick", "(I)Lcom/example/rillworks/rillworks/row/ValueType;"⟩ : MethodName) (head1 (Jvm.Cond.code (⟨"com/example/rillworks/rillworks/row/ValueTypeIsNumberPinLaw", "pick", "(I)Lcom/example/rillworks/rillworks/row/ValueType;"⟩ : MethodName) method_2_code 1 (some (.object "com/example/rillworks/rillworks/row/ValueType")) :: ws) ({ frames := 0, cells := 0, slots := 0, locals := 0 } : Room)) (fun a U => a = #[(.int (1 : Int32))] ∧ Z.Warmed39 U.vm ∧ U.heap = h0) (fun _ _ _ _ _ => True) (fun _ U o U' => ∃ v L, o = .returned v ∧ Q_pick1 Z w h0 n0 v U'.heap L ∧ FrameEnd U o U' L ({ frames := 0, cells := 0, slots := 0, locals := 0 } : Room).cells ({ frames := 0, cells := 0, slots := 0, locals := 0 } : Room).slots) := by
  refine MetFree.of_bodySF (plainFor_of_name pn_1) hisR ?_
  intro p e s m args below meth c s₁ Bd hml0 hP hK
  obtain ⟨rfl, hZ, hh⟩ := hP
  have hx := Bd.exec
  have hby := Bd.bytes
  have hml : c.maxLocals = 1 := hml0
  have hown : s.vm.findClass "com/example/rillworks/rillworks/row/ValueTypeIsNumberPinLaw" = some m.cls := findClass_of_methodNamed Bd.named
  have hnm := (name_of_methodNamed Bd.named Bd.method).1
  have hlk := Bd.notSynchronized
  have hret := Bd.returns
  have X0 : Stand p l e ({ frames := 0, cells := 0, slots := 0, locals := 0 } : Room) s m #[(.int (1 : Int32))] below meth c s₁ [] 0 0 := Stand.of_body Bd
  have e0 : s₁.heap = h0 := by rw [← hh, Bd.state]; rfl
  have N0 := Fr.nil n0
  refine own_in ({ frames := 0, cells := 0, slots := 0, locals := 0 } : Room).cells ({ frames := 0, cells := 0, slots := 0, locals := 0 } : Room).slots (Q_pick1 Z w h0 n0) (ef_pick1 m ) ?_
  show own_G p.tables e below _ (s₁.setTop (mkF m 0 #[.val (.int (1 : Int32))] []))
  refine own_st (fun _ kS => XS.iloadN X0.here hx rfl (hb hby d1_0) rfl kS) ?_
  show own_G p.tables e below _ (s₁.setTop (mkF m 1 #[.val (.int (1 : Int32))] [(.int (1 : Int32))]))
  refine own_st (fun _ kS => XS.ifYes X0.here hx rfl (pc0 := 1) (pc' := 8) rfl (hb hby d1_1) rfl ((if0 _ _).trans (feq (by decide : ¬ ((1 : Int32) = (0 : Int32)))).2) (by decide) (by decide) kS) ?_
  show own_G p.tables e below _ (s₁.setTop (mkF m 8 #[.val (.int (1 : Int32))] []))
  refine own_st (fun _ kS => XS.iloadN X0.here hx rfl (hb hby d1_8) rfl kS) ?_
  show own_G p.tables e below _ (s₁.setTop (mkF m 9 #[.val (.int (1 : Int32))] [(.int (1 : Int32))]))
  refine own_st (fun _ kS => XS.iconst X0.here hx rfl (hb hby d1_9) kS) ?_
  show own_G p.tables e below _ (s₁.setTop (mkF m 10 #[.val (.int (1 : Int32))] [(.int (1 : Int32)), (.int (1 : Int32))]))
  refine own_st (fun _ kS => XS.icmpNo X0.here hx rfl (hb hby d1_10) rfl (teq (by decide : (1 : Int32) = (1 : Int32))).2 kS) ?_
  show own_G p.tables e below _ (s₁.setTop (mkF m 13 #[.val (.int (1 : Int32))] []))
  obtain ⟨T1, X1, e1, st1⟩ := getS2 X0 hx hZ hown (host := "") (Or.inl (hw _ (List.mem_of_getElem? (i := 40) rfl))) Via.refl e0 (Sta.ext O0.2 S_INTEGER) (g := (mkF m 13 #[.val (.int (1 : Int32))] [])) rfl (hb hby d1_13)
  refine own_st st1 ?_
  show own_G p.tables e below _ (T1.setTop (mkF m 16 #[.val (.int (1 : Int32))] [(.ref w)]))
  exact own_retA X1 hx hlk hret rfl rfl (hb hby d1_16) (by decide) (by decide) (by rw [e1]; exact ⟨rfl, N0, rfl⟩)
theorem ef_pick2 (m : MethodId)  : entryFrame m #[(.int (2 : Int32))] 1 = mkF m 0 #[.val (.int (2 : Int32))] [] := by first | (simp [entryFrame, mkF, argsToLocals, Value.category]; done) | rfl
def Q_pick2 (Z : State) (w : Addr) (h0 : Heap) (n0 : Nat) (v : Option Value) (h : Heap) (L : List Loc) : Prop := v = some (.ref w) ∧ Fr n0 L ∧ h = h0
set_option maxRecDepth 65536 in
set_option maxHeartbeats 40000000 in
theorem rm_pick2 (l : Launch) (Z : State) (a0 : Array Value) (hw : ∀ d ∈ tables_1, d.before a0 Z = true) (ws : List Jvm.Cond) (w : Addr) (h0 : Heap) (n0 : Nat) (Z0 : n0 ≤ h0.size) (O0 : Old Z n0 h0) (S_NUMBER : Sta Z Z.heap "com/example/rillworks/rillworks/row/ValueType" "NUMBER" "Lcom/example/rillworks/rillworks/row/ValueType;" (.ref w)) :
    MetFree l (⟨"com/example/rillworks/rillworks/row/ValueTypeIsNumberPinLaw", "pick", "(I)Lcom/example/rillworks/rillworks/row/ValueType;"⟩ : MethodName) (head1 (Jvm.Cond.code (⟨"com/example/rillworks/rillworks/row/ValueTypeIsNumberPinLaw", "pick", "(I)Lcom/example/rillworks/rillworks/row/ValueType;"⟩ : MethodName) method_2_code 1 (some (.object "com/example/rillworks/rillworks/row/ValueType")) :: ws) ({ frames := 0, cells := 0, slots := 0, locals := 0 } : Room)) (fun a U => a = #[(.int (2 : Int32))] ∧ Z.Warmed39 U.vm ∧ U.heap = h0) (fun _ _ _ _ _ => True) (fun _ U o U' => ∃ v L, o = .returned v ∧ Q_pick2 Z w h0 n0 v U'.heap L ∧ FrameEnd U o U' L ({ frames := 0, cells := 0, slots := 0, locals := 0 } : Room).cells ({ frames := 0, cells := 0, slots := 0, locals := 0 } : Room).slots) := by
  refine MetFree.of_bodySF (plainFor_of_name pn_1) hisR ?_
  intro p e s m args below meth c s₁ Bd hml0 hP hK
  obtain ⟨rfl, hZ, hh⟩ := hP
  have hx := Bd.exec
  have hby := Bd.bytes
  have hml : c.maxLocals = 1 := hml0
  have hown : s.vm.findClass "com/example/rillworks/rillworks/row/ValueTypeIsNumberPinLaw" = some m.cls := findClass_of_methodNamed Bd.named
  have hnm := (name_of_methodNamed Bd.named Bd.method).1
  have hlk := Bd.notSynchronized
  have hret := Bd.returns
  have X0 : Stand p l e ({ frames := 0, cells := 0, slots := 0, locals := 0 } : Room) s m #[(.int (2 : Int32))] below meth c s₁ [] 0 0 := Stand.of_body Bd
  have e0 : s₁.heap = h0 := by rw [← hh, Bd.state]; rfl
  have N0 := Fr.nil n0
  refine own_in ({ frames := 0, cells := 0, slots := 0, locals := 0 } : Room).cells ({ frames := 0, cells := 0, slots := 0, locals := 0 } : Room).slots (Q_pick2 Z w h0 n0) (ef_pick2 m ) ?_
  show own_G p.tables e below _ (s₁.setTop (mkF m 0 #[.val (.int (2 : Int32))] []))
  refine own_st (fun _ kS => XS.iloadN X0.here hx rfl (hb hby d1_0) rfl kS) ?_
  show own_G p.tables e below _ (s₁.setTop (mkF m 1 #[.val (.int (2 : Int32))] [(.int (2 : Int32))]))
  refine own_st (fun _ kS => XS.ifYes X0.here hx rfl (pc0 := 1) (pc' := 8) rfl (hb hby d1_1) rfl ((if0 _ _).trans (feq (by decide : ¬ ((2 : Int32) = (0 : Int32)))).2) (by decide) (by decide) kS) ?_
  show own_G p.tables e below _ (s₁.setTop (mkF m 8 #[.val (.int (2 : Int32))] []))
  refine own_st (fun _ kS => XS.iloadN X0.here hx rfl (hb hby d1_8) rfl kS) ?_
  show own_G p.tables e below _ (s₁.setTop (mkF m 9 #[.val (.int (2 : Int32))] [(.int (2 : Int32))]))
  refine own_st (fun _ kS => XS.iconst X0.here hx rfl (hb hby d1_9) kS) ?_
  show own_G p.tables e below _ (s₁.setTop (mkF m 10 #[.val (.int (2 : Int32))] [(.int (1 : Int32)), (.int (2 : Int32))]))
  refine own_st (fun _ kS => XS.icmpYes X0.here hx rfl (pc0 := 10) (pc' := 17) rfl (hb hby d1_10) rfl (feq (by decide : ¬ ((2 : Int32) = (1 : Int32)))).2 (by decide) (by decide) kS) ?_
  show own_G p.tables e below _ (s₁.setTop (mkF m 17 #[.val (.int (2 : Int32))] []))
  refine own_st (fun _ kS => XS.iloadN X0.here hx rfl (hb hby d1_17) rfl kS) ?_
  show own_G p.tables e below _ (s₁.setTop (mkF m 18 #[.val (.int (2 : Int32))] [(.int (2 : Int32))]))
  refine own_st (fun _ kS => XS.iconst X0.here hx rfl (hb hby d1_18) kS) ?_
  show own_G p.tables e below _ (s₁.setTop (mkF m 19 #[.val (.int (2 : Int32))] [(.int (2 : Int32)), (.int (2 : Int32))]))
  refine own_st (fun _ kS => XS.icmpNo X0.here hx rfl (hb hby d1_19) rfl (teq (by decide : (2 : Int32) = (2 : Int32))).2 kS) ?_
  show own_G p.tables e below _ (s₁.setTop (mkF m 22 #[.val (.int (2 : Int32))] []))
  obtain ⟨T1, X1, e1, st1⟩ := getS2 X0 hx hZ hown (host := "") (Or.inl (hw _ (List.mem_of_getElem? (i := 37) rfl))) Via.refl e0 (Sta.ext O0.2 S_NUMBER) (g := (mkF m 22 #[.val (.int (2 : Int32))] [])) rfl (hb hby d1_22)
  refine own_st st1 ?_
  show own_G p.tables e below _ (T1.setTop (mkF m 25 #[.val (.int (2 : Int32))] [(.ref w)]))
  exact own_retA X1 hx hlk hret rfl rfl (hb hby d1_25) (by decide) (by decide) (by rw [e1]; exact ⟨rfl, N0, rfl⟩)
theorem ef_pick3 (m : MethodId)  : entryFrame m #[(.int (3 : Int32))] 1 = mkF m 0 #[.val (.int (3 : Int32))] [] := by first | (simp [entryFrame, mkF, argsToLocals, Value.category]; done) | rfl
def Q_pick3 (Z : State) (w : Addr) (h0 : Heap) (n0 : Nat) (v : Option Value) (h : Heap) (L : List Loc) : Prop := v = some (.ref w) ∧ Fr n0 L ∧ h = h0
set_option maxRecDepth 65536 in
set_option maxHeartbeats 40000000 in
theorem rm_pick3 (l : Launch) (Z : State) (a0 : Array Value) (hw : ∀ d ∈ tables_1, d.before a0 Z = true) (ws : List Jvm.Cond) (w : Addr) (h0 : Heap) (n0 : Nat) (Z0 : n0 ≤ h0.size) (O0 : Old Z n0 h0) (S_BIG_NUMBER : Sta Z Z.heap "com/example/rillworks/rillworks/row/ValueType" "BIG_NUMBER" "Lcom/example/rillworks/rillworks/row/ValueType;" (.ref w)) :
    MetFree l (⟨"com/example/rillworks/rillworks/row/ValueTypeIsNumberPinLaw", "pick", "(I)Lcom/example/rillworks/rillworks/row/ValueType;"⟩ : MethodName) (head1 (Jvm.Cond.code (⟨"com/example/rillworks/rillworks/row/ValueTypeIsNumberPinLaw", "pick", "(I)Lcom/example/rillworks/rillworks/row/ValueType;"⟩ : MethodName) method_2_code 1 (some (.object "com/example/rillworks/rillworks/row/ValueType")) :: ws) ({ frames := 0, cells := 0, slots := 0, locals := 0 } : Room)) (fun a U => a = #[(.int (3 : Int32))] ∧ Z.Warmed39 U.vm ∧ U.heap = h0) (fun _ _ _ _ _ => True) (fun _ U o U' => ∃ v L, o = .returned v ∧ Q_pick3 Z w h0 n0 v U'.heap L ∧ FrameEnd U o U' L ({ frames := 0, cells := 0, slots := 0, locals := 0 } : Room).cells ({ frames := 0, cells := 0, slots := 0, locals := 0 } : Room).slots) := by
  refine MetFree.of_bodySF (plainFor_of_name pn_1) hisR ?_
  intro p e s m args below meth c s₁ Bd hml0 hP hK
  obtain ⟨rfl, hZ, hh⟩ := hP
  have hx := Bd.exec
  have hby := Bd.bytes
  have hml : c.maxLocals = 1 := hml0
  have hown : s.vm.findClass "com/example/rillworks/rillworks/row/ValueTypeIsNumberPinLaw" = some m.cls := findClass_of_methodNamed Bd.named
  have hnm := (name_of_methodNamed Bd.named Bd.method).1
  have hlk := Bd.notSynchronized
  have hret := Bd.returns
  have X0 : Stand p l e ({ frames := 0, cells := 0, slots := 0, locals := 0 } : Room) s m #[(.int (3 : Int32))] below meth c s₁ [] 0 0 := Stand.of_body Bd
  have e0 : s₁.heap = h0 := by rw [← hh, Bd.state]; rfl
  have N0 := Fr.nil n0
  refine own_in ({ frames := 0, cells := 0, slots := 0, locals := 0 } : Room).cells ({ frames := 0, cells := 0, slots := 0, locals := 0 } : Room).slots (Q_pick3 Z w h0 n0) (ef_pick3 m ) ?_
  show own_G p.tables e below _ (s₁.setTop (mkF m 0 #[.val (.int (3 : Int32))] []))
  refine own_st (fun _ kS => XS.iloadN X0.here hx rfl (hb hby d1_0) rfl kS) ?_
  show own_G p.tables e below _ (s₁.setTop (mkF m 1 #[.val (.int (3 : Int32))] [(.int (3 : Int32))]))
  refine own_st (fun _ kS => XS.ifYes X0.here hx rfl (pc0 := 1) (pc' := 8) rfl (hb hby d1_1) rfl ((if0 _ _).trans (feq (by decide : ¬ ((3 : Int32) = (0 : Int32)))).2) (by decide) (by decide) kS) ?_
  show own_G p.tables e below _ (s₁.setTop (mkF m 8 #[.val (.int (3 : Int32))] []))
  refine own_st (fun _ kS => XS.iloadN X0.here hx rfl (hb hby d1_8) rfl kS) ?_
  show own_G p.tables e below _ (s₁.setTop (mkF m 9 #[.val (.int (3 : Int32))] [(.int (3 : Int32))]))
  refine own_st (fun _ kS => XS.iconst X0.here hx rfl (hb hby d1_9) kS) ?_
  show own_G p.tables e below _ (s₁.setTop (mkF m 10 #[.val (.int (3 : Int32))] [(.int (1 : Int32)), (.int (3 : Int32))]))
  refine own_st (fun _ kS => XS.icmpYes X0.here hx rfl (pc0 := 10) (pc' := 17) rfl (hb hby d1_10) rfl (feq (by decide : ¬ ((3 : Int32) = (1 : Int32)))).2 (by decide) (by decide) kS) ?_
  show own_G p.tables e below _ (s₁.setTop (mkF m 17 #[.val (.int (3 : Int32))] []))
  refine own_st (fun _ kS => XS.iloadN X0.here hx rfl (hb hby d1_17) rfl kS) ?_
  show own_G p.tables e below _ (s₁.setTop (mkF m 18 #[.val (.int (3 : Int32))] [(.int (3 : Int32))]))
  refine own_st (fun _ kS => XS.iconst X0.here hx rfl (hb hby d1_18) kS) ?_
  show own_G p.tables e below _ (s₁.setTop (mkF m 19 #[.val (.int (3 : Int32))] [(.int (2 : Int32)), (.int (3 : Int32))]))
  refine own_st (fun _ kS => XS.icmpYes X0.here hx rfl (pc0 := 19) (pc' := 26) rfl (hb hby d1_19) rfl (feq (by decide : ¬ ((3 : Int32) = (2 : Int32)))).2 (by decide) (by decide) kS) ?_
  show own_G p.tables e below _ (s₁.setTop (mkF m 26 #[.val (.int (3 : Int32))] []))
  refine own_st (fun _ kS => XS.iloadN X0.here hx rfl (hb hby d1_26) rfl kS) ?_
  show own_G p.tables e below _ (s₁.setTop (mkF m 27 #[.val (.int (3 : Int32))] [(.int (3 : Int32))]))
  refine own_st (fun _ kS => XS.iconst X0.here hx rfl (hb hby d1_27) kS) ?_
  show own_G p.tables e below _ (s₁.setTop (mkF m 28 #[.val (.int (3 : Int32))] [(.int (3 : Int32)), (.int (3 : Int32))]))
  refine own_st (fun _ kS => XS.icmpNo X0.here hx rfl (hb hby d1_28) rfl (teq (by decide : (3 : Int32) = (3 : Int32))).2 kS) ?_
  show own_G p.tables e below _ (s₁.setTop (mkF m 31 #[.val (.int (3 : Int32))] []))
  obtain ⟨T1, X1, e1, st1⟩ := getS2 X0 hx hZ hown (host := "") (Or.inl (hw _ (List.mem_of_getElem? (i := 19) rfl))) Via.refl e0 (Sta.ext O0.2 S_BIG_NUMBER) (g := (mkF m 31 #[.val (.int (3 : Int32))] [])) rfl (hb hby d1_31)
  refine own_st st1 ?_
  show own_G p.tables e below _ (T1.setTop (mkF m 34 #[.val (.int (3 : Int32))] [(.ref w)]))
  exact own_retA X1 hx hlk hret rfl rfl (hb hby d1_34) (by decide) (by decide) (by rw [e1]; exact ⟨rfl, N0, rfl⟩)
theorem ef_pick4 (m : MethodId)  : entryFrame m #[(.int (4 : Int32))] 1 = mkF m 0 #[.val (.int (4 : Int32))] [] := by first | (simp [entryFrame, mkF, argsToLocals, Value.category]; done) | rfl
def Q_pick4 (Z : State) (w : Addr) (h0 : Heap) (n0 : Nat) (v : Option Value) (h : Heap) (L : List Loc) : Prop := v = some (.ref w) ∧ Fr n0 L ∧ h = h0
set_option maxRecDepth 65536 in
set_option maxHeartbeats 40000000 in
theorem rm_pick4 (l : Launch) (Z : State) (a0 : Array Value) (hw : ∀ d ∈ tables_1, d.before a0 Z = true) (ws : List Jvm.Cond) (w : Addr) (h0 : Heap) (n0 : Nat) (Z0 : n0 ≤ h0.size) (O0 : Old Z n0 h0) (S_DATE : Sta Z Z.heap "com/example/rillworks/rillworks/row/ValueType" "DATE" "Lcom/example/rillworks/rillworks/row/ValueType;" (.ref w)) :
    MetFree l (⟨"com/example/rillworks/rillworks/row/ValueTypeIsNumberPinLaw", "pick", "(I)Lcom/example/rillworks/rillworks/row/ValueType;"⟩ : MethodName) (head1 (Jvm.Cond.code (⟨"com/example/rillworks/rillworks/row/ValueTypeIsNumberPinLaw", "pick", "(I)Lcom/example/rillworks/rillworks/row/ValueType;"⟩ : MethodName) method_2_code 1 (some (.object "com/example/rillworks/rillworks/row/ValueType")) :: ws) ({ frames := 0, cells := 0, slots := 0, locals := 0 } : Room)) (fun a U => a = #[(.int (4 : Int32))] ∧ Z.Warmed39 U.vm ∧ U.heap = h0) (fun _ _ _ _ _ => True) (fun _ U o U' => ∃ v L, o = .returned v ∧ Q_pick4 Z w h0 n0 v U'.heap L ∧ FrameEnd U o U' L ({ frames := 0, cells := 0, slots := 0, locals := 0 } : Room).cells ({ frames := 0, cells := 0, slots := 0, locals := 0 } : Room).slots) := by
  refine MetFree.of_bodySF (plainFor_of_name pn_1) hisR ?_
  intro p e s m args below meth c s₁ Bd hml0 hP hK
  obtain ⟨rfl, hZ, hh⟩ := hP
  have hx := Bd.exec
  have hby := Bd.bytes
  have hml : c.maxLocals = 1 := hml0
  have hown : s.vm.findClass "com/example/rillworks/rillworks/row/ValueTypeIsNumberPinLaw" = some m.cls := findClass_of_methodNamed Bd.named
  have hnm := (name_of_methodNamed Bd.named Bd.method).1
  have hlk := Bd.notSynchronized
  have hret := Bd.returns
  have X0 : Stand p l e ({ frames := 0, cells := 0, slots := 0, locals := 0 } : Room) s m #[(.int (4 : Int32))] below meth c s₁ [] 0 0 := Stand.of_body Bd
  have e0 : s₁.heap = h0 := by rw [← hh, Bd.state]; rfl
  have N0 := Fr.nil n0
  refine own_in ({ frames := 0, cells := 0, slots := 0, locals := 0 } : Room).cells ({ frames := 0, cells := 0, slots := 0, locals := 0 } : Room).slots (Q_pick4 Z w h0 n0) (ef_pick4 m ) ?_
  show own_G p.tables e below _ (s₁.setTop (mkF m 0 #[.val (.int (4 : Int32))] []))
  refine own_st (fun _ kS => XS.iloadN X0.here hx rfl (hb hby d1_0) rfl kS) ?_
  show own_G p.tables e below _ (s₁.setTop (mkF m 1 #[.val (.int (4 : Int32))] [(.int (4 : Int32))]))
  refine own_st (fun _ kS => XS.ifYes X0.here hx rfl (pc0 := 1) (pc' := 8) rfl (hb hby d1_1) rfl ((if0 _ _).trans (feq (by decide : ¬ ((4 : Int32) = (0 : Int32)))).2) (by decide) (by decide) kS) ?_
  show own_G p.tables e below _ (s₁.setTop (mkF m 8 #[.val (.int (4 : Int32))] []))
  refine own_st (fun _ kS => XS.iloadN X0.here hx rfl (hb hby d1_8) rfl kS) ?_
  show own_G p.tables e below _ (s₁.setTop (mkF m 9 #[.val (.int (4 : Int32))] [(.int (4 : Int32))]))
  refine own_st (fun _ kS => XS.iconst X0.here hx rfl (hb hby d1_9) kS) ?_
  show own_G p.tables e below _ (s₁.setTop (mkF m 10 #[.val (.int (4 : Int32))] [(.int (1 : Int32)), (.int (4 : Int32))]))
  refine own_st (fun _ kS => XS.icmpYes X0.here hx rfl (pc0 := 10) (pc' := 17) rfl (hb hby d1_10) rfl (feq (by decide : ¬ ((4 : Int32) = (1 : Int32)))).2 (by decide) (by decide) kS) ?_
  show own_G p.tables e below _ (s₁.setTop (mkF m 17 #[.val (.int (4 : Int32))] []))
  refine own_st (fun _ kS => XS.iloadN X0.here hx rfl (hb hby d1_17) rfl kS) ?_
  show own_G p.tables e below _ (s₁.setTop (mkF m 18 #[.val (.int (4 : Int32))] [(.int (4 : Int32))]))
  refine own_st (fun _ kS => XS.iconst X0.here hx rfl (hb hby d1_18) kS) ?_
  show own_G p.tables e below _ (s₁.setTop (mkF m 19 #[.val (.int (4 : Int32))] [(.int (2 : Int32)), (.int (4 : Int32))]))
  refine own_st (fun _ kS => XS.icmpYes X0.here hx rfl (pc0 := 19) (pc' := 26) rfl (hb hby d1_19) rfl (feq (by decide : ¬ ((4 : Int32) = (2 : Int32)))).2 (by decide) (by decide) kS) ?_
  show own_G p.tables e below _ (s₁.setTop (mkF m 26 #[.val (.int (4 : Int32))] []))
  refine own_st (fun _ kS => XS.iloadN X0.here hx rfl (hb hby d1_26) rfl kS) ?_
  show own_G p.tables e below _ (s₁.setTop (mkF m 27 #[.val (.int (4 : Int32))] [(.int (4 : Int32))]))
  refine own_st (fun _ kS => XS.iconst X0.here hx rfl (hb hby d1_27) kS) ?_
  show own_G p.tables e below _ (s₁.setTop (mkF m 28 #[.val (.int (4 : Int32))] [(.int (3 : Int32)), (.int (4 : Int32))]))
  refine own_st (fun _ kS => XS.icmpYes X0.here hx rfl (pc0 := 28) (pc' := 35) rfl (hb hby d1_28) rfl (feq (by decide : ¬ ((4 : Int32) = (3 : Int32)))).2 (by decide) (by decide) kS) ?_
  show own_G p.tables e below _ (s₁.setTop (mkF m 35 #[.val (.int (4 : Int32))] []))
  refine own_st (fun _ kS => XS.iloadN X0.here hx rfl (hb hby d1_35) rfl kS) ?_
  show own_G p.tables e below _ (s₁.setTop (mkF m 36 #[.val (.int (4 : Int32))] [(.int (4 : Int32))]))
  refine own_st (fun _ kS => XS.iconst X0.here hx rfl (hb hby d1_36) kS) ?_
  show own_G p.tables e below _ (s₁.setTop (mkF m 37 #[.val (.int (4 : Int32))] [(.int (4 : Int32)), (.int (4 : Int32))]))
  refine own_st (fun _ kS => XS.icmpNo X0.here hx rfl (hb hby d1_37) rfl (teq (by decide : (4 : Int32) = (4 : Int32))).2 kS) ?_
  show own_G p.tables e below _ (s₁.setTop (mkF m 40 #[.val (.int (4 : Int32))] []))
  obtain ⟨T1, X1, e1, st1⟩ := getS2 X0 hx hZ hown (host := "") (Or.inl (hw _ (List.mem_of_getElem? (i := 35) rfl))) Via.refl e0 (Sta.ext O0.2 S_DATE) (g := (mkF m 40 #[.val (.int (4 : Int32))] [])) rfl (hb hby d1_40)
  refine own_st st1 ?_
  show own_G p.tables e below _ (T1.setTop (mkF m 43 #[.val (.int (4 : Int32))] [(.ref w)]))
  exact own_retA X1 hx hlk hret rfl rfl (hb hby d1_43) (by decide) (by decide) (by rw [e1]; exact ⟨rfl, N0, rfl⟩)
theorem ef_pick5 (m : MethodId)  : entryFrame m #[(.int (5 : Int32))] 1 = mkF m 0 #[.val (.int (5 : Int32))] [] := by first | (simp [entryFrame, mkF, argsToLocals, Value.category]; done) | rfl
def Q_pick5 (Z : State) (w : Addr) (h0 : Heap) (n0 : Nat) (v : Option Value) (h : Heap) (L : List Loc) : Prop := v = some (.ref w) ∧ Fr n0 L ∧ h = h0
set_option maxRecDepth 65536 in
set_option maxHeartbeats 40000000 in
theorem rm_pick5 (l : Launch) (Z : State) (a0 : Array Value) (hw : ∀ d ∈ tables_1, d.before a0 Z = true) (ws : List Jvm.Cond) (w : Addr) (h0 : Heap) (n0 : Nat) (Z0 : n0 ≤ h0.size) (O0 : Old Z n0 h0) (S_TIMESTAMP : Sta Z Z.heap "com/example/rillworks/rillworks/row/ValueType" "TIMESTAMP" "Lcom/example/rillworks/rillworks/row/ValueType;" (.ref w)) :
    MetFree l (⟨"com/example/rillworks/rillworks/row/ValueTypeIsNumberPinLaw", "pick", "(I)Lcom/example/rillworks/rillworks/row/ValueType;"⟩ : MethodName) (head1 (Jvm.Cond.code (⟨"com/example/rillworks/rillworks/row/ValueTypeIsNumberPinLaw", "pick", "(I)Lcom/example/rillworks/rillworks/row/ValueType;"⟩ : MethodName) method_2_code 1 (some (.object "com/example/rillworks/rillworks/row/ValueType")) :: ws) ({ frames := 0, cells := 0, slots := 0, locals := 0 } : Room)) (fun a U => a = #[(.int (5 : Int32))] ∧ Z.Warmed39 U.vm ∧ U.heap = h0) (fun _ _ _ _ _ => True) (fun _ U o U' => ∃ v L, o = .returned v ∧ Q_pick5 Z w h0 n0 v U'.heap L ∧ FrameEnd U o U' L ({ frames := 0, cells := 0, slots := 0, locals := 0 } : Room).cells ({ frames := 0, cells := 0, slots := 0, locals := 0 } : Room).slots) := by
  refine MetFree.of_bodySF (plainFor_of_name pn_1) hisR ?_
  intro p e s m args below meth c s₁ Bd hml0 hP hK
  obtain ⟨rfl, hZ, hh⟩ := hP
  have hx := Bd.exec
  have hby := Bd.bytes
  have hml : c.maxLocals = 1 := hml0
  have hown : s.vm.findClass "com/example/rillworks/rillworks/row/ValueTypeIsNumberPinLaw" = some m.cls := findClass_of_methodNamed Bd.named
  have hnm := (name_of_methodNamed Bd.named Bd.method).1
  have hlk := Bd.notSynchronized
  have hret := Bd.returns
  have X0 : Stand p l e ({ frames := 0, cells := 0, slots := 0, locals := 0 } : Room) s m #[(.int (5 : Int32))] below meth c s₁ [] 0 0 := Stand.of_body Bd
  have e0 : s₁.heap = h0 := by rw [← hh, Bd.state]; rfl
  have N0 := Fr.nil n0
  refine own_in ({ frames := 0, cells := 0, slots := 0, locals := 0 } : Room).cells ({ frames := 0, cells := 0, slots := 0, locals := 0 } : Room).slots (Q_pick5 Z w h0 n0) (ef_pick5 m ) ?_
  show own_G p.tables e below _ (s₁.setTop (mkF m 0 #[.val (.int (5 : Int32))] []))
  refine own_st (fun _ kS => XS.iloadN X0.here hx rfl (hb hby d1_0) rfl kS) ?_
  show own_G p.tables e below _ (s₁.setTop (mkF m 1 #[.val (.int (5 : Int32))] [(.int (5 : Int32))]))
  refine own_st (fun _ kS => XS.ifYes X0.here hx rfl (pc0 := 1) (pc' := 8) rfl (hb hby d1_1) rfl ((if0 _ _).trans (feq (by decide : ¬ ((5 : Int32) = (0 : Int32)))).2) (by decide) (by decide) kS) ?_
  show own_G p.tables e below _ (s₁.setTop (mkF m 8 #[.val (.int (5 : Int32))] []))
  refine own_st (fun _ kS => XS.iloadN X0.here hx rfl (hb hby d1_8) rfl kS) ?_
  show own_G p.tables e below _ (s₁.setTop (mkF m 9 #[.val (.int (5 : Int32))] [(.int (5 : Int32))]))
  refine own_st (fun _ kS => XS.iconst X0.here hx rfl (hb hby d1_9) kS) ?_
  show own_G p.tables e below _ (s₁.setTop (mkF m 10 #[.val (.int (5 : Int32))] [(.int (1 : Int32)), (.int (5 : Int32))]))
  refine own_st (fun _ kS => XS.icmpYes X0.here hx rfl (pc0 := 10) (pc' := 17) rfl (hb hby d1_10) rfl (feq (by decide : ¬ ((5 : Int32) = (1 : Int32)))).2 (by decide) (by decide) kS) ?_
  show own_G p.tables e below _ (s₁.setTop (mkF m 17 #[.val (.int (5 : Int32))] []))
  refine own_st (fun _ kS => XS.iloadN X0.here hx rfl (hb hby d1_17) rfl kS) ?_
  show own_G p.tables e below _ (s₁.setTop (mkF m 18 #[.val (.int (5 : Int32))] [(.int (5 : Int32))]))
  refine own_st (fun _ kS => XS.iconst X0.here hx rfl (hb hby d1_18) kS) ?_
  show own_G p.tables e below _ (s₁.setTop (mkF m 19 #[.val (.int (5 : Int32))] [(.int (2 : Int32)), (.int (5 : Int32))]))
  refine own_st (fun _ kS => XS.icmpYes X0.here hx rfl (pc0 := 19) (pc' := 26) rfl (hb hby d1_19) rfl (feq (by decide : ¬ ((5 : Int32) = (2 : Int32)))).2 (by decide) (by decide) kS) ?_
  show own_G p.tables e below _ (s₁.setTop (mkF m 26 #[.val (.int (5 : Int32))] []))
  refine own_st (fun _ kS => XS.iloadN X0.here hx rfl (hb hby d1_26) rfl kS) ?_
  show own_G p.tables e below _ (s₁.setTop (mkF m 27 #[.val (.int (5 : Int32))] [(.int (5 : Int32))]))
  refine own_st (fun _ kS => XS.iconst X0.here hx rfl (hb hby d1_27) kS) ?_
  show own_G p.tables e below _ (s₁.setTop (mkF m 28 #[.val (.int (5 : Int32))] [(.int (3 : Int32)), (.int (5 : Int32))]))
  refine own_st (fun _ kS => XS.icmpYes X0.here hx rfl (pc0 := 28) (pc' := 35) rfl (hb hby d1_28) rfl (feq (by decide : ¬ ((5 : Int32) = (3 : Int32)))).2 (by decide) (by decide) kS) ?_
  show own_G p.tables e below _ (s₁.setTop (mkF m 35 #[.val (.int (5 : Int32))] []))
  refine own_st (fun _ kS => XS.iloadN X0.here hx rfl (hb hby d1_35) rfl kS) ?_
  show own_G p.tables e below _ (s₁.setTop (mkF m 36 #[.val (.int (5 : Int32))] [(.int (5 : Int32))]))
  refine own_st (fun _ kS => XS.iconst X0.here hx rfl (hb hby d1_36) kS) ?_
  show own_G p.tables e below _ (s₁.setTop (mkF m 37 #[.val (.int (5 : Int32))] [(.int (4 : Int32)), (.int (5 : Int32))]))
  refine own_st (fun _ kS => XS.icmpYes X0.here hx rfl (pc0 := 37) (pc' := 44) rfl (hb hby d1_37) rfl (feq (by decide : ¬ ((5 : Int32) = (4 : Int32)))).2 (by decide) (by decide) kS) ?_
  show own_G p.tables e below _ (s₁.setTop (mkF m 44 #[.val (.int (5 : Int32))] []))
  refine own_st (fun _ kS => XS.iloadN X0.here hx rfl (hb hby d1_44) rfl kS) ?_
  show own_G p.tables e below _ (s₁.setTop (mkF m 45 #[.val (.int (5 : Int32))] [(.int (5 : Int32))]))
  refine own_st (fun _ kS => XS.iconst X0.here hx rfl (hb hby d1_45) kS) ?_
  show own_G p.tables e below _ (s₁.setTop (mkF m 46 #[.val (.int (5 : Int32))] [(.int (5 : Int32)), (.int (5 : Int32))]))
  refine own_st (fun _ kS => XS.icmpNo X0.here hx rfl (hb hby d1_46) rfl (teq (by decide : (5 : Int32) = (5 : Int32))).2 kS) ?_
  show own_G p.tables e below _ (s₁.setTop (mkF m 49 #[.val (.int (5 : Int32))] []))
  obtain ⟨T1, X1, e1, st1⟩ := getS2 X0 hx hZ hown (host := "") (Or.inl (hw _ (List.mem_of_getElem? (i := 30) rfl))) Via.refl e0 (Sta.ext O0.2 S_TIMESTAMP) (g := (mkF m 49 #[.val (.int (5 : Int32))] [])) rfl (hb hby d1_49)
  refine own_st st1 ?_
  show own_G p.tables e below _ (T1.setTop (mkF m 52 #[.val (.int (5 : Int32))] [(.ref w)]))
  exact own_retA X1 hx hlk hret rfl rfl (hb hby d1_52) (by decide) (by decide) (by rw [e1]; exact ⟨rfl, N0, rfl⟩)
theorem ef_pick6 (m : MethodId)  : entryFrame m #[(.int (6 : Int32))] 1 = mkF m 0 #[.val (.int (6 : Int32))] [] := by first | (simp [entryFrame, mkF, argsToLocals, Value.category]; done) | rfl
def Q_pick6 (Z : State) (w : Addr) (h0 : Heap) (n0 : Nat) (v : Option Value) (h : Heap) (L : List Loc) : Prop := v = some (.ref w) ∧ Fr n0 L ∧ h = h0
set_option maxRecDepth 65536 in
set_option maxHeartbeats 40000000 in
theorem rm_pick6 (l : Launch) (Z : State) (a0 : Array Value) (hw : ∀ d ∈ tables_1, d.before a0 Z = true) (ws : List Jvm.Cond) (w : Addr) (h0 : Heap) (n0 : Nat) (Z0 : n0 ≤ h0.size) (O0 : Old Z n0 h0) (S_BOOLEAN : Sta Z Z.heap "com/example/rillworks/rillworks/row/ValueType" "BOOLEAN" "Lcom/example/rillworks/rillworks/row/ValueType;" (.ref w)) :
    MetFree l (⟨"com/example/rillworks/rillworks/row/ValueTypeIsNumberPinLaw", "pick", "(I)Lcom/example/rillworks/rillworks/row/ValueType;"⟩ : MethodName) (head1 (Jvm.Cond.code (⟨"com/example/rillworks/rillworks/row/ValueTypeIsNumberPinLaw", "pick", "(I)Lcom/example/rillworks/rillworks/row/ValueType;"⟩ : MethodName) method_2_code 1 (some (.object "com/example/rillworks/rillworks/row/ValueType")) :: ws) ({ frames := 0, cells := 0, slots := 0, locals := 0 } : Room)) (fun a U => a = #[(.int (6 : Int32))] ∧ Z.Warmed39 U.vm ∧ U.heap = h0) (fun _ _ _ _ _ => True) (fun _ U o U' => ∃ v L, o = .returned v ∧ Q_pick6 Z w h0 n0 v U'.heap L ∧ FrameEnd U o U' L ({ frames := 0, cells := 0, slots := 0, locals := 0 } : Room).cells ({ frames := 0, cells := 0, slots := 0, locals := 0 } : Room).slots) := by
  refine MetFree.of_bodySF (plainFor_of_name pn_1) hisR ?_
  intro p e s m args below meth c s₁ Bd hml0 hP hK
  obtain ⟨rfl, hZ, hh⟩ := hP
  have hx := Bd.exec
  have hby := Bd.bytes
  have hml : c.maxLocals = 1 := hml0
  have hown : s.vm.findClass "com/example/rillworks/rillworks/row/ValueTypeIsNumberPinLaw" = some m.cls := findClass_of_methodNamed Bd.named
  have hnm := (name_of_methodNamed Bd.named Bd.method).1
  have hlk := Bd.notSynchronized
  have hret := Bd.returns
  have X0 : Stand p l e ({ frames := 0, cells := 0, slots := 0, locals := 0 } : Room) s m #[(.int (6 : Int32))] below meth c s₁ [] 0 0 := Stand.of_body Bd
  have e0 : s₁.heap = h0 := by rw [← hh, Bd.state]; rfl
  have N0 := Fr.nil n0
  refine own_in ({ frames := 0, cells := 0, slots := 0, locals := 0 } : Room).cells ({ frames := 0, cells := 0, slots := 0, locals := 0 } : Room).slots (Q_pick6 Z w h0 n0) (ef_pick6 m ) ?_
  show own_G p.tables e below _ (s₁.setTop (mkF m 0 #[.val (.int (6 : Int32))] []))
  refine own_st (fun _ kS => XS.iloadN X0.here hx rfl (hb hby d1_0) rfl kS) ?_
  show own_G p.tables e below _ (s₁.setTop (mkF m 1 #[.val (.int (6 : Int32))] [(.int (6 : Int32))]))
  refine own_st (fun _ kS => XS.ifYes X0.here hx rfl (pc0 := 1) (pc' := 8) rfl (hb hby d1_1) rfl ((if0 _ _).trans (feq (by decide : ¬ ((6 : Int32) = (0 : Int32)))).2) (by decide) (by decide) kS) ?_
  show own_G p.tables e below _ (s₁.setTop (mkF m 8 #[.val (.int (6 : Int32))] []))
  refine own_st (fun _ kS => XS.iloadN X0.here hx rfl (hb hby d1_8) rfl kS) ?_
  show own_G p.tables e below _ (s₁.setTop (mkF m 9 #[.val (.int (6 : Int32))] [(.int (6 : Int32))]))
  refine own_st (fun _ kS => XS.iconst X0.here hx rfl (hb hby d1_9) kS) ?_
  show own_G p.tables e below _ (s₁.setTop (mkF m 10 #[.val (.int (6 : Int32))] [(.int (1 : Int32)), (.int (6 : Int32))]))
  refine own_st (fun _ kS => XS.icmpYes X0.here hx rfl (pc0 := 10) (pc' := 17) rfl (hb hby d1_10) rfl (feq (by decide : ¬ ((6 : Int32) = (1 : Int32)))).2 (by decide) (by decide) kS) ?_
  show own_G p.tables e below _ (s₁.setTop (mkF m 17 #[.val (.int (6 : Int32))] []))
  refine own_st (fun _ kS => XS.iloadN X0.here hx rfl (hb hby d1_17) rfl kS) ?_
  show own_G p.tables e below _ (s₁.setTop (mkF m 18 #[.val (.int (6 : Int32))] [(.int (6 : Int32))]))
  refine own_st (fun _ kS => XS.iconst X0.here hx rfl (hb hby d1_18) kS) ?_
  show own_G p.tables e below _ (s₁.setTop (mkF m 19 #[.val (.int (6 : Int32))] [(.int (2 : Int32)), (.int (6 : Int32))]))
  refine own_st (fun _ kS => XS.icmpYes X0.here hx rfl (pc0 := 19) (pc' := 26) rfl (hb hby d1_19) rfl (feq (by decide : ¬ ((6 : Int32) = (2 : Int32)))).2 (by decide) (by decide) kS) ?_
  show own_G p.tables e below _ (s₁.setTop (mkF m 26 #[.val (.int (6 : Int32))] []))
  refine own_st (fun _ kS => XS.iloadN X0.here hx rfl (hb hby d1_26) rfl kS) ?_
  show own_G p.tables e below _ (s₁.setTop (mkF m 27 #[.val (.int (6 : Int32))] [(.int (6 : Int32))]))
  refine own_st (fun _ kS => XS.iconst X0.here hx rfl (hb hby d1_27) kS) ?_
  show own_G p.tables e below _ (s₁.setTop (mkF m 28 #[.val (.int (6 : Int32))] [(.int (3 : Int32)), (.int (6 : Int32))]))
  refine own_st (fun _ kS => XS.icmpYes X0.here hx rfl (pc0 := 28) (pc' := 35) rfl (hb hby d1_28) rfl (feq (by decide : ¬ ((6 : Int32) = (3 : Int32)))).2 (by decide) (by decide) kS) ?_
  show own_G p.tables e below _ (s₁.setTop (mkF m 35 #[.val (.int (6 : Int32))] []))
  refine own_st (fun _ kS => XS.iloadN X0.here hx rfl (hb hby d1_35) rfl kS) ?_
  show own_G p.tables e below _ (s₁.setTop (mkF m 36 #[.val (.int (6 : Int32))] [(.int (6 : Int32))]))
  refine own_st (fun _ kS => XS.iconst X0.here hx rfl (hb hby d1_36) kS) ?_
  show own_G p.tables e below _ (s₁.setTop (mkF m 37 #[.val (.int (6 : Int32))] [(.int (4 : Int32)), (.int (6 : Int32))]))
  refine own_st (fun _ kS => XS.icmpYes X0.here hx rfl (pc0 := 37) (pc' := 44) rfl (hb hby d1_37) rfl (feq (by decide : ¬ ((6 : Int32) = (4 : Int32)))).2 (by decide) (by decide) kS) ?_
  show own_G p.tables e below _ (s₁.setTop (mkF m 44 #[.val (.int (6 : Int32))] []))
  refine own_st (fun _ kS => XS.iloadN X0.here hx rfl (hb hby d1_44) rfl kS) ?_
  show own_G p.tables e below _ (s₁.setTop (mkF m 45 #[.val (.int (6 : Int32))] [(.int (6 : Int32))]))
  refine own_st (fun _ kS => XS.iconst X0.here hx rfl (hb hby d1_45) kS) ?_
  show own_G p.tables e below _ (s₁.setTop (mkF m 46 #[.val (.int (6 : Int32))] [(.int (5 : Int32)), (.int (6 : Int32))]))
  refine own_st (fun _ kS => XS.icmpYes X0.here hx rfl (pc0 := 46) (pc' := 53) rfl (hb hby d1_46) rfl (feq (by decide : ¬ ((6 : Int32) = (5 : Int32)))).2 (by decide) (by decide) kS) ?_
  show own_G p.tables e below _ (s₁.setTop (mkF m 53 #[.val (.int (6 : Int32))] []))
  obtain ⟨T1, X1, e1, st1⟩ := getS2 X0 hx hZ hown (host := "") (Or.inl (hw _ (List.mem_of_getElem? (i := 32) rfl))) Via.refl e0 (Sta.ext O0.2 S_BOOLEAN) (g := (mkF m 53 #[.val (.int (6 : Int32))] [])) rfl (hb hby d1_53)
  refine own_st st1 ?_
  show own_G p.tables e below _ (T1.setTop (mkF m 56 #[.val (.int (6 : Int32))] [(.ref w)]))
  exact own_retA X1 hx hlk hret rfl rfl (hb hby d1_56) (by decide) (by decide) (by rw [e1]; exact ⟨rfl, N0, rfl⟩)
theorem d2_0 : decode prog_33_method_9_code 0 = .ok (.aload_n 0, 1) := by decide +kernel
theorem d2_1 : decode prog_33_method_9_code 1 = .ok (.getstatic 7, 3) := by decide +kernel
theorem d2_4 : decode prog_33_method_9_code 4 = .ok (.if_acmp .eq 17, 3) := by decide +kernel
theorem d2_7 : decode prog_33_method_9_code 7 = .ok (.aload_n 0, 1) := by decide +kernel
theorem d2_8 : decode prog_33_method_9_code 8 = .ok (.getstatic 10, 3) := by decide +kernel
theorem d2_11 : decode prog_33_method_9_code 11 = .ok (.if_acmp .eq 10, 3) := by decide +kernel
theorem d2_14 : decode prog_33_method_9_code 14 = .ok (.aload_n 0, 1) := by decide +kernel
theorem d2_15 : decode prog_33_method_9_code 15 = .ok (.getstatic 13, 3) := by decide +kernel
theorem d2_18 : decode prog_33_method_9_code 18 = .ok (.if_acmp .ne 7, 3) := by decide +kernel
theorem d2_21 : decode prog_33_method_9_code 21 = .ok (.iconst 1, 1) := by decide +kernel
theorem d2_22 : decode prog_33_method_9_code 22 = .ok (.goto 4, 3) := by decide +kernel
theorem d2_25 : decode prog_33_method_9_code 25 = .ok (.iconst 0, 1) := by decide +kernel
theorem d2_26 : decode prog_33_method_9_code 26 = .ok (.ireturn, 1) := by decide +kernel
theorem pn_2 : plainName "com/example/rillworks/rillworks/row/ValueType" = true := by first | (simp [plainName, overriddenIn]; done) | decide +kernel
theorem ef_isNumber_STRING (m : MethodId) (x0 : Addr) : entryFrame m #[(.ref x0)] 1 = mkF m 0 #[.val (.ref x0)] [] := by first | (simp [entryFrame, mkF, argsToLocals, Value.category]; done) | rfl
def Q_isNumber_STRING (Z : State) (w_STRING : Addr) (w_INTEGER : Addr) (w_NUMBER : Addr) (w_BIG_NUMBER : Addr) (h0 : Heap) (n0 : Nat) (v : Option Value) (h : Heap) (L : List Loc) : Prop := v = some (.int (0 : Int32)) ∧ Fr n0 L ∧ h = h0
set_option maxRecDepth 65536 in
set_option maxHeartbeats 40000000 in
theorem rm_isNumber_STRING (l : Launch) (Z : State) (a0 : Array Value) (hw : ∀ d ∈ tables_1, d.before a0 Z = true) (ws : List Jvm.Cond) (w_STRING : Addr) (w_INTEGER : Addr) (w_NUMBER : Addr) (w_BIG_NUMBER : Addr) (h0 : Heap) (n0 : Nat) (Z0 : n0 ≤ h0.size) (O0 : Old Z n0 h0) (S_INTEGER : Sta Z Z.heap "com/example/rillworks/rillworks/row/ValueType" "INTEGER" "Lcom/example/rillworks/rillworks/row/ValueType;" (.ref w_INTEGER)) (S_NUMBER : Sta Z Z.heap "com/example/rillworks/rillworks/row/ValueType" "NUMBER" "Lcom/example/rillworks/rillworks/row/ValueType;" (.ref w_NUMBER)) (S_BIG_NUMBER : Sta Z Z.heap "com/example/rillworks/rillworks/row/ValueType" "BIG_NUMBER" "Lcom/example/rillworks/rillworks/row/ValueType;" (.ref w_BIG_NUMBER)) (ne_STRING_INTEGER : w_STRING ≠ w_INTEGER) (ne_STRING_NUMBER : w_STRING ≠ w_NUMBER) (ne_STRING_BIG_NUMBER : w_STRING ≠ w_BIG_NUMBER) :
    MetFree l (⟨"com/example/rillworks/rillworks/row/ValueType", "isNumber", "()Z"⟩ : MethodName) (head1 (Jvm.Cond.code (⟨"com/example/rillworks/rillworks/row/ValueType", "isNumber", "()Z"⟩ : MethodName) prog_33_method_9_code 1 (some .boolean) :: ws) ({ frames := 0, cells := 0, slots := 0, locals := 0 } : Room)) (fun a U => a = #[(.ref w_STRING)] ∧ Z.Warmed39 U.vm ∧ U.heap = h0) (fun _ _ _ _ _ => True) (fun _ U o U' => ∃ v L, o = .returned v ∧ Q_isNumber_STRING Z w_STRING w_INTEGER w_NUMBER w_BIG_NUMBER h0 n0 v U'.heap L ∧ FrameEnd U o U' L ({ frames := 0, cells := 0, slots := 0, locals := 0 } : Room).cells ({ frames := 0, cells := 0, slots := 0, locals := 0 } : Room).slots) := by
  refine MetFree.of_bodySF (plainFor_of_name pn_2) hisR ?_
  intro p e s m args below meth c s₁ Bd hml0 hP hK
  obtain ⟨rfl, hZ, hh⟩ := hP
  have hx := Bd.exec
  have hby := Bd.bytes
  have hml : c.maxLocals = 1 := hml0
  have hown : s.vm.findClass "com/example/rillworks/rillworks/row/ValueType" = some m.cls := findClass_of_methodNamed Bd.named
  have hnm := (name_of_methodNamed Bd.named Bd.method).1
  have hlk := Bd.notSynchronized
  have hret := Bd.returns
  have X0 : Stand p l e ({ frames := 0, cells := 0, slots := 0, locals := 0 } : Room) s m #[(.ref w_STRING)] below meth c s₁ [] 0 0 := Stand.of_body Bd
  have e0 : s₁.heap = h0 := by rw [← hh, Bd.state]; rfl
  have N0 := Fr.nil n0
  refine own_in ({ frames := 0, cells := 0, slots := 0, locals := 0 } : Room).cells ({ frames := 0, cells := 0, slots := 0, locals := 0 } : Room).slots (Q_isNumber_STRING Z w_STRING w_INTEGER w_NUMBER w_BIG_NUMBER h0 n0) (ef_isNumber_STRING m w_STRING) ?_
  show own_G p.tables e below _ (s₁.setTop (mkF m 0 #[.val (.ref w_STRING)] []))
  refine own_st (fun _ kS => XS.aloadN X0.here hx rfl (hb hby d2_0) rfl rfl kS) ?_
  show own_G p.tables e below _ (s₁.setTop (mkF m 1 #[.val (.ref w_STRING)] [(.ref w_STRING)]))
  obtain ⟨T1, X1, e1, st1⟩ := getS2 X0 hx hZ hown (host := "") (Or.inl (hw _ (List.mem_of_getElem? (i := 13) rfl))) Via.refl e0 (Sta.ext O0.2 S_INTEGER) (g := (mkF m 1 #[.val (.ref w_STRING)] [(.ref w_STRING)])) rfl (hb hby d2_1)
  refine own_st st1 ?_
  show own_G p.tables e below _ (T1.setTop (mkF m 4 #[.val (.ref w_STRING)] [(.ref w_INTEGER), (.ref w_STRING)]))
  refine own_st (fun _ kS => Jvm.RoadKit.acmp (g := (mkF m 4 #[.val (.ref w_STRING)] [(.ref w_INTEGER), (.ref w_STRING)])) X1 hx rfl rfl rfl (pc0 := 4) (pc' := 7) (same := false) rfl (hb hby d2_4) rfl (decide_eq_false fun q => ne_STRING_INTEGER (Value.ref.inj q)) (by decide) (by decide) kS) ?_
  show own_G p.tables e below _ (T1.setTop (mkF m 7 #[.val (.ref w_STRING)] []))
  refine own_st (fun _ kS => XS.aloadN X1.here hx rfl (hb hby d2_7) rfl rfl kS) ?_
  show own_G p.tables e below _ (T1.setTop (mkF m 8 #[.val (.ref w_STRING)] [(.ref w_STRING)]))
  obtain ⟨T2, X2, e2, st2⟩ := getS2 X1 hx hZ hown (host := "") (Or.inl (hw _ (List.mem_of_getElem? (i := 15) rfl))) Via.refl e1 (Sta.ext O0.2 S_NUMBER) (g := (mkF m 8 #[.val (.ref w_STRING)] [(.ref w_STRING)])) rfl (hb hby d2_8)
  refine own_st st2 ?_
  show own_G p.tables e below _ (T2.setTop (mkF m 11 #[.val (.ref w_STRING)] [(.ref w_NUMBER), (.ref w_STRING)]))
  refine own_st (fun _ kS => Jvm.RoadKit.acmp (g := (mkF m 11 #[.val (.ref w_STRING)] [(.ref w_NUMBER), (.ref w_STRING)])) X2 hx rfl rfl rfl (pc0 := 11) (pc' := 14) (same := false) rfl (hb hby d2_11) rfl (decide_eq_false fun q => ne_STRING_NUMBER (Value.ref.inj q)) (by decide) (by decide) kS) ?_
  show own_G p.tables e below _ (T2.setTop (mkF m 14 #[.val (.ref w_STRING)] []))
  refine own_st (fun _ kS => XS.aloadN X2.here hx rfl (hb hby d2_14) rfl rfl kS) ?_
  show own_G p.tables e below _ (T2.setTop (mkF m 15 #[.val (.ref w_STRING)] [(.ref w_STRING)]))
  obtain ⟨T3, X3, e3, st3⟩ := getS2 X2 hx hZ hown (host := "") (Or.inl (hw _ (List.mem_of_getElem? (i := 17) rfl))) Via.refl e2 (Sta.ext O0.2 S_BIG_NUMBER) (g := (mkF m 15 #[.val (.ref w_STRING)] [(.ref w_STRING)])) rfl (hb hby d2_15)
  refine own_st st3 ?_
  show own_G p.tables e below _ (T3.setTop (mkF m 18 #[.val (.ref w_STRING)] [(.ref w_BIG_NUMBER), (.ref w_STRING)]))
  refine own_st (fun _ kS => Jvm.RoadKit.acmp (g := (mkF m 18 #[.val (.ref w_STRING)] [(.ref w_BIG_NUMBER), (.ref w_STRING)])) X3 hx rfl rfl rfl (pc0 := 18) (pc' := 25) (same := false) rfl (hb hby d2_18) rfl (decide_eq_false fun q => ne_STRING_BIG_NUMBER (Value.ref.inj q)) (by decide) (by decide) kS) ?_
  show own_G p.tables e below _ (T3.setTop (mkF m 25 #[.val (.ref w_STRING)] []))
  refine own_st (fun _ kS => XS.iconst X3.here hx rfl (hb hby d2_25) kS) ?_
  show own_G p.tables e below _ (T3.setTop (mkF m 26 #[.val (.ref w_STRING)] [(.int (0 : Int32))]))
  exact own_retN X3 hx hlk (t := .boolean) hret (by simp) (hb hby d2_26) (by decide) (by decide) (v' := (0 : Int32)) rfl (by rw [e3]; exact ⟨rfl, N0, rfl⟩)
theorem ef_isNumber_INTEGER (m : MethodId) (x0 : Addr) : entryFrame m #[(.ref x0)] 1 = mkF m 0 #[.val (.ref x0)] [] := by first | (simp [entryFrame, mkF, argsToLocals, Value.category]; done) | rfl
def Q_isNumber_INTEGER (Z : State) (w_INTEGER : Addr) (h0 : Heap) (n0 : Nat) (v : Option Value) (h : Heap) (L : List Loc) : Prop := v = some (.int (1 : Int32)) ∧ Fr n0 L ∧ h = h0
set_option maxRecDepth 65536 in
set_option maxHeartbeats 40000000 in
theorem rm_isNumber_INTEGER (l : Launch) (Z : State) (a0 : Array Value) (hw : ∀ d ∈ tables_1, d.before a0 Z = true) (ws : List Jvm.Cond) (w_INTEGER : Addr) (h0 : Heap) (n0 : Nat) (Z0 : n0 ≤ h0.size) (O0 : Old Z n0 h0) (S_INTEGER : Sta Z Z.heap "com/example/rillworks/rillworks/row/ValueType" "INTEGER" "Lcom/example/rillworks/rillworks/row/ValueType;" (.ref w_INTEGER)) :
    MetFree l (⟨"com/example/rillworks/rillworks/row/ValueType", "isNumber", "()Z"⟩ : MethodName) (head1 (Jvm.Cond.code (⟨"com/example/rillworks/rillworks/row/ValueType", "isNumber", "()Z"⟩ : MethodName) prog_33_method_9_code 1 (some .boolean) :: ws) ({ frames := 0, cells := 0, slots := 0, locals := 0 } : Room)) (fun a U => a = #[(.ref w_INTEGER)] ∧ Z.Warmed39 U.vm ∧ U.heap = h0) (fun _ _ _ _ _ => True) (fun _ U o U' => ∃ v L, o = .returned v ∧ Q_isNumber_INTEGER Z w_INTEGER h0 n0 v U'.heap L ∧ FrameEnd U o U' L ({ frames := 0, cells := 0, slots := 0, locals := 0 } : Room).cells ({ frames := 0, cells := 0, slots := 0, locals := 0 } : Room).slots) := by
  refine MetFree.of_bodySF (plainFor_of_name pn_2) hisR ?_
  intro p e s m args below meth c s₁ Bd hml0 hP hK
  obtain ⟨rfl, hZ, hh⟩ := hP
  have hx := Bd.exec
  have hby := Bd.bytes
  have hml : c.maxLocals = 1 := hml0
  have hown : s.vm.findClass "com/example/rillworks/rillworks/row/ValueType" = some m.cls := findClass_of_methodNamed Bd.named
  have hnm := (name_of_methodNamed Bd.named Bd.method).1
  have hlk := Bd.notSynchronized
  have hret := Bd.returns
  have X0 : Stand p l e ({ frames := 0, cells := 0, slots := 0, locals := 0 } : Room) s m #[(.ref w_INTEGER)] below meth c s₁ [] 0 0 := Stand.of_body Bd
  have e0 : s₁.heap = h0 := by rw [← hh, Bd.state]; rfl
  have N0 := Fr.nil n0
  refine own_in ({ frames := 0, cells := 0, slots := 0, locals := 0 } : Room).cells ({ frames := 0, cells := 0, slots := 0, locals := 0 } : Room).slots (Q_isNumber_INTEGER Z w_INTEGER h0 n0) (ef_isNumber_INTEGER m w_INTEGER) ?_
  show own_G p.tables e below _ (s₁.setTop (mkF m 0 #[.val (.ref w_INTEGER)] []))
  refine own_st (fun _ kS => XS.aloadN X0.here hx rfl (hb hby d2_0) rfl rfl kS) ?_
  show own_G p.tables e below _ (s₁.setTop (mkF m 1 #[.val (.ref w_INTEGER)] [(.ref w_INTEGER)]))
  obtain ⟨T1, X1, e1, st1⟩ := getS2 X0 hx hZ hown (host := "") (Or.inl (hw _ (List.mem_of_getElem? (i := 13) rfl))) Via.refl e0 (Sta.ext O0.2 S_INTEGER) (g := (mkF m 1 #[.val (.ref w_INTEGER)] [(.ref w_INTEGER)])) rfl (hb hby d2_1)
  refine own_st st1 ?_
  show own_G p.tables e below _ (T1.setTop (mkF m 4 #[.val (.ref w_INTEGER)] [(.ref w_INTEGER), (.ref w_INTEGER)]))
  refine own_st (fun _ kS => Jvm.RoadKit.acmp (g := (mkF m 4 #[.val (.ref w_INTEGER)] [(.ref w_INTEGER), (.ref w_INTEGER)])) X1 hx rfl rfl rfl (pc0 := 4) (pc' := 21) (same := true) rfl (hb hby d2_4) rfl (decide_eq_true rfl) (by decide) (by decide) kS) ?_
  show own_G p.tables e below _ (T1.setTop (mkF m 21 #[.val (.ref w_INTEGER)] []))
  refine own_st (fun _ kS => XS.iconst X1.here hx rfl (hb hby d2_21) kS) ?_
  show own_G p.tables e below _ (T1.setTop (mkF m 22 #[.val (.ref w_INTEGER)] [(.int (1 : Int32))]))
  refine own_st (fun _ kS => XS.goto X1.here hx rfl (pc0 := 22) (pc' := 26) rfl (hb hby d2_22) (by decide) (by decide) kS) ?_
  show own_G p.tables e below _ (T1.setTop (mkF m 26 #[.val (.ref w_INTEGER)] [(.int (1 : Int32))]))
  exact own_retN X1 hx hlk (t := .boolean) hret (by simp) (hb hby d2_26) (by decide) (by decide) (v' := (1 : Int32)) rfl (by rw [e1]; exact ⟨rfl, N0, rfl⟩)
theorem ef_isNumber_NUMBER (m : MethodId) (x0 : Addr) : entryFrame m #[(.ref x0)] 1 = mkF m 0 #[.val (.ref x0)] [] := by first | (simp [entryFrame, mkF, argsToLocals, Value.category]; done) | rfl
def Q_isNumber_NUMBER (Z : State) (w_NUMBER : Addr) (w_INTEGER : Addr) (h0 : Heap) (n0 : Nat) (v : Option Value) (h : Heap) (L : List Loc) : Prop := v = some (.int (1 : Int32)) ∧ Fr n0 L ∧ h = h0
set_option maxRecDepth 65536 in
set_option maxHeartbeats 40000000 in
theorem rm_isNumber_NUMBER (l : Launch) (Z : State) (a0 : Array Value) (hw : ∀ d ∈ tables_1, d.before a0 Z = true) (ws : List Jvm.Cond) (w_NUMBER : Addr) (w_INTEGER : Addr) (h0 : Heap) (n0 : Nat) (Z0 : n0 ≤ h0.size) (O0 : Old Z n0 h0) (S_INTEGER : Sta Z Z.heap "com/example/rillworks/rillworks/row/ValueType" "INTEGER" "Lcom/example/rillworks/rillworks/row/ValueType;" (.ref w_INTEGER)) (S_NUMBER : Sta Z Z.heap "com/example/rillworks/rillworks/row/ValueType" "NUMBER" "Lcom/example/rillworks/rillworks/row/ValueType;" (.ref w_NUMBER)) (ne_NUMBER_INTEGER : w_NUMBER ≠ w_INTEGER) :
    MetFree l (⟨"com/example/rillworks/rillworks/row/ValueType", "isNumber", "()Z"⟩ : MethodName) (head1 (Jvm.Cond.code (⟨"com/example/rillworks/rillworks/row/ValueType", "isNumber", "()Z"⟩ : MethodName) prog_33_method_9_code 1 (some .boolean) :: ws) ({ frames := 0, cells := 0, slots := 0, locals := 0 } : Room)) (fun a U => a = #[(.ref w_NUMBER)] ∧ Z.Warmed39 U.vm ∧ U.heap = h0) (fun _ _ _ _ _ => True) (fun _ U o U' => ∃ v L, o = .returned v ∧ Q_isNumber_NUMBER Z w_NUMBER w_INTEGER h0 n0 v U'.heap L ∧ FrameEnd U o U' L ({ frames := 0, cells := 0, slots := 0, locals := 0 } : Room).cells ({ frames := 0, cells := 0, slots := 0, locals := 0 } : Room).slots) := by
  refine MetFree.of_bodySF (plainFor_of_name pn_2) hisR ?_
  intro p e s m args below meth c s₁ Bd hml0 hP hK
  obtain ⟨rfl, hZ, hh⟩ := hP
  have hx := Bd.exec
  have hby := Bd.bytes
  have hml : c.maxLocals = 1 := hml0
  have hown : s.vm.findClass "com/example/rillworks/rillworks/row/ValueType" = some m.cls := findClass_of_methodNamed Bd.named
  have hnm := (name_of_methodNamed Bd.named Bd.method).1
  have hlk := Bd.notSynchronized
  have hret := Bd.returns
  have X0 : Stand p l e ({ frames := 0, cells := 0, slots := 0, locals := 0 } : Room) s m #[(.ref w_NUMBER)] below meth c s₁ [] 0 0 := Stand.of_body Bd
  have e0 : s₁.heap = h0 := by rw [← hh, Bd.state]; rfl
  have N0 := Fr.nil n0
  refine own_in ({ frames := 0, cells := 0, slots := 0, locals := 0 } : Room).cells ({ frames := 0, cells := 0, slots := 0, locals := 0 } : Room).slots (Q_isNumber_NUMBER Z w_NUMBER w_INTEGER h0 n0) (ef_isNumber_NUMBER m w_NUMBER) ?_
  show own_G p.tables e below _ (s₁.setTop (mkF m 0 #[.val (.ref w_NUMBER)] []))
  refine own_st (fun _ kS => XS.aloadN X0.here hx rfl (hb hby d2_0) rfl rfl kS) ?_
  show own_G p.tables e below _ (s₁.setTop (mkF m 1 #[.val (.ref w_NUMBER)] [(.ref w_NUMBER)]))
  obtain ⟨T1, X1, e1, st1⟩ := getS2 X0 hx hZ hown (host := "") (Or.inl (hw _ (List.mem_of_getElem? (i := 13) rfl))) Via.refl e0 (Sta.ext O0.2 S_INTEGER) (g := (mkF m 1 #[.val (.ref w_NUMBER)] [(.ref w_NUMBER)])) rfl (hb hby d2_1)
  refine own_st st1 ?_
  show own_G p.tables e below _ (T1.setTop (mkF m 4 #[.val (.ref w_NUMBER)] [(.ref w_INTEGER), (.ref w_NUMBER)]))
  refine own_st (fun _ kS => Jvm.RoadKit.acmp (g := (mkF m 4 #[.val (.ref w_NUMBER)] [(.ref w_INTEGER), (.ref w_NUMBER)])) X1 hx rfl rfl rfl (pc0 := 4) (pc' := 7) (same := false) rfl (hb hby d2_4) rfl (decide_eq_false fun q => ne_NUMBER_INTEGER (Value.ref.inj q)) (by decide) (by decide) kS) ?_
  show own_G p.tables e below _ (T1.setTop (mkF m 7 #[.val (.ref w_NUMBER)] []))
  refine own_st (fun _ kS => XS.aloadN X1.here hx rfl (hb hby d2_7) rfl rfl kS) ?_
  show own_G p.tables e below _ (T1.setTop (mkF m 8 #[.val (.ref w_NUMBER)] [(.ref w_NUMBER)]))
  obtain ⟨T2, X2, e2, st2⟩ := getS2 X1 hx hZ hown (host := "") (Or.inl (hw _ (List.mem_of_getElem? (i := 15) rfl))) Via.refl e1 (Sta.ext O0.2 S_NUMBER) (g := (mkF m 8 #[.val (.ref w_NUMBER)] [(.ref w_NUMBER)])) rfl (hb hby d2_8)
  refine own_st st2 ?_
  show own_G p.tables e below _ (T2.setTop (mkF m 11 #[.val (.ref w_NUMBER)] [(.ref w_NUMBER), (.ref w_NUMBER)]))
  refine own_st (fun _ kS => Jvm.RoadKit.acmp (g := (mkF m 11 #[.val (.ref w_NUMBER)] [(.ref w_NUMBER), (.ref w_NUMBER)])) X2 hx rfl rfl rfl (pc0 := 11) (pc' := 21) (same := true) rfl (hb hby d2_11) rfl (decide_eq_true rfl) (by decide) (by decide) kS) ?_
  show own_G p.tables e below _ (T2.setTop (mkF m 21 #[.val (.ref w_NUMBER)] []))
  refine own_st (fun _ kS => XS.iconst X2.here hx rfl (hb hby d2_21) kS) ?_
  show own_G p.tables e below _ (T2.setTop (mkF m 22 #[.val (.ref w_NUMBER)] [(.int (1 : Int32))]))
  refine own_st (fun _ kS => XS.goto X2.here hx rfl (pc0 := 22) (pc' := 26) rfl (hb hby d2_22) (by decide) (by decide) kS) ?_
  show own_G p.tables e below _ (T2.setTop (mkF m 26 #[.val (.ref w_NUMBER)] [(.int (1 : Int32))]))
  exact own_retN X2 hx hlk (t := .boolean) hret (by simp) (hb hby d2_26) (by decide) (by decide) (v' := (1 : Int32)) rfl (by rw [e2]; exact ⟨rfl, N0, rfl⟩)
theorem ef_isNumber_BIG_NUMBER (m : MethodId) (x0 : Addr) : entryFrame m #[(.ref x0)] 1 = mkF m 0 #[.val (.ref x0)] [] := by first | (simp [entryFrame, mkF, argsToLocals, Value.category]; done) | rfl
def Q_isNumber_BIG_NUMBER (Z : State) (w_BIG_NUMBER : Addr) (w_INTEGER : Addr) (w_NUMBER : Addr) (h0 : Heap) (n0 : Nat) (v : Option Value) (h : Heap) (L : List Loc) : Prop := v = some (.int (1 : Int32)) ∧ Fr n0 L ∧ h = h0
set_option maxRecDepth 65536 in
set_option maxHeartbeats 40000000 in
theorem rm_isNumber_BIG_NUMBER (l : Launch) (Z : State) (a0 : Array Value) (hw : ∀ d ∈ tables_1, d.before a0 Z = true) (ws : List Jvm.Cond) (w_BIG_NUMBER : Addr) (w_INTEGER : Addr) (w_NUMBER : Addr) (h0 : Heap) (n0 : Nat) (Z0 : n0 ≤ h0.size) (O0 : Old Z n0 h0) (S_INTEGER : Sta Z Z.heap "com/example/rillworks/rillworks/row/ValueType" "INTEGER" "Lcom/example/rillworks/rillworks/row/ValueType;" (.ref w_INTEGER)) (S_NUMBER : Sta Z Z.heap "com/example/rillworks/rillworks/row/ValueType" "NUMBER" "Lcom/example/rillworks/rillworks/row/ValueType;" (.ref w_NUMBER)) (S_BIG_NUMBER : Sta Z Z.heap "com/example/rillworks/rillworks/row/ValueType" "BIG_NUMBER" "Lcom/example/rillworks/rillworks/row/ValueType;" (.ref w_BIG_NUMBER)) (ne_BIG_NUMBER_INTEGER : w_BIG_NUMBER ≠ w_INTEGER) (ne_BIG_NUMBER_NUMBER : w_BIG_NUMBER ≠ w_NUMBER) :
    MetFree l (⟨"com/example/rillworks/rillworks/row/ValueType", "isNumber", "()Z"⟩ : MethodName) (head1 (Jvm.Cond.code (⟨"com/example/rillworks/rillworks/row/ValueType", "isNumber", "()Z"⟩ : MethodName) prog_33_method_9_code 1 (some .boolean) :: ws) ({ frames := 0, cells := 0, slots := 0, locals := 0 } : Room)) (fun a U => a = #[(.ref w_BIG_NUMBER)] ∧ Z.Warmed39 U.vm ∧ U.heap = h0) (fun _ _ _ _ _ => True) (fun _ U o U' => ∃ v L, o = .returned v ∧ Q_isNumber_BIG_NUMBER Z w_BIG_NUMBER w_INTEGER w_NUMBER h0 n0 v U'.heap L ∧ FrameEnd U o U' L ({ frames := 0, cells := 0, slots := 0, locals := 0 } : Room).cells ({ frames := 0, cells := 0, slots := 0, locals := 0 } : Room).slots) := by
  refine MetFree.of_bodySF (plainFor_of_name pn_2) hisR ?_
  intro p e s m args below meth c s₁ Bd hml0 hP hK
  obtain ⟨rfl, hZ, hh⟩ := hP
  have hx := Bd.exec
  have hby := Bd.bytes
  have hml : c.maxLocals = 1 := hml0
  have hown : s.vm.findClass "com/example/rillworks/rillworks/row/ValueType" = some m.cls := findClass_of_methodNamed Bd.named
  have hnm := (name_of_methodNamed Bd.named Bd.method).1
  have hlk := Bd.notSynchronized
  have hret := Bd.returns
  have X0 : Stand p l e ({ frames := 0, cells := 0, slots := 0, locals := 0 } : Room) s m #[(.ref w_BIG_NUMBER)] below meth c s₁ [] 0 0 := Stand.of_body Bd
  have e0 : s₁.heap = h0 := by rw [← hh, Bd.state]; rfl
  have N0 := Fr.nil n0
  refine own_in ({ frames := 0, cells := 0, slots := 0, locals := 0 } : Room).cells ({ frames := 0, cells := 0, slots := 0, locals := 0 } : Room).slots (Q_isNumber_BIG_NUMBER Z w_BIG_NUMBER w_INTEGER w_NUMBER h0 n0) (ef_isNumber_BIG_NUMBER m w_BIG_NUMBER) ?_
  show own_G p.tables e below _ (s₁.setTop (mkF m 0 #[.val (.ref w_BIG_NUMBER)] []))
  refine own_st (fun _ kS => XS.aloadN X0.here hx rfl (hb hby d2_0) rfl rfl kS) ?_
  show own_G p.tables e below _ (s₁.setTop (mkF m 1 #[.val (.ref w_BIG_NUMBER)] [(.ref w_BIG_NUMBER)]))
  obtain ⟨T1, X1, e1, st1⟩ := getS2 X0 hx hZ hown (host := "") (Or.inl (hw _ (List.mem_of_getElem? (i := 13) rfl))) Via.refl e0 (Sta.ext O0.2 S_INTEGER) (g := (mkF m 1 #[.val (.ref w_BIG_NUMBER)] [(.ref w_BIG_NUMBER)])) rfl (hb hby d2_1)
  refine own_st st1 ?_
  show own_G p.tables e below _ (T1.setTop (mkF m 4 #[.val (.ref w_BIG_NUMBER)] [(.ref w_INTEGER), (.ref w_BIG_NUMBER)]))
  refine own_st (fun _ kS => Jvm.RoadKit.acmp (g := (mkF m 4 #[.val (.ref w_BIG_NUMBER)] [(.ref w_INTEGER), (.ref w_BIG_NUMBER)])) X1 hx rfl rfl rfl (pc0 := 4) (pc' := 7) (same := false) rfl (hb hby d2_4) rfl (decide_eq_false fun q => ne_BIG_NUMBER_INTEGER (Value.ref.inj q)) (by decide) (by decide) kS) ?_
  show own_G p.tables e below _ (T1.setTop (mkF m 7 #[.val (.ref w_BIG_NUMBER)] []))
  refine own_st (fun _ kS => XS.aloadN X1.here hx rfl (hb hby d2_7) rfl rfl kS) ?_
  show own_G p.tables e below _ (T1.setTop (mkF m 8 #[.val (.ref w_BIG_NUMBER)] [(.ref w_BIG_NUMBER)]))
  obtain ⟨T2, X2, e2, st2⟩ := getS2 X1 hx hZ hown (host := "") (Or.inl (hw _ (List.mem_of_getElem? (i := 15) rfl))) Via.refl e1 (Sta.ext O0.2 S_NUMBER) (g := (mkF m 8 #[.val (.ref w_BIG_NUMBER)] [(.ref w_BIG_NUMBER)])) rfl (hb hby d2_8)
  refine own_st st2 ?_
  show own_G p.tables e below _ (T2.setTop (mkF m 11 #[.val (.ref w_BIG_NUMBER)] [(.ref w_NUMBER), (.ref w_BIG_NUMBER)]))
  refine own_st (fun _ kS => Jvm.RoadKit.acmp (g := (mkF m 11 #[.val (.ref w_BIG_NUMBER)] [(.ref w_NUMBER), (.ref w_BIG_NUMBER)])) X2 hx rfl rfl rfl (pc0 := 11) (pc' := 14) (same := false) rfl (hb hby d2_11) rfl (decide_eq_false fun q => ne_BIG_NUMBER_NUMBER (Value.ref.inj q)) (by decide) (by decide) kS) ?_
  show own_G p.tables e below _ (T2.setTop (mkF m 14 #[.val (.ref w_BIG_NUMBER)] []))
  refine own_st (fun _ kS => XS.aloadN X2.here hx rfl (hb hby d2_14) rfl rfl kS) ?_
  show own_G p.tables e below _ (T2.setTop (mkF m 15 #[.val (.ref w_BIG_NUMBER)] [(.ref w_BIG_NUMBER)]))
  obtain ⟨T3, X3, e3, st3⟩ := getS2 X2 hx hZ hown (host := "") (Or.inl (hw _ (List.mem_of_getElem? (i := 17) rfl))) Via.refl e2 (Sta.ext O0.2 S_BIG_NUMBER) (g := (mkF m 15 #[.val (.ref w_BIG_NUMBER)] [(.ref w_BIG_NUMBER)])) rfl (hb hby d2_15)
  refine own_st st3 ?_
  show own_G p.tables e below _ (T3.setTop (mkF m 18 #[.val (.ref w_BIG_NUMBER)] [(.ref w_BIG_NUMBER), (.ref w_BIG_NUMBER)]))
  refine own_st (fun _ kS => Jvm.RoadKit.acmp (g := (mkF m 18 #[.val (.ref w_BIG_NUMBER)] [(.ref w_BIG_NUMBER), (.ref w_BIG_NUMBER)])) X3 hx rfl rfl rfl (pc0 := 18) (pc' := 21) (same := true) rfl (hb hby d2_18) rfl (decide_eq_true rfl) (by decide) (by decide) kS) ?_
  show own_G p.tables e below _ (T3.setTop (mkF m 21 #[.val (.ref w_BIG_NUMBER)] []))
  refine own_st (fun _ kS => XS.iconst X3.here hx rfl (hb hby d2_21) kS) ?_
  show own_G p.tables e below _ (T3.setTop (mkF m 22 #[.val (.ref w_BIG_NUMBER)] [(.int (1 : Int32))]))
  refine own_st (fun _ kS => XS.goto X3.here hx rfl (pc0 := 22) (pc' := 26) rfl (hb hby d2_22) (by decide) (by decide) kS) ?_
  show own_G p.tables e below _ (T3.setTop (mkF m 26 #[.val (.ref w_BIG_NUMBER)] [(.int (1 : Int32))]))
  exact own_retN X3 hx hlk (t := .boolean) hret (by simp) (hb hby d2_26) (by decide) (by decide) (v' := (1 : Int32)) rfl (by rw [e3]; exact ⟨rfl, N0, rfl⟩)
theorem ef_isNumber_DATE (m : MethodId) (x0 : Addr) : entryFrame m #[(.ref x0)] 1 = mkF m 0 #[.val (.ref x0)] [] := by first | (simp [entryFrame, mkF, argsToLocals, Value.category]; done) | rfl
def Q_isNumber_DATE (Z : State) (w_DATE : Addr) (w_INTEGER : Addr) (w_NUMBER : Addr) (w_BIG_NUMBER : Addr) (h0 : Heap) (n0 : Nat) (v : Option Value) (h : Heap) (L : List Loc) : Prop := v = some (.int (0 : Int32)) ∧ Fr n0 L ∧ h = h0
set_option maxRecDepth 65536 in
set_option maxHeartbeats 40000000 in
theorem rm_isNumber_DATE (l : Launch) (Z : State) (a0 : Array Value) (hw : ∀ d ∈ tables_1, d.before a0 Z = true) (ws : List Jvm.Cond) (w_DATE : Addr) (w_INTEGER : Addr) (w_NUMBER : Addr) (w_BIG_NUMBER : Addr) (h0 : Heap) (n0 : Nat) (Z0 : n0 ≤ h0.size) (O0 : Old Z n0 h0) (S_INTEGER : Sta Z Z.heap "com/example/rillworks/rillworks/row/ValueType" "INTEGER" "Lcom/example/rillworks/rillworks/row/ValueType;" (.ref w_INTEGER)) (S_NUMBER : Sta Z Z.heap "com/example/rillworks/rillworks/row/ValueType" "NUMBER" "Lcom/example/rillworks/rillworks/row/ValueType;" (.ref w_NUMBER)) (S_BIG_NUMBER : Sta Z Z.heap "com/example/rillworks/rillworks/row/ValueType" "BIG_NUMBER" "Lcom/example/rillworks/rillworks/row/ValueType;" (.ref w_BIG_NUMBER)) (ne_DATE_INTEGER : w_DATE ≠ w_INTEGER) (ne_DATE_NUMBER : w_DATE ≠ w_NUMBER) (ne_DATE_BIG_NUMBER : w_DATE ≠ w_BIG_NUMBER) :
    MetFree l (⟨"com/example/rillworks/rillworks/row/ValueType", "isNumber", "()Z"⟩ : MethodName) (head1 (Jvm.Cond.code (⟨"com/example/rillworks/rillworks/row/ValueType", "isNumber", "()Z"⟩ : MethodName) prog_33_method_9_code 1 (some .boolean) :: ws) ({ frames := 0, cells := 0, slots := 0, locals := 0 } : Room)) (fun a U => a = #[(.ref w_DATE)] ∧ Z.Warmed39 U.vm ∧ U.heap = h0) (fun _ _ _ _ _ => True) (fun _ U o U' => ∃ v L, o = .returned v ∧ Q_isNumber_DATE Z w_DATE w_INTEGER w_NUMBER w_BIG_NUMBER h0 n0 v U'.heap L ∧ FrameEnd U o U' L ({ frames := 0, cells := 0, slots := 0, locals := 0 } : Room).cells ({ frames := 0, cells := 0, slots := 0, locals := 0 } : Room).slots) := by
  refine MetFree.of_bodySF (plainFor_of_name pn_2) hisR ?_
  intro p e s m args below meth c s₁ Bd hml0 hP hK
  obtain ⟨rfl, hZ, hh⟩ := hP
  have hx := Bd.exec
  have hby := Bd.bytes
  have hml : c.maxLocals = 1 := hml0
  have hown : s.vm.findClass "com/example/rillworks/rillworks/row/ValueType" = some m.cls := findClass_of_methodNamed Bd.named
  have hnm := (name_of_methodNamed Bd.named Bd.method).1
  have hlk := Bd.notSynchronized
  have hret := Bd.returns
  have X0 : Stand p l e ({ frames := 0, cells := 0, slots := 0, locals := 0 } : Room) s m #[(.ref w_DATE)] below meth c s₁ [] 0 0 := Stand.of_body Bd
  have e0 : s₁.heap = h0 := by rw [← hh, Bd.state]; rfl
  have N0 := Fr.nil n0
  refine own_in ({ frames := 0, cells := 0, slots := 0, locals := 0 } : Room).cells ({ frames := 0, cells := 0, slots := 0, locals := 0 } : Room).slots (Q_isNumber_DATE Z w_DATE w_INTEGER w_NUMBER w_BIG_NUMBER h0 n0) (ef_isNumber_DATE m w_DATE) ?_
  show own_G p.tables e below _ (s₁.setTop (mkF m 0 #[.val (.ref w_DATE)] []))
  refine own_st (fun _ kS => XS.aloadN X0.here hx rfl (hb hby d2_0) rfl rfl kS) ?_
  show own_G p.tables e below _ (s₁.setTop (mkF m 1 #[.val (.ref w_DATE)] [(.ref w_DATE)]))
  obtain ⟨T1, X1, e1, st1⟩ := getS2 X0 hx hZ hown (host := "") (Or.inl (hw _ (List.mem_of_getElem? (i := 13) rfl))) Via.refl e0 (Sta.ext O0.2 S_INTEGER) (g := (mkF m 1 #[.val (.ref w_DATE)] [(.ref w_DATE)])) rfl (hb hby d2_1)
  refine own_st st1 ?_
  show own_G p.tables e below _ (T1.setTop (mkF m 4 #[.val (.ref w_DATE)] [(.ref w_INTEGER), (.ref w_DATE)]))
  refine own_st (fun _ kS => Jvm.RoadKit.acmp (g := (mkF m 4 #[.val (.ref w_DATE)] [(.ref w_INTEGER), (.ref w_DATE)])) X1 hx rfl rfl rfl (pc0 := 4) (pc' := 7) (same := false) rfl (hb hby d2_4) rfl (decide_eq_false fun q => ne_DATE_INTEGER (Value.ref.inj q)) (by decide) (by decide) kS) ?_
  show own_G p.tables e below _ (T1.setTop (mkF m 7 #[.val (.ref w_DATE)] []))
  refine own_st (fun _ kS => XS.aloadN X1.here hx rfl (hb hby d2_7) rfl rfl kS) ?_
  show own_G p.tables e below _ (T1.setTop (mkF m 8 #[.val (.ref w_DATE)] [(.ref w_DATE)]))
  obtain ⟨T2, X2, e2, st2⟩ := getS2 X1 hx hZ hown (host := "") (Or.inl (hw _ (List.mem_of_getElem? (i := 15) rfl))) Via.refl e1 (Sta.ext O0.2 S_NUMBER) (g := (mkF m 8 #[.val (.ref w_DATE)] [(.ref w_DATE)])) rfl (hb hby d2_8)
  refine own_st st2 ?_
  show own_G p.tables e below _ (T2.setTop (mkF m 11 #[.val (.ref w_DATE)] [(.ref w_NUMBER), (.ref w_DATE)]))
  refine own_st (fun _ kS => Jvm.RoadKit.acmp (g := (mkF m 11 #[.val (.ref w_DATE)] [(.ref w_NUMBER), (.ref w_DATE)])) X2 hx rfl rfl rfl (pc0 := 11) (pc' := 14) (same := false) rfl (hb hby d2_11) rfl (decide_eq_false fun q => ne_DATE_NUMBER (Value.ref.inj q)) (by decide) (by decide) kS) ?_
  show own_G p.tables e below _ (T2.setTop (mkF m 14 #[.val (.ref w_DATE)] []))
  refine own_st (fun _ kS => XS.aloadN X2.here hx rfl (hb hby d2_14) rfl rfl kS) ?_
  show own_G p.tables e below _ (T2.setTop (mkF m 15 #[.val (.ref w_DATE)] [(.ref w_DATE)]))
  obtain ⟨T3, X3, e3, st3⟩ := getS2 X2 hx hZ hown (host := "") (Or.inl (hw _ (List.mem_of_getElem? (i := 17) rfl))) Via.refl e2 (Sta.ext O0.2 S_BIG_NUMBER) (g := (mkF m 15 #[.val (.ref w_DATE)] [(.ref w_DATE)])) rfl (hb hby d2_15)
  refine own_st st3 ?_
  show own_G p.tables e below _ (T3.setTop (mkF m 18 #[.val (.ref w_DATE)] [(.ref w_BIG_NUMBER), (.ref w_DATE)]))
  refine own_st (fun _ kS => Jvm.RoadKit.acmp (g := (mkF m 18 #[.val (.ref w_DATE)] [(.ref w_BIG_NUMBER), (.ref w_DATE)])) X3 hx rfl rfl rfl (pc0 := 18) (pc' := 25) (same := false) rfl (hb hby d2_18) rfl (decide_eq_false fun q => ne_DATE_BIG_NUMBER (Value.ref.inj q)) (by decide) (by decide) kS) ?_
  show own_G p.tables e below _ (T3.setTop (mkF m 25 #[.val (.ref w_DATE)] []))
  refine own_st (fun _ kS => XS.iconst X3.here hx rfl (hb hby d2_25) kS) ?_
  show own_G p.tables e below _ (T3.setTop (mkF m 26 #[.val (.ref w_DATE)] [(.int (0 : Int32))]))
  exact own_retN X3 hx hlk (t := .boolean) hret (by simp) (hb hby d2_26) (by decide) (by decide) (v' := (0 : Int32)) rfl (by rw [e3]; exact ⟨rfl, N0, rfl⟩)
theorem ef_isNumber_TIMESTAMP (m : MethodId) (x0 : Addr) : entryFrame m #[(.ref x0)] 1 = mkF m 0 #[.val (.ref x0)] [] := by first | (simp [entryFrame, mkF, argsToLocals, Value.category]; done) | rfl
def Q_isNumber_TIMESTAMP (Z : State) (w_TIMESTAMP : Addr) (w_INTEGER : Addr) (w_NUMBER : Addr) (w_BIG_NUMBER : Addr) (h0 : Heap) (n0 : Nat) (v : Option Value) (h : Heap) (L : List Loc) : Prop := v = some (.int (0 : Int32)) ∧ Fr n0 L ∧ h = h0
set_option maxRecDepth 65536 in
set_option maxHeartbeats 40000000 in
theorem rm_isNumber_TIMESTAMP (l : Launch) (Z : State) (a0 : Array Value) (hw : ∀ d ∈ tables_1, d.before a0 Z = true) (ws : List Jvm.Cond) (w_TIMESTAMP : Addr) (w_INTEGER : Addr) (w_NUMBER : Addr) (w_BIG_NUMBER : Addr) (h0 : Heap) (n0 : Nat) (Z0 : n0 ≤ h0.size) (O0 : Old Z n0 h0) (S_INTEGER : Sta Z Z.heap "com/example/rillworks/rillworks/row/ValueType" "INTEGER" "Lcom/example/rillworks/rillworks/row/ValueType;" (.ref w_INTEGER)) (S_NUMBER : Sta Z Z.heap "com/example/rillworks/rillworks/row/ValueType" "NUMBER" "Lcom/example/rillworks/rillworks/row/ValueType;" (.ref w_NUMBER)) (S_BIG_NUMBER : Sta Z Z.heap "com/example/rillworks/rillworks/row/ValueType" "BIG_NUMBER" "Lcom/example/rillworks/rillworks/row/ValueType;" (.ref w_BIG_NUMBER)) (ne_TIMESTAMP_INTEGER : w_TIMESTAMP ≠ w_INTEGER) (ne_TIMESTAMP_NUMBER : w_TIMESTAMP ≠ w_NUMBER) (ne_TIMESTAMP_BIG_NUMBER : w_TIMESTAMP ≠ w_BIG_NUMBER) :
    MetFree l (⟨"com/example/rillworks/rillworks/row/ValueType", "isNumber", "()Z"⟩ : MethodName) (head1 (Jvm.Cond.code (⟨"com/example/rillworks/rillworks/row/ValueType", "isNumber", "()Z"⟩ : MethodName) prog_33_method_9_code 1 (some .boolean) :: ws) ({ frames := 0, cells := 0, slots := 0, locals := 0 } : Room)) (fun a U => a = #[(.ref w_TIMESTAMP)] ∧ Z.Warmed39 U.vm ∧ U.heap = h0) (fun _ _ _ _ _ => True) (fun _ U o U' => ∃ v L, o = .returned v ∧ Q_isNumber_TIMESTAMP Z w_TIMESTAMP w_INTEGER w_NUMBER w_BIG_NUMBER h0 n0 v U'.heap L ∧ FrameEnd U o U' L ({ frames := 0, cells := 0, slots := 0, locals := 0 } : Room).cells ({ frames := 0, cells := 0, slots := 0, locals := 0 } : Room).slots) := by
  refine MetFree.of_bodySF (plainFor_of_name pn_2) hisR ?_
  intro p e s m args below meth c s₁ Bd hml0 hP hK
  obtain ⟨rfl, hZ, hh⟩ := hP
  have hx := Bd.exec
  have hby := Bd.bytes
  have hml : c.maxLocals = 1 := hml0
  have hown : s.vm.findClass "com/example/rillworks/rillworks/row/ValueType" = some m.cls := findClass_of_methodNamed Bd.named
  have hnm := (name_of_methodNamed Bd.named Bd.method).1
  have hlk := Bd.notSynchronized
  have hret := Bd.returns
  have X0 : Stand p l e ({ frames := 0, cells := 0, slots := 0, locals := 0 } : Room) s m #[(.ref w_TIMESTAMP)] below meth c s₁ [] 0 0 := Stand.of_body Bd
  have e0 : s₁.heap = h0 := by rw [← hh, Bd.state]; rfl
  have N0 := Fr.nil n0
  refine own_in ({ frames := 0, cells := 0, slots := 0, locals := 0 } : Room).cells ({ frames := 0, cells := 0, slots := 0, locals := 0 } : Room).slots (Q_isNumber_TIMESTAMP Z w_TIMESTAMP w_INTEGER w_NUMBER w_BIG_NUMBER h0 n0) (ef_isNumber_TIMESTAMP m w_TIMESTAMP) ?_
  show own_G p.tables e below _ (s₁.setTop (mkF m 0 #[.val (.ref w_TIMESTAMP)] []))
  refine own_st (fun _ kS => XS.aloadN X0.here hx rfl (hb hby d2_0) rfl rfl kS) ?_
  show own_G p.tables e below _ (s₁.setTop (mkF m 1 #[.val (.ref w_TIMESTAMP)] [(.ref w_TIMESTAMP)]))
  obtain ⟨T1, X1, e1, st1⟩ := getS2 X0 hx hZ hown (host := "") (Or.inl (hw _ (List.mem_of_getElem? (i := 13) rfl))) Via.refl e0 (Sta.ext O0.2 S_INTEGER) (g := (mkF m 1 #[.val (.ref w_TIMESTAMP)] [(.ref w_TIMESTAMP)])) rfl (hb hby d2_1)
  refine own_st st1 ?_
  show own_G p.tables e below _ (T1.setTop (mkF m 4 #[.val (.ref w_TIMESTAMP)] [(.ref w_INTEGER), (.ref w_TIMESTAMP)]))
  refine own_st (fun _ kS => Jvm.RoadKit.acmp (g := (mkF m 4 #[.val (.ref w_TIMESTAMP)] [(.ref w_INTEGER), (.ref w_TIMESTAMP)])) X1 hx rfl rfl rfl (pc0 := 4) (pc' := 7) (same := false) rfl (hb hby d2_4) rfl (decide_eq_false fun q => ne_TIMESTAMP_INTEGER (Value.ref.inj q)) (by decide) (by decide) kS) ?_
  show own_G p.tables e below _ (T1.setTop (mkF m 7 #[.val (.ref w_TIMESTAMP)] []))
  refine own_st (fun _ kS => XS.aloadN X1.here hx rfl (hb hby d2_7) rfl rfl kS) ?_
  show own_G p.tables e below _ (T1.setTop (mkF m 8 #[.val (.ref w_TIMESTAMP)] [(.ref w_TIMESTAMP)]))
  obtain ⟨T2, X2, e2, st2⟩ := getS2 X1 hx hZ hown (host := "") (Or.inl (hw _ (List.mem_of_getElem? (i := 15) rfl))) Via.refl e1 (Sta.ext O0.2 S_NUMBER) (g := (mkF m 8 #[.val (.ref w_TIMESTAMP)] [(.ref w_TIMESTAMP)])) rfl (hb hby d2_8)
  refine own_st st2 ?_
  show own_G p.tables e below _ (T2.setTop (mkF m 11 #[.val (.ref w_TIMESTAMP)] [(.ref w_NUMBER), (.ref w_TIMESTAMP)]))
  refine own_st (fun _ kS => Jvm.RoadKit.acmp (g := (mkF m 11 #[.val (.ref w_TIMESTAMP)] [(.ref w_NUMBER), (.ref w_TIMESTAMP)])) X2 hx rfl rfl rfl (pc0 := 11) (pc' := 14) (same := false) rfl (hb hby d2_11) rfl (decide_eq_false fun q => ne_TIMESTAMP_NUMBER (Value.ref.inj q)) (by decide) (by decide) kS) ?_
  show own_G p.tables e below _ (T2.setTop (mkF m 14 #[.val (.ref w_TIMESTAMP)] []))
  refine own_st (fun _ kS => XS.aloadN X2.here hx rfl (hb hby d2_14) rfl rfl kS) ?_
  show own_G p.tables e below _ (T2.setTop (mkF m 15 #[.val (.ref w_TIMESTAMP)] [(.ref w_TIMESTAMP)]))
  obtain ⟨T3, X3, e3, st3⟩ := getS2 X2 hx hZ hown (host := "") (Or.inl (hw _ (List.mem_of_getElem? (i := 17) rfl))) Via.refl e2 (Sta.ext O0.2 S_BIG_NUMBER) (g := (mkF m 15 #[.val (.ref w_TIMESTAMP)] [(.ref w_TIMESTAMP)])) rfl (hb hby d2_15)
  refine own_st st3 ?_
  show own_G p.tables e below _ (T3.setTop (mkF m 18 #[.val (.ref w_TIMESTAMP)] [(.ref w_BIG_NUMBER), (.ref w_TIMESTAMP)]))
  refine own_st (fun _ kS => Jvm.RoadKit.acmp (g := (mkF m 18 #[.val (.ref w_TIMESTAMP)] [(.ref w_BIG_NUMBER), (.ref w_TIMESTAMP)])) X3 hx rfl rfl rfl (pc0 := 18) (pc' := 25) (same := false) rfl (hb hby d2_18) rfl (decide_eq_false fun q => ne_TIMESTAMP_BIG_NUMBER (Value.ref.inj q)) (by decide) (by decide) kS) ?_
  show own_G p.tables e below _ (T3.setTop (mkF m 25 #[.val (.ref w_TIMESTAMP)] []))
  refine own_st (fun _ kS => XS.iconst X3.here hx rfl (hb hby d2_25) kS) ?_
  show own_G p.tables e below _ (T3.setTop (mkF m 26 #[.val (.ref w_TIMESTAMP)] [(.int (0 : Int32))]))
  exact own_retN X3 hx hlk (t := .boolean) hret (by simp) (hb hby d2_26) (by decide) (by decide) (v' := (0 : Int32)) rfl (by rw [e3]; exact ⟨rfl, N0, rfl⟩)
theorem ef_isNumber_BOOLEAN (m : MethodId) (x0 : Addr) : entryFrame m #[(.ref x0)] 1 = mkF m 0 #[.val (.ref x0)] [] := by first | (simp [entryFrame, mkF, argsToLocals, Value.category]; done) | rfl
def Q_isNumber_BOOLEAN (Z : State) (w_BOOLEAN : Addr) (w_INTEGER : Addr) (w_NUMBER : Addr) (w_BIG_NUMBER : Addr) (h0 : Heap) (n0 : Nat) (v : Option Value) (h : Heap) (L : List Loc) : Prop := v = some (.int (0 : Int32)) ∧ Fr n0 L ∧ h = h0
set_option maxRecDepth 65536 in
set_option maxHeartbeats 40000000 in
theorem rm_isNumber_BOOLEAN (l : Launch) (Z : State) (a0 : Array Value) (hw : ∀ d ∈ tables_1, d.before a0 Z = true) (ws : List Jvm.Cond) (w_BOOLEAN : Addr) (w_INTEGER : Addr) (w_NUMBER : Addr) (w_BIG_NUMBER : Addr) (h0 : Heap) (n0 : Nat) (Z0 : n0 ≤ h0.size) (O0 : Old Z n0 h0) (S_INTEGER : Sta Z Z.heap "com/example/rillworks/rillworks/row/ValueType" "INTEGER" "Lcom/example/rillworks/rillworks/row/ValueType;" (.ref w_INTEGER)) (S_NUMBER : Sta Z Z.heap "com/example/rillworks/rillworks/row/ValueType" "NUMBER" "Lcom/example/rillworks/rillworks/row/ValueType;" (.ref w_NUMBER)) (S_BIG_NUMBER : Sta Z Z.heap "com/example/rillworks/rillworks/row/ValueType" "BIG_NUMBER" "Lcom/example/rillworks/rillworks/row/ValueType;" (.ref w_BIG_NUMBER)) (ne_BOOLEAN_INTEGER : w_BOOLEAN ≠ w_INTEGER) (ne_BOOLEAN_NUMBER : w_BOOLEAN ≠ w_NUMBER) (ne_BOOLEAN_BIG_NUMBER : w_BOOLEAN ≠ w_BIG_NUMBER) :
    MetFree l (⟨"com/example/rillworks/rillworks/row/ValueType", "isNumber", "()Z"⟩ : MethodName) (head1 (Jvm.Cond.code (⟨"com/example/rillworks/rillworks/row/ValueType", "isNumber", "()Z"⟩ : MethodName) prog_33_method_9_code 1 (some .boolean) :: ws) ({ frames := 0, cells := 0, slots := 0, locals := 0 } : Room)) (fun a U => a = #[(.ref w_BOOLEAN)] ∧ Z.Warmed39 U.vm ∧ U.heap = h0) (fun _ _ _ _ _ => True) (fun _ U o U' => ∃ v L, o = .returned v ∧ Q_isNumber_BOOLEAN Z w_BOOLEAN w_INTEGER w_NUMBER w_BIG_NUMBER h0 n0 v U'.heap L ∧ FrameEnd U o U' L ({ frames := 0, cells := 0, slots := 0, locals := 0 } : Room).cells ({ frames := 0, cells := 0, slots := 0, locals := 0 } : Room).slots) := by
  refine MetFree.of_bodySF (plainFor_of_name pn_2) hisR ?_
  intro p e s m args below meth c s₁ Bd hml0 hP hK
  obtain ⟨rfl, hZ, hh⟩ := hP
  have hx := Bd.exec
  have hby := Bd.bytes
  have hml : c.maxLocals = 1 := hml0
  have hown : s.vm.findClass "com/example/rillworks/rillworks/row/ValueType" = some m.cls := findClass_of_methodNamed Bd.named
  have hnm := (name_of_methodNamed Bd.named Bd.method).1
  have hlk := Bd.notSynchronized
  have hret := Bd.returns
  have X0 : Stand p l e ({ frames := 0, cells := 0, slots := 0, locals := 0 } : Room) s m #[(.ref w_BOOLEAN)] below meth c s₁ [] 0 0 := Stand.of_body Bd
  have e0 : s₁.heap = h0 := by rw [← hh, Bd.state]; rfl
  have N0 := Fr.nil n0
  refine own_in ({ frames := 0, cells := 0, slots := 0, locals := 0 } : Room).cells ({ frames := 0, cells := 0, slots := 0, locals := 0 } : Room).slots (Q_isNumber_BOOLEAN Z w_BOOLEAN w_INTEGER w_NUMBER w_BIG_NUMBER h0 n0) (ef_isNumber_BOOLEAN m w_BOOLEAN) ?_
  show own_G p.tables e below _ (s₁.setTop (mkF m 0 #[.val (.ref w_BOOLEAN)] []))
  refine own_st (fun _ kS => XS.aloadN X0.here hx rfl (hb hby d2_0) rfl rfl kS) ?_
  show own_G p.tables e below _ (s₁.setTop (mkF m 1 #[.val (.ref w_BOOLEAN)] [(.ref w_BOOLEAN)]))
  obtain ⟨T1, X1, e1, st1⟩ := getS2 X0 hx hZ hown (host := "") (Or.inl (hw _ (List.mem_of_getElem? (i := 13) rfl))) Via.refl e0 (Sta.ext O0.2 S_INTEGER) (g := (mkF m 1 #[.val (.ref w_BOOLEAN)] [(.ref w_BOOLEAN)])) rfl (hb hby d2_1)
  refine own_st st1 ?_
  show own_G p.tables e below _ (T1.setTop (mkF m 4 #[.val (.ref w_BOOLEAN)] [(.ref w_INTEGER), (.ref w_BOOLEAN)]))
  refine own_st (fun _ kS => Jvm.RoadKit.acmp (g := (mkF m 4 #[.val (.ref w_BOOLEAN)] [(.ref w_INTEGER), (.ref w_BOOLEAN)])) X1 hx rfl rfl rfl (pc0 := 4) (pc' := 7) (same := false) rfl (hb hby d2_4) rfl (decide_eq_false fun q => ne_BOOLEAN_INTEGER (Value.ref.inj q)) (by decide) (by decide) kS) ?_
  show own_G p.tables e below _ (T1.setTop (mkF m 7 #[.val (.ref w_BOOLEAN)] []))
  refine own_st (fun _ kS => XS.aloadN X1.here hx rfl (hb hby d2_7) rfl rfl kS) ?_
  show own_G p.tables e below _ (T1.setTop (mkF m 8 #[.val (.ref w_BOOLEAN)] [(.ref w_BOOLEAN)]))
  obtain ⟨T2, X2, e2, st2⟩ := getS2 X1 hx hZ hown (host := "") (Or.inl (hw _ (List.mem_of_getElem? (i := 15) rfl))) Via.refl e1 (Sta.ext O0.2 S_NUMBER) (g := (mkF m 8 #[.val (.ref w_BOOLEAN)] [(.ref w_BOOLEAN)])) rfl (hb hby d2_8)
  refine own_st st2 ?_
  show own_G p.tables e below _ (T2.setTop (mkF m 11 #[.val (.ref w_BOOLEAN)] [(.ref w_NUMBER), (.ref w_BOOLEAN)]))
  refine own_st (fun _ kS => Jvm.RoadKit.acmp (g := (mkF m 11 #[.val (.ref w_BOOLEAN)] [(.ref w_NUMBER), (.ref w_BOOLEAN)])) X2 hx rfl rfl rfl (pc0 := 11) (pc' := 14) (same := false) rfl (hb hby d2_11) rfl (decide_eq_false fun q => ne_BOOLEAN_NUMBER (Value.ref.inj q)) (by decide) (by decide) kS) ?_
  show own_G p.tables e below _ (T2.setTop (mkF m 14 #[.val (.ref w_BOOLEAN)] []))
  refine own_st (fun _ kS => XS.aloadN X2.here hx rfl (hb hby d2_14) rfl rfl kS) ?_
  show own_G p.tables e below _ (T2.setTop (mkF m 15 #[.val (.ref w_BOOLEAN)] [(.ref w_BOOLEAN)]))
  obtain ⟨T3, X3, e3, st3⟩ := getS2 X2 hx hZ hown (host := "") (Or.inl (hw _ (List.mem_of_getElem? (i := 17) rfl))) Via.refl e2 (Sta.ext O0.2 S_BIG_NUMBER) (g := (mkF m 15 #[.val (.ref w_BOOLEAN)] [(.ref w_BOOLEAN)])) rfl (hb hby d2_15)
  refine own_st st3 ?_
  show own_G p.tables e below _ (T3.setTop (mkF m 18 #[.val (.ref w_BOOLEAN)] [(.ref w_BIG_NUMBER), (.ref w_BOOLEAN)]))
  refine own_st (fun _ kS => Jvm.RoadKit.acmp (g := (mkF m 18 #[.val (.ref w_BOOLEAN)] [(.ref w_BIG_NUMBER), (.ref w_BOOLEAN)])) X3 hx rfl rfl rfl (pc0 := 18) (pc' := 25) (same := false) rfl (hb hby d2_18) rfl (decide_eq_false fun q => ne_BOOLEAN_BIG_NUMBER (Value.ref.inj q)) (by decide) (by decide) kS) ?_
  show own_G p.tables e below _ (T3.setTop (mkF m 25 #[.val (.ref w_BOOLEAN)] []))
  refine own_st (fun _ kS => XS.iconst X3.here hx rfl (hb hby d2_25) kS) ?_
  show own_G p.tables e below _ (T3.setTop (mkF m 26 #[.val (.ref w_BOOLEAN)] [(.int (0 : Int32))]))
  exact own_retN X3 hx hlk (t := .boolean) hret (by simp) (hb hby d2_26) (by decide) (by decide) (v' := (0 : Int32)) rfl (by rw [e3]; exact ⟨rfl, N0, rfl⟩)
theorem d3_0 : decode prog_33_method_10_code 0 = .ok (.aload_n 0, 1) := by decide +kernel
theorem d3_1 : decode prog_33_method_10_code 1 = .ok (.getstatic 16, 3) := by decide +kernel
theorem d3_4 : decode prog_33_method_10_code 4 = .ok (.if_acmp .eq 10, 3) := by decide +kernel
theorem d3_7 : decode prog_33_method_10_code 7 = .ok (.aload_n 0, 1) := by decide +kernel
theorem d3_8 : decode prog_33_method_10_code 8 = .ok (.getstatic 19, 3) := by decide +kernel
theorem d3_11 : decode prog_33_method_10_code 11 = .ok (.if_acmp .ne 7, 3) := by decide +kernel
theorem d3_14 : decode prog_33_method_10_code 14 = .ok (.iconst 1, 1) := by decide +kernel
theorem d3_15 : decode prog_33_method_10_code 15 = .ok (.goto 4, 3) := by decide +kernel
theorem d3_18 : decode prog_33_method_10_code 18 = .ok (.iconst 0, 1) := by decide +kernel
theorem d3_19 : decode prog_33_method_10_code 19 = .ok (.ireturn, 1) := by decide +kernel
theorem pn_3 : plainName "com/example/rillworks/rillworks/row/ValueType" = true := by first | (simp [plainName, overriddenIn]; done) | decide +kernel
theorem ef_isTime_INTEGER (m : MethodId) (x0 : Addr) : entryFrame m #[(.ref x0)] 1 = mkF m 0 #[.val (.ref x0)] [] := by first | (simp [entryFrame, mkF, argsToLocals, Value.category]; done) | rfl
def Q_isTime_INTEGER (Z : State) (w_INTEGER : Addr) (w_DATE : Addr) (w_TIMESTAMP : Addr) (h0 : Heap) (n0 : Nat) (v : Option Value) (h : Heap) (L : List Loc) : Prop := v = some (.int (0 : Int32)) ∧ Fr n0 L ∧ h = h0
set_option maxRecDepth 65536 in
set_option maxHeartbeats 40000000 in
theorem rm_isTime_INTEGER (l : Launch) (Z : State) (a0 : Array Value) (hw : ∀ d ∈ tables_1, d.before a0 Z = true) (ws : List Jvm.Cond) (w_INTEGER : Addr) (w_DATE : Addr) (w_TIMESTAMP : Addr) (h0 : Heap) (n0 : Nat) (Z0 : n0 ≤ h0.size) (O0 : Old Z n0 h0) (S_DATE : Sta Z Z.heap "com/example/rillworks/rillworks/row/ValueType" "DATE" "Lcom/example/rillworks/rillworks/row/ValueType;" (.ref w_DATE)) (S_TIMESTAMP : Sta Z Z.heap "com/example/rillworks/rillworks/row/ValueType" "TIMESTAMP" "Lcom/example/rillworks/rillworks/row/ValueType;" (.ref w_TIMESTAMP)) (ne_INTEGER_DATE : w_INTEGER ≠ w_DATE) (ne_INTEGER_TIMESTAMP : w_INTEGER ≠ w_TIMESTAMP) :
    MetFree l (⟨"com/example/rillworks/rillworks/row/ValueType", "isTime", "()Z"⟩ : MethodName) (head1 (Jvm.Cond.code (⟨"com/example/rillworks/rillworks/row/ValueType", "isTime", "()Z"⟩ : MethodName) prog_33_method_10_code 1 (some .boolean) :: ws) ({ frames := 0, cells := 0, slots := 0, locals := 0 } : Room)) (fun a U => a = #[(.ref w_INTEGER)] ∧ Z.Warmed39 U.vm ∧ U.heap = h0) (fun _ _ _ _ _ => True) (fun _ U o U' => ∃ v L, o = .returned v ∧ Q_isTime_INTEGER Z w_INTEGER w_DATE w_TIMESTAMP h0 n0 v U'.heap L ∧ FrameEnd U o U' L ({ frames := 0, cells := 0, slots := 0, locals := 0 } : Room).cells ({ frames := 0, cells := 0, slots := 0, locals := 0 } : Room).slots) := by
  refine MetFree.of_bodySF (plainFor_of_name pn_3) hisR ?_
  intro p e s m args below meth c s₁ Bd hml0 hP hK
  obtain ⟨rfl, hZ, hh⟩ := hP
  have hx := Bd.exec
  have hby := Bd.bytes
  have hml : c.maxLocals = 1 := hml0
  have hown : s.vm.findClass "com/example/rillworks/rillworks/row/ValueType" = some m.cls := findClass_of_methodNamed Bd.named
  have hnm := (name_of_methodNamed Bd.named Bd.method).1
  have hlk := Bd.notSynchronized
  have hret := Bd.returns
  have X0 : Stand p l e ({ frames := 0, cells := 0, slots := 0, locals := 0 } : Room) s m #[(.ref w_INTEGER)] below meth c s₁ [] 0 0 := Stand.of_body Bd
  have e0 : s₁.heap = h0 := by rw [← hh, Bd.state]; rfl
  have N0 := Fr.nil n0
  refine own_in ({ frames := 0, cells := 0, slots := 0, locals := 0 } : Room).cells ({ frames := 0, cells := 0, slots := 0, locals := 0 } : Room).slots (Q_isTime_INTEGER Z w_INTEGER w_DATE w_TIMESTAMP h0 n0) (ef_isTime_INTEGER m w_INTEGER) ?_
  show own_G p.tables e below _ (s₁.setTop (mkF m 0 #[.val (.ref w_INTEGER)] []))
  refine own_st (fun _ kS => XS.aloadN X0.here hx rfl (hb hby d3_0) rfl rfl kS) ?_
  show own_G p.tables e below _ (s₁.setTop (mkF m 1 #[.val (.ref w_INTEGER)] [(.ref w_INTEGER)]))
  obtain ⟨T1, X1, e1, st1⟩ := getS2 X0 hx hZ hown (host := "") (Or.inl (hw _ (List.mem_of_getElem? (i := 26) rfl))) Via.refl e0 (Sta.ext O0.2 S_DATE) (g := (mkF m 1 #[.val (.ref w_INTEGER)] [(.ref w_INTEGER)])) rfl (hb hby d3_1)
  refine own_st st1 ?_
  show own_G p.tables e below _ (T1.setTop (mkF m 4 #[.val (.ref w_INTEGER)] [(.ref w_DATE), (.ref w_INTEGER)]))
  refine own_st (fun _ kS => Jvm.RoadKit.acmp (g := (mkF m 4 #[.val (.ref w_INTEGER)] [(.ref w_DATE), (.ref w_INTEGER)])) X1 hx rfl rfl rfl (pc0 := 4) (pc' := 7) (same := false) rfl (hb hby d3_4) rfl (decide_eq_false fun q => ne_INTEGER_DATE (Value.ref.inj q)) (by decide) (by decide) kS) ?_
  show own_G p.tables e below _ (T1.setTop (mkF m 7 #[.val (.ref w_INTEGER)] []))
  refine own_st (fun _ kS => XS.aloadN X1.here hx rfl (hb hby d3_7) rfl rfl kS) ?_
  show own_G p.tables e below _ (T1.setTop (mkF m 8 #[.val (.ref w_INTEGER)] [(.ref w_INTEGER)]))
  obtain ⟨T2, X2, e2, st2⟩ := getS2 X1 hx hZ hown (host := "") (Or.inl (hw _ (List.mem_of_getElem? (i := 28) rfl))) Via.refl e1 (Sta.ext O0.2 S_TIMESTAMP) (g := (mkF m 8 #[.val (.ref w_INTEGER)] [(.ref w_INTEGER)])) rfl (hb hby d3_8)
  refine own_st st2 ?_
  show own_G p.tables e below _ (T2.setTop (mkF m 11 #[.val (.ref w_INTEGER)] [(.ref w_TIMESTAMP), (.ref w_INTEGER)]))
  refine own_st (fun _ kS => Jvm.RoadKit.acmp (g := (mkF m 11 #[.val (.ref w_INTEGER)] [(.ref w_TIMESTAMP), (.ref w_INTEGER)])) X2 hx rfl rfl rfl (pc0 := 11) (pc' := 18) (same := false) rfl (hb hby d3_11) rfl (decide_eq_false fun q => ne_INTEGER_TIMESTAMP (Value.ref.inj q)) (by decide) (by decide) kS) ?_
  show own_G p.tables e below _ (T2.setTop (mkF m 18 #[.val (.ref w_INTEGER)] []))
  refine own_st (fun _ kS => XS.iconst X2.here hx rfl (hb hby d3_18) kS) ?_
  show own_G p.tables e below _ (T2.setTop (mkF m 19 #[.val (.ref w_INTEGER)] [(.int (0 : Int32))]))
  exact own_retN X2 hx hlk (t := .boolean) hret (by simp) (hb hby d3_19) (by decide) (by decide) (v' := (0 : Int32)) rfl (by rw [e2]; exact ⟨rfl, N0, rfl⟩)
theorem ef_isTime_NUMBER (m : MethodId) (x0 : Addr) : entryFrame m #[(.ref x0)] 1 = mkF m 0 #[.val (.ref x0)] [] := by first | (simp [entryFrame, mkF, argsToLocals, Value.category]; done) | rfl
def Q_isTime_NUMBER (Z : State) (w_NUMBER : Addr) (w_DATE : Addr) (w_TIMESTAMP : Addr) (h0 : Heap) (n0 : Nat) (v : Option Value) (h : Heap) (L : List Loc) : Prop := v = some (.int (0 : Int32)) ∧ Fr n0 L ∧ h = h0
set_option maxRecDepth 65536 in
set_option maxHeartbeats 40000000 in
theorem rm_isTime_NUMBER (l : Launch) (Z : State) (a0 : Array Value) (hw : ∀ d ∈ tables_1, d.before a0 Z = true) (ws : List Jvm.Cond) (w_NUMBER : Addr) (w_DATE : Addr) (w_TIMESTAMP : Addr) (h0 : Heap) (n0 : Nat) (Z0 : n0 ≤ h0.size) (O0 : Old Z n0 h0) (S_DATE : Sta Z Z.heap "com/example/rillworks/rillworks/row/ValueType" "DATE" "Lcom/example/rillworks/rillworks/row/ValueType;" (.ref w_DATE)) (S_TIMESTAMP : Sta Z Z.heap "com/example/rillworks/rillworks/row/ValueType" "TIMESTAMP" "Lcom/example/rillworks/rillworks/row/ValueType;" (.ref w_TIMESTAMP)) (ne_NUMBER_DATE : w_NUMBER ≠ w_DATE) (ne_NUMBER_TIMESTAMP : w_NUMBER ≠ w_TIMESTAMP) :
    MetFree l (⟨"com/example/rillworks/rillworks/row/ValueType", "isTime", "()Z"⟩ : MethodName) (head1 (Jvm.Cond.code (⟨"com/example/rillworks/rillworks/row/ValueType", "isTime", "()Z"⟩ : MethodName) prog_33_method_10_code 1 (some .boolean) :: ws) ({ frames := 0, cells := 0, slots := 0, locals := 0 } : Room)) (fun a U => a = #[(.ref w_NUMBER)] ∧ Z.Warmed39 U.vm ∧ U.heap = h0) (fun _ _ _ _ _ => True) (fun _ U o U' => ∃ v L, o = .returned v ∧ Q_isTime_NUMBER Z w_NUMBER w_DATE w_TIMESTAMP h0 n0 v U'.heap L ∧ FrameEnd U o U' L ({ frames := 0, cells := 0, slots := 0, locals := 0 } : Room).cells ({ frames := 0, cells := 0, slots := 0, locals := 0 } : Room).slots) := by
  refine MetFree.of_bodySF (plainFor_of_name pn_3) hisR ?_
  intro p e s m args below meth c s₁ Bd hml0 hP hK
  obtain ⟨rfl, hZ, hh⟩ := hP
  have hx := Bd.exec
  have hby := Bd.bytes
  have hml : c.maxLocals = 1 := hml0
  have hown : s.vm.findClass "com/example/rillworks/rillworks/row/ValueType" = some m.cls := findClass_of_methodNamed Bd.named
  have hnm := (name_of_methodNamed Bd.named Bd.method).1
  have hlk := Bd.notSynchronized
  have hret := Bd.returns
  have X0 : Stand p l e ({ frames := 0, cells := 0, slots := 0, locals := 0 } : Room) s m #[(.ref w_NUMBER)] below meth c s₁ [] 0 0 := Stand.of_body Bd
  have e0 : s₁.heap = h0 := by rw [← hh, Bd.state]; rfl
  have N0 := Fr.nil n0
  refine own_in ({ frames := 0, cells := 0, slots := 0, locals := 0 } : Room).cells ({ frames := 0, cells := 0, slots := 0, locals := 0 } : Room).slots (Q_isTime_NUMBER Z w_NUMBER w_DATE w_TIMESTAMP h0 n0) (ef_isTime_NUMBER m w_NUMBER) ?_
  show own_G p.tables e below _ (s₁.setTop (mkF m 0 #[.val (.ref w_NUMBER)] []))
  refine own_st (fun _ kS => XS.aloadN X0.here hx rfl (hb hby d3_0) rfl rfl kS) ?_
  show own_G p.tables e below _ (s₁.setTop (mkF m 1 #[.val (.ref w_NUMBER)] [(.ref w_NUMBER)]))
  obtain ⟨T1, X1, e1, st1⟩ := getS2 X0 hx hZ hown (host := "") (Or.inl (hw _ (List.mem_of_getElem? (i := 26) rfl))) Via.refl e0 (Sta.ext O0.2 S_DATE) (g := (mkF m 1 #[.val (.ref w_NUMBER)] [(.ref w_NUMBER)])) rfl (hb hby d3_1)
  refine own_st st1 ?_
  show own_G p.tables e below _ (T1.setTop (mkF m 4 #[.val (.ref w_NUMBER)] [(.ref w_DATE), (.ref w_NUMBER)]))
  refine own_st (fun _ kS => Jvm.RoadKit.acmp (g := (mkF m 4 #[.val (.ref w_NUMBER)] [(.ref w_DATE), (.ref w_NUMBER)])) X1 hx rfl rfl rfl (pc0 := 4) (pc' := 7) (same := false) rfl (hb hby d3_4) rfl (decide_eq_false fun q => ne_NUMBER_DATE (Value.ref.inj q)) (by decide) (by decide) kS) ?_
  show own_G p.tables e below _ (T1.setTop (mkF m 7 #[.val (.ref w_NUMBER)] []))
  refine own_st (fun _ kS => XS.aloadN X1.here hx rfl (hb hby d3_7) rfl rfl kS) ?_
  show own_G p.tables e below _ (T1.setTop (mkF m 8 #[.val (.ref w_NUMBER)] [(.ref w_NUMBER)]))
  obtain ⟨T2, X2, e2, st2⟩ := getS2 X1 hx hZ hown (host := "") (Or.inl (hw _ (List.mem_of_getElem? (i := 28) rfl))) Via.refl e1 (Sta.ext O0.2 S_TIMESTAMP) (g := (mkF m 8 #[.val (.ref w_NUMBER)] [(.ref w_NUMBER)])) rfl (hb hby d3_8)
  refine own_st st2 ?_
  show own_G p.tables e below _ (T2.setTop (mkF m 11 #[.val (.ref w_NUMBER)] [(.ref w_TIMESTAMP), (.ref w_NUMBER)]))
  refine own_st (fun _ kS => Jvm.RoadKit.acmp (g := (mkF m 11 #[.val (.ref w_NUMBER)] [(.ref w_TIMESTAMP), (.ref w_NUMBER)])) X2 hx rfl rfl rfl (pc0 := 11) (pc' := 18) (same := false) rfl (hb hby d3_11) rfl (decide_eq_false fun q => ne_NUMBER_TIMESTAMP (Value.ref.inj q)) (by decide) (by decide) kS) ?_
  show own_G p.tables e below _ (T2.setTop (mkF m 18 #[.val (.ref w_NUMBER)] []))
  refine own_st (fun _ kS => XS.iconst X2.here hx rfl (hb hby d3_18) kS) ?_
  show own_G p.tables e below _ (T2.setTop (mkF m 19 #[.val (.ref w_NUMBER)] [(.int (0 : Int32))]))
  exact own_retN X2 hx hlk (t := .boolean) hret (by simp) (hb hby d3_19) (by decide) (by decide) (v' := (0 : Int32)) rfl (by rw [e2]; exact ⟨rfl, N0, rfl⟩)
theorem ef_isTime_BIG_NUMBER (m : MethodId) (x0 : Addr) : entryFrame m #[(.ref x0)] 1 = mkF m 0 #[.val (.ref x0)] [] := by first | (simp [entryFrame, mkF, argsToLocals, Value.category]; done) | rfl
def Q_isTime_BIG_NUMBER (Z : State) (w_BIG_NUMBER : Addr) (w_DATE : Addr) (w_TIMESTAMP : Addr) (h0 : Heap) (n0 : Nat) (v : Option Value) (h : Heap) (L : List Loc) : Prop := v = some (.int (0 : Int32)) ∧ Fr n0 L ∧ h = h0
set_option maxRecDepth 65536 in
set_option maxHeartbeats 40000000 in
theorem rm_isTime_BIG_NUMBER (l : Launch) (Z : State) (a0 : Array Value) (hw : ∀ d ∈ tables_1, d.before a0 Z = true) (ws : List Jvm.Cond) (w_BIG_NUMBER : Addr) (w_DATE : Addr) (w_TIMESTAMP : Addr) (h0 : Heap) (n0 : Nat) (Z0 : n0 ≤ h0.size) (O0 : Old Z n0 h0) (S_DATE : Sta Z Z.heap "com/example/rillworks/rillworks/row/ValueType" "DATE" "Lcom/example/rillworks/rillworks/row/ValueType;" (.ref w_DATE)) (S_TIMESTAMP : Sta Z Z.heap "com/example/rillworks/rillworks/row/ValueType" "TIMESTAMP" "Lcom/example/rillworks/rillworks/row/ValueType;" (.ref w_TIMESTAMP)) (ne_BIG_NUMBER_DATE : w_BIG_NUMBER ≠ w_DATE) (ne_BIG_NUMBER_TIMESTAMP : w_BIG_NUMBER ≠ w_TIMESTAMP) :
    MetFree l (⟨"com/example/rillworks/rillworks/row/ValueType", "isTime", "()Z"⟩ : MethodName) (head1 (Jvm.Cond.code (⟨"com/example/rillworks/rillworks/row/ValueType", "isTime", "()Z"⟩ : MethodName) prog_33_method_10_code 1 (some .boolean) :: ws) ({ frames := 0, cells := 0, slots := 0, locals := 0 } : Room)) (fun a U => a = #[(.ref w_BIG_NUMBER)] ∧ Z.Warmed39 U.vm ∧ U.heap = h0) (fun _ _ _ _ _ => True) (fun _ U o U' => ∃ v L, o = .returned v ∧ Q_isTime_BIG_NUMBER Z w_BIG_NUMBER w_DATE w_TIMESTAMP h0 n0 v U'.heap L ∧ FrameEnd U o U' L ({ frames := 0, cells := 0, slots := 0, locals := 0 } : Room).cells ({ frames := 0, cells := 0, slots := 0, locals := 0 } : Room).slots) := by
  refine MetFree.of_bodySF (plainFor_of_name pn_3) hisR ?_
  intro p e s m args below meth c s₁ Bd hml0 hP hK
  obtain ⟨rfl, hZ, hh⟩ := hP
  have hx := Bd.exec
  have hby := Bd.bytes
  have hml : c.maxLocals = 1 := hml0
  have hown : s.vm.findClass "com/example/rillworks/rillworks/row/ValueType" = some m.cls := findClass_of_methodNamed Bd.named
  have hnm := (name_of_methodNamed Bd.named Bd.method).1
  have hlk := Bd.notSynchronized
  have hret := Bd.returns
  have X0 : Stand p l e ({ frames := 0, cells := 0, slots := 0, locals := 0 } : Room) s m #[(.ref w_BIG_NUMBER)] below meth c s₁ [] 0 0 := Stand.of_body Bd
  have e0 : s₁.heap = h0 := by rw [← hh, Bd.state]; rfl
  have N0 := Fr.nil n0
  refine own_in ({ frames := 0, cells := 0, slots := 0, locals := 0 } : Room).cells ({ frames := 0, cells := 0, slots := 0, locals := 0 } : Room).slots (Q_isTime_BIG_NUMBER Z w_BIG_NUMBER w_DATE w_TIMESTAMP h0 n0) (ef_isTime_BIG_NUMBER m w_BIG_NUMBER) ?_
  show own_G p.tables e below _ (s₁.setTop (mkF m 0 #[.val (.ref w_BIG_NUMBER)] []))
  refine own_st (fun _ kS => XS.aloadN X0.here hx rfl (hb hby d3_0) rfl rfl kS) ?_
  show own_G p.tables e below _ (s₁.setTop (mkF m 1 #[.val (.ref w_BIG_NUMBER)] [(.ref w_BIG_NUMBER)]))
  obtain ⟨T1, X1, e1, st1⟩ := getS2 X0 hx hZ hown (host := "") (Or.inl (hw _ (List.mem_of_getElem? (i := 26) rfl))) Via.refl e0 (Sta.ext O0.2 S_DATE) (g := (mkF m 1 #[.val (.ref w_BIG_NUMBER)] [(.ref w_BIG_NUMBER)])) rfl (hb hby d3_1)
  refine own_st st1 ?_
  show own_G p.tables e below _ (T1.setTop (mkF m 4 #[.val (.ref w_BIG_NUMBER)] [(.ref w_DATE), (.ref w_BIG_NUMBER)]))
  refine own_st (fun _ kS => Jvm.RoadKit.acmp (g := (mkF m 4 #[.val (.ref w_BIG_NUMBER)] [(.ref w_DATE), (.ref w_BIG_NUMBER)])) X1 hx rfl rfl rfl (pc0 := 4) (pc' := 7) (same := false) rfl (hb hby d3_4) rfl (decide_eq_false fun q => ne_BIG_NUMBER_DATE (Value.ref.inj q)) (by decide) (by decide) kS) ?_
  show own_G p.tables e below _ (T1.setTop (mkF m 7 #[.val (.ref w_BIG_NUMBER)] []))
  refine own_st (fun _ kS => XS.aloadN X1.here hx rfl (hb hby d3_7) rfl rfl kS) ?_
  show own_G p.tables e below _ (T1.setTop (mkF m 8 #[.val (.ref w_BIG_NUMBER)] [(.ref w_BIG_NUMBER)]))
  obtain ⟨T2, X2, e2, st2⟩ := getS2 X1 hx hZ hown (host := "") (Or.inl (hw _ (List.mem_of_getElem? (i := 28) rfl))) Via.refl e1 (Sta.ext O0.2 S_TIMESTAMP) (g := (mkF m 8 #[.val (.ref w_BIG_NUMBER)] [(.ref w_BIG_NUMBER)])) rfl (hb hby d3_8)
  refine own_st st2 ?_
  show own_G p.tables e below _ (T2.setTop (mkF m 11 #[.val (.ref w_BIG_NUMBER)] [(.ref w_TIMESTAMP), (.ref w_BIG_NUMBER)]))
  refine own_st (fun _ kS => Jvm.RoadKit.acmp (g := (mkF m 11 #[.val (.ref w_BIG_NUMBER)] [(.ref w_TIMESTAMP), (.ref w_BIG_NUMBER)])) X2 hx rfl rfl rfl (pc0 := 11) (pc' := 18) (same := false) rfl (hb hby d3_11) rfl (decide_eq_false fun q => ne_BIG_NUMBER_TIMESTAMP (Value.ref.inj q)) (by decide) (by decide) kS) ?_
  show own_G p.tables e below _ (T2.setTop (mkF m 18 #[.val (.ref w_BIG_NUMBER)] []))
  refine own_st (fun _ kS => XS.iconst X2.here hx rfl (hb hby d3_18) kS) ?_
  show own_G p.tables e below _ (T2.setTop (mkF m 19 #[.val (.ref w_BIG_NUMBER)] [(.int (0 : Int32))]))
  exact own_retN X2 hx hlk (t := .boolean) hret (by simp) (hb hby d3_19) (by decide) (by decide) (v' := (0 : Int32)) rfl (by rw [e2]; exact ⟨rfl, N0, rfl⟩)
theorem pn_0 : plainName "com/example/rillworks/rillworks/row/ValueTypeIsNumberPinLaw" = true := by first | (simp [plainName, overriddenIn]; done) | decide +kernel
def Q_law (n0 : Nat) (v : Option Value) (h : Heap) (L : List Loc) : Prop := v = some (.int (1 : Int32)) ∧ Fr n0 L
theorem own_pd0 : parseMethodDescriptor "(I)Lcom/example/rillworks/rillworks/row/ValueType;" = some ⟨[.int], some (.object "com/example/rillworks/rillworks/row/ValueType")⟩ := by decide +kernel
theorem own_pd1 : parseMethodDescriptor "()Z" = some ⟨[], some .boolean⟩ := by decide +kernel
theorem ef_law (m : MethodId) (x0 : Int32) : entryFrame m #[(.int x0)] maxLocals = mkF m 0 #[.val (.int x0), .unset, .unset, .unset, .unset] [] := by first | (simp [entryFrame, mkF, argsToLocals, Value.category, maxLocals]; done) | rfl
set_option maxRecDepth 65536 in
set_option maxHeartbeats 40000000 in
theorem rm_law (l : Launch) (Z : State) (a0 : Array Value) (hw : ∀ d ∈ tables_1, d.before a0 Z = true) (ws : List Jvm.Cond) (p1 : Int32) (w_STRING : Addr) (w_INTEGER : Addr) (w_NUMBER : Addr) (w_BIG_NUMBER : Addr) (w_DATE : Addr) (w_TIMESTAMP : Addr) (w_BOOLEAN : Addr) (h0 : Heap) (n0 : Nat) (Z0 : n0 ≤ h0.size) (O0 : Old Z n0 h0) (S_STRING : Sta Z Z.heap "com/example/rillworks/rillworks/row/ValueType" "STRING" "Lcom/example/rillworks/rillworks/row/ValueType;" (.ref w_STRING)) (S_INTEGER : Sta Z Z.heap "com/example/rillworks/rillworks/row/ValueType" "INTEGER" "Lcom/example/rillworks/rillworks/row/ValueType;" (.ref w_INTEGER)) (S_NUMBER : Sta Z Z.heap "com/example/rillworks/rillworks/row/ValueType" "NUMBER" "Lcom/example/rillworks/rillworks/row/ValueType;" (.ref w_NUMBER)) (S_BIG_NUMBER : Sta Z Z.heap "com/example/rillworks/rillworks/row/ValueType" "BIG_NUMBER" "Lcom/example/rillworks/rillworks/row/ValueType;" (.ref w_BIG_NUMBER)) (S_DATE : Sta Z Z.heap "com/example/rillworks/rillworks/row/ValueType" "DATE" "Lcom/example/rillworks/rillworks/row/ValueType;" (.ref w_DATE)) (S_TIMESTAMP : Sta Z Z.heap "com/example/rillworks/rillworks/row/ValueType" "TIMESTAMP" "Lcom/example/rillworks/rillworks/row/ValueType;" (.ref w_TIMESTAMP)) (S_BOOLEAN : Sta Z Z.heap "com/example/rillworks/rillworks/row/ValueType" "BOOLEAN" "Lcom/example/rillworks/rillworks/row/ValueType;" (.ref w_BOOLEAN)) (E_STRING : Exa Z Z.heap w_STRING "com/example/rillworks/rillworks/row/ValueType$1") (E_INTEGER : Exa Z Z.heap w_INTEGER "com/example/rillworks/rillworks/row/ValueType$2") (E_NUMBER : Exa Z Z.heap w_NUMBER "com/example/rillworks/rillworks/row/ValueType$3") (E_BIG_NUMBER : Exa Z Z.heap w_BIG_NUMBER "com/example/rillworks/rillworks/row/ValueType$4") (E_DATE : Exa Z Z.heap w_DATE "com/example/rillworks/rillworks/row/ValueType$5") (E_TIMESTAMP : Exa Z Z.heap w_TIMESTAMP "com/example/rillworks/rillworks/row/ValueType$6") (E_BOOLEAN : Exa Z Z.heap w_BOOLEAN "com/example/rillworks/rillworks/row/ValueType$7") (ne_STRING_INTEGER : w_STRING ≠ w_INTEGER) (ne_STRING_NUMBER : w_STRING ≠ w_NUMBER) (ne_STRING_BIG_NUMBER : w_STRING ≠ w_BIG_NUMBER) (ne_INTEGER_NUMBER : w_INTEGER ≠ w_NUMBER) (ne_INTEGER_BIG_NUMBER : w_INTEGER ≠ w_BIG_NUMBER) (ne_NUMBER_INTEGER : w_NUMBER ≠ w_INTEGER) (ne_NUMBER_BIG_NUMBER : w_NUMBER ≠ w_BIG_NUMBER) (ne_BIG_NUMBER_INTEGER : w_BIG_NUMBER ≠ w_INTEGER) (ne_BIG_NUMBER_NUMBER : w_BIG_NUMBER ≠ w_NUMBER) (ne_DATE_INTEGER : w_DATE ≠ w_INTEGER) (ne_DATE_NUMBER : w_DATE ≠ w_NUMBER) (ne_DATE_BIG_NUMBER : w_DATE ≠ w_BIG_NUMBER) (ne_TIMESTAMP_INTEGER : w_TIMESTAMP ≠ w_INTEGER) (ne_TIMESTAMP_NUMBER : w_TIMESTAMP ≠ w_NUMBER) (ne_TIMESTAMP_BIG_NUMBER : w_TIMESTAMP ≠ w_BIG_NUMBER) (ne_BOOLEAN_INTEGER : w_BOOLEAN ≠ w_INTEGER) (ne_BOOLEAN_NUMBER : w_BOOLEAN ≠ w_NUMBER) (ne_BOOLEAN_BIG_NUMBER : w_BOOLEAN ≠ w_BIG_NUMBER) (ne_INTEGER_DATE : w_INTEGER ≠ w_DATE) (ne_INTEGER_TIMESTAMP : w_INTEGER ≠ w_TIMESTAMP) (ne_NUMBER_DATE : w_NUMBER ≠ w_DATE) (ne_NUMBER_TIMESTAMP : w_NUMBER ≠ w_TIMESTAMP) (ne_BIG_NUMBER_DATE : w_BIG_NUMBER ≠ w_DATE) (ne_BIG_NUMBER_TIMESTAMP : w_BIG_NUMBER ≠ w_TIMESTAMP) :
    MetFree l x (head1 (Jvm.Cond.code x code maxLocals ret :: ws) room_1) (fun a U => a = #[(.int p1)] ∧ Z.Warmed39 U.vm ∧ U.heap = h0) (fun _ _ _ _ _ => True) (fun _ U o U' => ∃ v L, o = .returned v ∧ Q_law n0 v U'.heap L ∧ FrameEnd U o U' L room_1.cells room_1.slots) := by
  refine MetFree.of_bodySF (plainFor_of_name pn_0) hisR ?_
  intro p e s m args below meth c s₁ Bd hml0 hP hK
  obtain ⟨rfl, hZ, hh⟩ := hP
  have hx := Bd.exec
  have hby := Bd.bytes
  have hml : c.maxLocals = 5 := hml0
  have hown : s.vm.findClass "com/example/rillworks/rillworks/row/ValueTypeIsNumberPinLaw" = some m.cls := findClass_of_methodNamed Bd.named
  have hnm := (name_of_methodNamed Bd.named Bd.method).1
  have hlk := Bd.notSynchronized
  have hret := Bd.returns
  have X0 : Stand p l e room_1 s m #[(.int p1)] below meth c s₁ [] 0 0 := Stand.of_body Bd
  have e0 : s₁.heap = h0 := by rw [← hh, Bd.state]; rfl
  have N0 := Fr.nil n0
  refine own_in room_1.cells room_1.slots (Q_law n0) (ef_law m p1) ?_
  show own_G p.tables e below _ (s₁.setTop (mkF m 0 #[.val (.int p1), .unset, .unset, .unset, .unset] []))
  refine own_st (fun _ kS => XS.iloadN X0.here hx rfl (hb hby at_0) rfl kS) ?_
  show own_G p.tables e below _ (s₁.setTop (mkF m 1 #[.val (.int p1), .unset, .unset, .unset, .unset] [(.int p1)]))
  refine own_st (fun _ kS => X0.ldcInt hx hown (mvT hZ (hw _ (List.mem_of_getElem? (i := 0) rfl))) (g := (mkF m 1 #[.val (.int p1), .unset, .unset, .unset, .unset] [(.int p1)])) rfl (hb hby at_1) _ kS) ?_
  show own_G p.tables e below _ (s₁.setTop (mkF m 3 #[.val (.int p1), .unset, .unset, .unset, .unset] [(.int (2147483647 : Int32)), (.int p1)]))
  refine own_st (fun _ kS => XS.iand X0.here hx rfl (hb hby at_3) rfl kS) ?_
  show own_G p.tables e below _ (s₁.setTop (mkF m 4 #[.val (.int p1), .unset, .unset, .unset, .unset] [(.int (p1 &&& (2147483647 : Int32)))]))
  refine own_st (fun _ kS => XS.bipush X0.here hx rfl (hb hby at_4) kS) ?_
  show own_G p.tables e below _ (s₁.setTop (mkF m 6 #[.val (.int p1), .unset, .unset, .unset, .unset] [(.int (7 : Int32)), (.int (p1 &&& (2147483647 : Int32)))]))
  refine own_st (fun _ kS => iremM (g := (mkF m 6 #[.val (.int p1), .unset, .unset, .unset, .unset] [(.int (7 : Int32)), (.int (p1 &&& (2147483647 : Int32)))])) X0 hx rfl (hb hby at_6) rfl (by decide) kS) ?_
  show own_G p.tables e below _ (s₁.setTop (mkF m 7 #[.val (.int p1), .unset, .unset, .unset, .unset] [(.int ((p1 &&& (2147483647 : Int32)) % (7 : Int32)))]))
  rcases own_mod7 p1 with hk1 | hk1 | hk1 | hk1 | hk1 | hk1 | hk1
  · rw [hk1]
    show own_G p.tables e below _ (s₁.setTop (mkF m 7 #[.val (.int p1), .unset, .unset, .unset, .unset] [(.int (0 : Int32))]))
    refine own_st (fun _ kS => XS.istoreN X0.here hx rfl (hb hby at_7) rfl (l' := #[.val (.int p1), .val (.int (0 : Int32)), .unset, .unset, .unset]) rfl kS) ?_
    show own_G p.tables e below _ (s₁.setTop (mkF m 8 #[.val (.int p1), .val (.int (0 : Int32)), .unset, .unset, .unset] []))
    refine own_st (fun _ kS => XS.iloadN X0.here hx rfl (hb hby at_8) rfl kS) ?_
    show own_G p.tables e below _ (s₁.setTop (mkF m 9 #[.val (.int p1), .val (.int (0 : Int32)), .unset, .unset, .unset] [(.int (0 : Int32))]))
    obtain ⟨_, _, ⟨T2, L2, k2, n2⟩, -, X2, ⟨Lc2, hQ2, l2, y2, z2⟩, st2⟩ := Jvm.LawKit.callS X0 hx (y := (⟨"com/example/rillworks/rillworks/row/ValueTypeIsNumberPinLaw", "pick", "(I)Lcom/example/rillworks/rillworks/row/ValueType;"⟩ : MethodName)) hown (mvT hZ (hw _ (List.mem_of_getElem? (i := 1) rfl))) (mvT hZ (hw _ (List.mem_of_getElem? (i := 2) rfl))) (mvT hZ (hw _ (List.mem_of_getElem? (i := 3) rfl))) (mvT hZ (hw _ (List.mem_of_getElem? (i := 4) rfl))) (by decide) (backOf (W := 0) (rm_pick0 l Z a0 hw [] w_STRING h0 n0 Z0 O0 S_STRING) hZ (hw _ (List.mem_of_getElem? (i := 4) rfl)) (hw _ (List.mem_of_getElem? (i := 3) rfl)) (by decide) (by decide)) (g := (mkF m 9 #[.val (.int p1), .val (.int (0 : Int32)), .unset, .unset, .unset] [(.int (0 : Int32))])) rfl (by rw [hml]; rfl) (argsL := [(.int (0 : Int32))]) (rest := []) (lenOf own_pd0 rfl) rfl (by show 2 * 0 + _ ≤ _; exact Nat.le_of_eq rfl) (hb hby at_9) (fun _ _ => ⟨rfl, e0, (by decide : 0 + 0 ≤ _), (by decide : 0 + 0 ≤ _)⟩)
    dsimp only [Pt.U, Pt.locs, Pt.cells, Pt.slots] at X2 l2 y2 z2 st2 hQ2
    subst l2 y2 z2
    obtain ⟨rfl, Nq2, eq2⟩ := hQ2
    have N2 := Fr.app N0 Nq2
    refine own_st st2 ?_
    show own_G p.tables e below _ (T2.setTop (mkF m 12 #[.val (.int p1), .val (.int (0 : Int32)), .unset, .unset, .unset] [(.ref w_STRING)]))
    refine own_st (fun _ kS => XS.astoreN X2.here hx rfl (hb hby at_12) rfl rfl (l' := #[.val (.int p1), .val (.int (0 : Int32)), .val (.ref w_STRING), .unset, .unset]) rfl kS) ?_
    show own_G p.tables e below _ (T2.setTop (mkF m 13 #[.val (.int p1), .val (.int (0 : Int32)), .val (.ref w_STRING), .unset, .unset] []))
    refine own_st (fun _ kS => XS.iloadN X2.here hx rfl (hb hby at_13) rfl kS) ?_
    show own_G p.tables e below _ (T2.setTop (mkF m 14 #[.val (.int p1), .val (.int (0 : Int32)), .val (.ref w_STRING), .unset, .unset] [(.int (0 : Int32))]))
    refine own_st (fun _ kS => XS.iconst X2.here hx rfl (hb hby at_14) kS) ?_
    show own_G p.tables e below _ (T2.setTop (mkF m 15 #[.val (.int p1), .val (.int (0 : Int32)), .val (.ref w_STRING), .unset, .unset] [(.int (1 : Int32)), (.int (0 : Int32))]))
    refine own_st (fun _ kS => XS.icmpYes X2.here hx rfl (pc0 := 15) (pc' := 27) rfl (hb hby at_15) rfl (tlt (by decide : (0 : Int32) < (1 : Int32))).1 (by decide) (by decide) kS) ?_
    show own_G p.tables e below _ (T2.setTop (mkF m 27 #[.val (.int p1), .val (.int (0 : Int32)), .val (.ref w_STRING), .unset, .unset] []))
    refine own_st (fun _ kS => XS.iconst X2.here hx rfl (hb hby at_27) kS) ?_
    show own_G p.tables e below _ (T2.setTop (mkF m 28 #[.val (.int p1), .val (.int (0 : Int32)), .val (.ref w_STRING), .unset, .unset] [(.int (0 : Int32))]))
    refine own_st (fun _ kS => XS.istoreN X2.here hx rfl (hb hby at_28) rfl (l' := #[.val (.int p1), .val (.int (0 : Int32)), .val (.ref w_STRING), .val (.int (0 : Int32)), .unset]) rfl kS) ?_
    show own_G p.tables e below _ (T2.setTop (mkF m 29 #[.val (.int p1), .val (.int (0 : Int32)), .val (.ref w_STRING), .val (.int (0 : Int32)), .unset] []))
    refine own_st (fun _ kS => XS.aloadN X2.here hx rfl (hb hby at_29) rfl rfl kS) ?_
    show own_G p.tables e below _ (T2.setTop (mkF m 30 #[.val (.int p1), .val (.int (0 : Int32)), .val (.ref w_STRING), .val (.int (0 : Int32)), .unset] [(.ref w_STRING)]))
    obtain ⟨cq3, kq3, q3a, q3b, q3c⟩ := isOf hZ eq2 (Exa.ext O0.2 E_STRING)
    obtain ⟨_, _, ⟨T3, L3, k3, n3⟩, -, X3, ⟨Lc3, hQ3, l3, y3, z3⟩, st3⟩ := X2.virtualBack hx (y := (⟨"com/example/rillworks/rillworks/row/ValueType", "isNumber", "()Z"⟩ : MethodName)) (z := (⟨"com/example/rillworks/rillworks/row/ValueType", "isNumber", "()Z"⟩ : MethodName)) hown (mvT hZ (hw _ (List.mem_of_getElem? (i := 8) rfl))) (mvT hZ (hw _ (List.mem_of_getElem? (i := 9) rfl))) (notFace_of_selects (args := #[]) (mvT hZ (hw _ (List.mem_of_getElem? (i := 11) rfl)))) (mvT hZ (hw _ (List.mem_of_getElem? (i := 11) rfl))) (mvT hZ (hw _ (List.mem_of_getElem? (i := 10) rfl))) (by decide) (backOf (W := 0) (rm_isNumber_STRING l Z a0 hw [] w_STRING w_INTEGER w_NUMBER w_BIG_NUMBER h0 n0 Z0 O0 S_INTEGER S_NUMBER S_BIG_NUMBER ne_STRING_INTEGER ne_STRING_NUMBER ne_STRING_BIG_NUMBER) hZ (hw _ (List.mem_of_getElem? (i := 12) rfl)) (hw _ (List.mem_of_getElem? (i := 6) rfl)) (by decide) (by decide)) q3a q3c (g := (mkF m 30 #[.val (.int p1), .val (.int (0 : Int32)), .val (.ref w_STRING), .val (.int (0 : Int32)), .unset] [(.ref w_STRING)])) rfl (by rw [hml]; rfl) (Steps.refl _) (argsL := []) (rest := []) (lenOf own_pd1 rfl) rfl (by show 2 * 0 + _ ≤ _; exact Nat.le_of_eq rfl) (hb hby at_30) (fun _ _ => ⟨rfl, eq2, (by decide : 0 + 0 ≤ _), (by decide : 0 + 0 ≤ _)⟩)
    dsimp only [Pt.U, Pt.locs, Pt.cells, Pt.slots] at X3 l3 y3 z3 st3 hQ3
    subst l3 y3 z3
    obtain ⟨rfl, Nq3, eq3⟩ := hQ3
    have N3 := Fr.app N2 Nq3
    refine own_tr st3 ?_
    show own_G p.tables e below _ (T3.setTop (mkF m 33 #[.val (.int p1), .val (.int (0 : Int32)), .val (.ref w_STRING), .val (.int (0 : Int32)), .unset] [(.int (0 : Int32))]))
    refine own_st (fun _ kS => XS.istore X3.here hx rfl (hb hby at_33) rfl (l' := #[.val (.int p1), .val (.int (0 : Int32)), .val (.ref w_STRING), .val (.int (0 : Int32)), .val (.int (0 : Int32))]) rfl kS) ?_
    show own_G p.tables e below _ (T3.setTop (mkF m 35 #[.val (.int p1), .val (.int (0 : Int32)), .val (.ref w_STRING), .val (.int (0 : Int32)), .val (.int (0 : Int32))] []))
    refine own_st (fun _ kS => XS.iload X3.here hx rfl (hb hby at_35) rfl kS) ?_
    show own_G p.tables e below _ (T3.setTop (mkF m 37 #[.val (.int p1), .val (.int (0 : Int32)), .val (.ref w_STRING), .val (.int (0 : Int32)), .val (.int (0 : Int32))] [(.int (0 : Int32))]))
    refine own_st (fun _ kS => XS.iloadN X3.here hx rfl (hb hby at_37) rfl kS) ?_
    show own_G p.tables e below _ (T3.setTop (mkF m 38 #[.val (.int p1), .val (.int (0 : Int32)), .val (.ref w_STRING), .val (.int (0 : Int32)), .val (.int (0 : Int32))] [(.int (0 : Int32)), (.int (0 : Int32))]))
    refine own_st (fun _ kS => XS.icmpNo X3.here hx rfl (hb hby at_38) rfl (teq (by decide : (0 : Int32) = (0 : Int32))).2 kS) ?_
    show own_G p.tables e below _ (T3.setTop (mkF m 41 #[.val (.int p1), .val (.int (0 : Int32)), .val (.ref w_STRING), .val (.int (0 : Int32)), .val (.int (0 : Int32))] []))
    refine own_st (fun _ kS => XS.iload X3.here hx rfl (hb hby at_41) rfl kS) ?_
    show own_G p.tables e below _ (T3.setTop (mkF m 43 #[.val (.int p1), .val (.int (0 : Int32)), .val (.ref w_STRING), .val (.int (0 : Int32)), .val (.int (0 : Int32))] [(.int (0 : Int32))]))
    refine own_st (fun _ kS => XS.ifYes X3.here hx rfl (pc0 := 43) (pc' := 53) rfl (hb hby at_43) rfl ((if0 _ _).trans (teq (by decide : (0 : Int32) = (0 : Int32))).1) (by decide) (by decide) kS) ?_
    show own_G p.tables e below _ (T3.setTop (mkF m 53 #[.val (.int p1), .val (.int (0 : Int32)), .val (.ref w_STRING), .val (.int (0 : Int32)), .val (.int (0 : Int32))] []))
    refine own_st (fun _ kS => XS.iconst X3.here hx rfl (hb hby at_53) kS) ?_
    show own_G p.tables e below _ (T3.setTop (mkF m 54 #[.val (.int p1), .val (.int (0 : Int32)), .val (.ref w_STRING), .val (.int (0 : Int32)), .val (.int (0 : Int32))] [(.int (1 : Int32))]))
    refine own_st (fun _ kS => XS.goto X3.here hx rfl (pc0 := 54) (pc' := 58) rfl (hb hby at_54) (by decide) (by decide) kS) ?_
    show own_G p.tables e below _ (T3.setTop (mkF m 58 #[.val (.int p1), .val (.int (0 : Int32)), .val (.ref w_STRING), .val (.int (0 : Int32)), .val (.int (0 : Int32))] [(.int (1 : Int32))]))
    exact own_retN X3 hx hlk (t := .boolean) hret (by simp) (hb hby at_58) (by decide) (by decide) (v' := (1 : Int32)) rfl (by rw [eq3]; exact ⟨rfl, N3⟩)
  · rw [hk1]
    show own_G p.tables e below _ (s₁.setTop (mkF m 7 #[.val (.int p1), .unset, .unset, .unset, .unset] [(.int (1 : Int32))]))
    refine own_st (fun _ kS => XS.istoreN X0.here hx rfl (hb hby at_7) rfl (l' := #[.val (.int p1), .val (.int (1 : Int32)), .unset, .unset, .unset]) rfl kS) ?_
    show own_G p.tables e below _ (s₁.setTop (mkF m 8 #[.val (.int p1), .val (.int (1 : Int32)), .unset, .unset, .unset] []))
    refine own_st (fun _ kS => XS.iloadN X0.here hx rfl (hb hby at_8) rfl kS) ?_
    show own_G p.tables e below _ (s₁.setTop (mkF m 9 #[.val (.int p1), .val (.int (1 : Int32)), .unset, .unset, .unset] [(.int (1 : Int32))]))
    obtain ⟨_, _, ⟨T4, L4, k4, n4⟩, -, X4, ⟨Lc4, hQ4, l4, y4, z4⟩, st4⟩ := Jvm.LawKit.callS X0 hx (y := (⟨"com/example/rillworks/rillworks/row/ValueTypeIsNumberPinLaw", "pick", "(I)Lcom/example/rillworks/rillworks/row/ValueType;"⟩ : MethodName)) hown (mvT hZ (hw _ (List.mem_of_getElem? (i := 1) rfl))) (mvT hZ (hw _ (List.mem_of_getElem? (i := 2) rfl))) (mvT hZ (hw _ (List.mem_of_getElem? (i := 3) rfl))) (mvT hZ (hw _ (List.mem_of_getElem? (i := 4) rfl))) (by decide) (backOf (W := 0) (rm_pick1 l Z a0 hw [] w_INTEGER h0 n0 Z0 O0 S_INTEGER) hZ (hw _ (List.mem_of_getElem? (i := 4) rfl)) (hw _ (List.mem_of_getElem? (i := 3) rfl)) (by decide) (by decide)) (g := (mkF m 9 #[.val (.int p1), .val (.int (1 : Int32)), .unset, .unset, .unset] [(.int (1 : Int32))])) rfl (by rw [hml]; rfl) (argsL := [(.int (1 : Int32))]) (rest := []) (lenOf own_pd0 rfl) rfl (by show 2 * 0 + _ ≤ _; exact Nat.le_of_eq rfl) (hb hby at_9) (fun _ _ => ⟨rfl, e0, (by decide : 0 + 0 ≤ _), (by decide : 0 + 0 ≤ _)⟩)
    dsimp only [Pt.U, Pt.locs, Pt.cells, Pt.slots] at X4 l4 y4 z4 st4 hQ4
    subst l4 y4 z4
    obtain ⟨rfl, Nq4, eq4⟩ := hQ4
    have N4 := Fr.app N0 Nq4
    refine own_st st4 ?_
    show own_G p.tables e below _ (T4.setTop (mkF m 12 #[.val (.int p1), .val (.int (1 : Int32)), .unset, .unset, .unset] [(.ref w_INTEGER)]))
    refine own_st (fun _ kS => XS.astoreN X4.here hx rfl (hb hby at_12) rfl rfl (l' := #[.val (.int p1), .val (.int (1 : Int32)), .val (.ref w_INTEGER), .unset, .unset]) rfl kS) ?_
    show own_G p.tables e below _ (T4.setTop (mkF m 13 #[.val (.int p1), .val (.int (1 : Int32)), .val (.ref w_INTEGER), .unset, .unset] []))
    refine own_st (fun _ kS => XS.iloadN X4.here hx rfl (hb hby at_13) rfl kS) ?_
    show own_G p.tables e below _ (T4.setTop (mkF m 14 #[.val (.int p1), .val (.int (1 : Int32)), .val (.ref w_INTEGER), .unset, .unset] [(.int (1 : Int32))]))
    refine own_st (fun _ kS => XS.iconst X4.here hx rfl (hb hby at_14) kS) ?_
    show own_G p.tables e below _ (T4.setTop (mkF m 15 #[.val (.int p1), .val (.int (1 : Int32)), .val (.ref w_INTEGER), .unset, .unset] [(.int (1 : Int32)), (.int (1 : Int32))]))
    refine own_st (fun _ kS => XS.icmpNo X4.here hx rfl (hb hby at_15) rfl (flt (by decide : ¬ ((1 : Int32) < (1 : Int32)))).1 kS) ?_
    show own_G p.tables e below _ (T4.setTop (mkF m 18 #[.val (.int p1), .val (.int (1 : Int32)), .val (.ref w_INTEGER), .unset, .unset] []))
    refine own_st (fun _ kS => XS.iloadN X4.here hx rfl (hb hby at_18) rfl kS) ?_
    show own_G p.tables e below _ (T4.setTop (mkF m 19 #[.val (.int p1), .val (.int (1 : Int32)), .val (.ref w_INTEGER), .unset, .unset] [(.int (1 : Int32))]))
    refine own_st (fun _ kS => XS.iconst X4.here hx rfl (hb hby at_19) kS) ?_
    show own_G p.tables e below _ (T4.setTop (mkF m 20 #[.val (.int p1), .val (.int (1 : Int32)), .val (.ref w_INTEGER), .unset, .unset] [(.int (3 : Int32)), (.int (1 : Int32))]))
    refine own_st (fun _ kS => XS.icmpNo X4.here hx rfl (hb hby at_20) rfl (flt (by decide : ¬ ((3 : Int32) < (1 : Int32)))).2.2.1 kS) ?_
    show own_G p.tables e below _ (T4.setTop (mkF m 23 #[.val (.int p1), .val (.int (1 : Int32)), .val (.ref w_INTEGER), .unset, .unset] []))
    refine own_st (fun _ kS => XS.iconst X4.here hx rfl (hb hby at_23) kS) ?_
    show own_G p.tables e below _ (T4.setTop (mkF m 24 #[.val (.int p1), .val (.int (1 : Int32)), .val (.ref w_INTEGER), .unset, .unset] [(.int (1 : Int32))]))
    refine own_st (fun _ kS => XS.goto X4.here hx rfl (pc0 := 24) (pc' := 28) rfl (hb hby at_24) (by decide) (by decide) kS) ?_
    show own_G p.tables e below _ (T4.setTop (mkF m 28 #[.val (.int p1), .val (.int (1 : Int32)), .val (.ref w_INTEGER), .unset, .unset] [(.int (1 : Int32))]))
    refine own_st (fun _ kS => XS.istoreN X4.here hx rfl (hb hby at_28) rfl (l' := #[.val (.int p1), .val (.int (1 : Int32)), .val (.ref w_INTEGER), .val (.int (1 : Int32)), .unset]) rfl kS) ?_
    show own_G p.tables e below _ (T4.setTop (mkF m 29 #[.val (.int p1), .val (.int (1 : Int32)), .val (.ref w_INTEGER), .val (.int (1 : Int32)), .unset] []))
    refine own_st (fun _ kS => XS.aloadN X4.here hx rfl (hb hby at_29) rfl rfl kS) ?_
    show own_G p.tables e below _ (T4.setTop (mkF m 30 #[.val (.int p1), .val (.int (1 : Int32)), .val (.ref w_INTEGER), .val (.int (1 : Int32)), .unset] [(.ref w_INTEGER)]))
    obtain ⟨cq5, kq5, q5a, q5b, q5c⟩ := isOf hZ eq4 (Exa.ext O0.2 E_INTEGER)
    obtain ⟨_, _, ⟨T5, L5, k5, n5⟩, -, X5, ⟨Lc5, hQ5, l5, y5, z5⟩, st5⟩ := X4.virtualBack hx (y := (⟨"com/example/rillworks/rillworks/row/ValueType", "isNumber", "()Z"⟩ : MethodName)) (z := (⟨"com/example/rillworks/rillworks/row/ValueType", "isNumber", "()Z"⟩ : MethodName)) hown (mvT hZ (hw _ (List.mem_of_getElem? (i := 8) rfl))) (mvT hZ (hw _ (List.mem_of_getElem? (i := 9) rfl))) (notFace_of_selects (args := #[]) (mvT hZ (hw _ (List.mem_of_getElem? (i := 41) rfl)))) (mvT hZ (hw _ (List.mem_of_getElem? (i := 41) rfl))) (mvT hZ (hw _ (List.mem_of_getElem? (i := 10) rfl))) (by decide) (backOf (W := 0) (rm_isNumber_INTEGER l Z a0 hw [] w_INTEGER h0 n0 Z0 O0 S_INTEGER) hZ (hw _ (List.mem_of_getElem? (i := 12) rfl)) (hw _ (List.mem_of_getElem? (i := 6) rfl)) (by decide) (by decide)) q5a q5c (g := (mkF m 30 #[.val (.int p1), .val (.int (1 : Int32)), .val (.ref w_INTEGER), .val (.int (1 : Int32)), .unset] [(.ref w_INTEGER)])) rfl (by rw [hml]; rfl) (Steps.refl _) (argsL := []) (rest := []) (lenOf own_pd1 rfl) rfl (by show 2 * 0 + _ ≤ _; exact Nat.le_of_eq rfl) (hb hby at_30) (fun _ _ => ⟨rfl, eq4, (by decide : 0 + 0 ≤ _), (by decide : 0 + 0 ≤ _)⟩)
    dsimp only [Pt.U, Pt.locs, Pt.cells, Pt.slots] at X5 l5 y5 z5 st5 hQ5
    subst l5 y5 z5
    obtain ⟨rfl, Nq5, eq5⟩ := hQ5
    have N5 := Fr.app N4 Nq5
    refine own_tr st5 ?_
    show own_G p.tables e below _ (T5.setTop (mkF m 33 #[.val (.int p1), .val (.int (1 : Int32)), .val (.ref w_INTEGER), .val (.int (1 : Int32)), .unset] [(.int (1 : Int32))]))
    refine own_st (fun _ kS => XS.istore X5.here hx rfl (hb hby at_33) rfl (l' := #[.val (.int p1), .val (.int (1 : Int32)), .val (.ref w_INTEGER), .val (.int (1 : Int32)), .val (.int (1 : Int32))]) rfl kS) ?_
    show own_G p.tables e below _ (T5.setTop (mkF m 35 #[.val (.int p1), .val (.int (1 : Int32)), .val (.ref w_INTEGER), .val (.int (1 : Int32)), .val (.int (1 : Int32))] []))
    refine own_st (fun _ kS => XS.iload X5.here hx rfl (hb hby at_35) rfl kS) ?_
    show own_G p.tables e below _ (T5.setTop (mkF m 37 #[.val (.int p1), .val (.int (1 : Int32)), .val (.ref w_INTEGER), .val (.int (1 : Int32)), .val (.int (1 : Int32))] [(.int (1 : Int32))]))
    refine own_st (fun _ kS => XS.iloadN X5.here hx rfl (hb hby at_37) rfl kS) ?_
    show own_G p.tables e below _ (T5.setTop (mkF m 38 #[.val (.int p1), .val (.int (1 : Int32)), .val (.ref w_INTEGER), .val (.int (1 : Int32)), .val (.int (1 : Int32))] [(.int (1 : Int32)), (.int (1 : Int32))]))
    refine own_st (fun _ kS => XS.icmpNo X5.here hx rfl (hb hby at_38) rfl (teq (by decide : (1 : Int32) = (1 : Int32))).2 kS) ?_
    show own_G p.tables e below _ (T5.setTop (mkF m 41 #[.val (.int p1), .val (.int (1 : Int32)), .val (.ref w_INTEGER), .val (.int (1 : Int32)), .val (.int (1 : Int32))] []))
    refine own_st (fun _ kS => XS.iload X5.here hx rfl (hb hby at_41) rfl kS) ?_
    show own_G p.tables e below _ (T5.setTop (mkF m 43 #[.val (.int p1), .val (.int (1 : Int32)), .val (.ref w_INTEGER), .val (.int (1 : Int32)), .val (.int (1 : Int32))] [(.int (1 : Int32))]))
    refine own_st (fun _ kS => XS.ifNo X5.here hx rfl (hb hby at_43) rfl ((if0 _ _).trans (feq (by decide : ¬ ((1 : Int32) = (0 : Int32)))).1) kS) ?_
    show own_G p.tables e below _ (T5.setTop (mkF m 46 #[.val (.int p1), .val (.int (1 : Int32)), .val (.ref w_INTEGER), .val (.int (1 : Int32)), .val (.int (1 : Int32))] []))
    refine own_st (fun _ kS => XS.aloadN X5.here hx rfl (hb hby at_46) rfl rfl kS) ?_
    show own_G p.tables e below _ (T5.setTop (mkF m 47 #[.val (.int p1), .val (.int (1 : Int32)), .val (.ref w_INTEGER), .val (.int (1 : Int32)), .val (.int (1 : Int32))] [(.ref w_INTEGER)]))
    obtain ⟨cq6, kq6, q6a, q6b, q6c⟩ := isOf hZ eq5 (Exa.ext O0.2 E_INTEGER)
    obtain ⟨_, _, ⟨T6, L6, k6, n6⟩, -, X6, ⟨Lc6, hQ6, l6, y6, z6⟩, st6⟩ := X5.virtualBack hx (y := (⟨"com/example/rillworks/rillworks/row/ValueType", "isTime", "()Z"⟩ : MethodName)) (z := (⟨"com/example/rillworks/rillworks/row/ValueType", "isTime", "()Z"⟩ : MethodName)) hown (mvT hZ (hw _ (List.mem_of_getElem? (i := 21) rfl))) (mvT hZ (hw _ (List.mem_of_getElem? (i := 22) rfl))) (notFace_of_selects (args := #[]) (mvT hZ (hw _ (List.mem_of_getElem? (i := 42) rfl)))) (mvT hZ (hw _ (List.mem_of_getElem? (i := 42) rfl))) (mvT hZ (hw _ (List.mem_of_getElem? (i := 23) rfl))) (by decide) (backOf (W := 0) (rm_isTime_INTEGER l Z a0 hw [] w_INTEGER w_DATE w_TIMESTAMP h0 n0 Z0 O0 S_DATE S_TIMESTAMP ne_INTEGER_DATE ne_INTEGER_TIMESTAMP) hZ (hw _ (List.mem_of_getElem? (i := 25) rfl)) (hw _ (List.mem_of_getElem? (i := 6) rfl)) (by decide) (by decide)) q6a q6c (g := (mkF m 47 #[.val (.int p1), .val (.int (1 : Int32)), .val (.ref w_INTEGER), .val (.int (1 : Int32)), .val (.int (1 : Int32))] [(.ref w_INTEGER)])) rfl (by rw [hml]; rfl) (Steps.refl _) (argsL := []) (rest := []) (lenOf own_pd1 rfl) rfl (by show 2 * 0 + _ ≤ _; exact Nat.le_of_eq rfl) (hb hby at_47) (fun _ _ => ⟨rfl, eq5, (by decide : 0 + 0 ≤ _), (by decide : 0 + 0 ≤ _)⟩)
    dsimp only [Pt.U, Pt.locs, Pt.cells, Pt.slots] at X6 l6 y6 z6 st6 hQ6
    subst l6 y6 z6
    obtain ⟨rfl, Nq6, eq6⟩ := hQ6
    have N6 := Fr.app N5 Nq6
    refine own_tr st6 ?_
    show own_G p.tables e below _ (T6.setTop (mkF m 50 #[.val (.int p1), .val (.int (1 : Int32)), .val (.ref w_INTEGER), .val (.int (1 : Int32)), .val (.int (1 : Int32))] [(.int (0 : Int32))]))
    refine own_st (fun _ kS => XS.ifNo X6.here hx rfl (hb hby at_50) rfl ((if0 _ _).trans (teq (by decide : (0 : Int32) = (0 : Int32))).2) kS) ?_
    show own_G p.tables e below _ (T6.setTop (mkF m 53 #[.val (.int p1), .val (.int (1 : Int32)), .val (.ref w_INTEGER), .val (.int (1 : Int32)), .val (.int (1 : Int32))] []))
    refine own_st (fun _ kS => XS.iconst X6.here hx rfl (hb hby at_53) kS) ?_
    show own_G p.tables e below _ (T6.setTop (mkF m 54 #[.val (.int p1), .val (.int (1 : Int32)), .val (.ref w_INTEGER), .val (.int (1 : Int32)), .val (.int (1 : Int32))] [(.int (1 : Int32))]))
    refine own_st (fun _ kS => XS.goto X6.here hx rfl (pc0 := 54) (pc' := 58) rfl (hb hby at_54) (by decide) (by decide) kS) ?_
    show own_G p.tables e below _ (T6.setTop (mkF m 58 #[.val (.int p1), .val (.int (1 : Int32)), .val (.ref w_INTEGER), .val (.int (1 : Int32)), .val (.int (1 : Int32))] [(.int (1 : Int32))]))
    exact own_retN X6 hx hlk (t := .boolean) hret (by simp) (hb hby at_58) (by decide) (by decide) (v' := (1 : Int32)) rfl (by rw [eq6]; exact ⟨rfl, N6⟩)
  · rw [hk1]
    show own_G p.tables e below _ (s₁.setTop (mkF m 7 #[.val (.int p1), .unset, .unset, .unset, .unset] [(.int (2 : Int32))]))
    refine own_st (fun _ kS => XS.istoreN X0.here hx rfl (hb hby at_7) rfl (l' := #[.val (.int p1), .val (.int (2 : Int32)), .unset, .unset, .unset]) rfl kS) ?_
    show own_G p.tables e below _ (s₁.setTop (mkF m 8 #[.val (.int p1), .val (.int (2 : Int32)), .unset, .unset, .unset] []))
    refine own_st (fun _ kS => XS.iloadN X0.here hx rfl (hb hby at_8) rfl kS) ?_
    show own_G p.tables e below _ (s₁.setTop (mkF m 9 #[.val (.int p1), .val (.int (2 : Int32)), .unset, .unset, .unset] [(.int (2 : Int32))]))
    obtain ⟨_, _, ⟨T7, L7, k7, n7⟩, -, X7, ⟨Lc7, hQ7, l7, y7, z7⟩, st7⟩ := Jvm.LawKit.callS X0 hx (y := (⟨"com/example/rillworks/rillworks/row/ValueTypeIsNumberPinLaw", "pick", "(I)Lcom/example/rillworks/rillworks/row/ValueType;"⟩ : MethodName)) hown (mvT hZ (hw _ (List.mem_of_getElem? (i := 1) rfl))) (mvT hZ (hw _ (List.mem_of_getElem? (i := 2) rfl))) (mvT hZ (hw _ (List.mem_of_getElem? (i := 3) rfl))) (mvT hZ (hw _ (List.mem_of_getElem? (i := 4) rfl))) (by decide) (backOf (W := 0) (rm_pick2 l Z a0 hw [] w_NUMBER h0 n0 Z0 O0 S_NUMBER) hZ (hw _ (List.mem_of_getElem? (i := 4) rfl)) (hw _ (List.mem_of_getElem? (i := 3) rfl)) (by decide) (by decide)) (g := (mkF m 9 #[.val (.int p1), .val (.int (2 : Int32)), .unset, .unset, .unset] [(.int (2 : Int32))])) rfl (by rw [hml]; rfl) (argsL := [(.int (2 : Int32))]) (rest := []) (lenOf own_pd0 rfl) rfl (by show 2 * 0 + _ ≤ _; exact Nat.le_of_eq rfl) (hb hby at_9) (fun _ _ => ⟨rfl, e0, (by decide : 0 + 0 ≤ _), (by decide : 0 + 0 ≤ _)⟩)
    dsimp only [Pt.U, Pt.locs, Pt.cells, Pt.slots] at X7 l7 y7 z7 st7 hQ7
    subst l7 y7 z7
    obtain ⟨rfl, Nq7, eq7⟩ := hQ7
    have N7 := Fr.app N0 Nq7
    refine own_st st7 ?_
    show own_G p.tables e below _ (T7.setTop (mkF m 12 #[.val (.int p1), .val (.int (2 : Int32)), .unset, .unset, .unset] [(.ref w_NUMBER)]))
    refine own_st (fun _ kS => XS.astoreN X7.here hx rfl (hb hby at_12) rfl rfl (l' := #[.val (.int p1), .val (.int (2 : Int32)), .val (.ref w_NUMBER), .unset, .unset]) rfl kS) ?_
    show own_G p.tables e below _ (T7.setTop (mkF m 13 #[.val (.int p1), .val (.int (2 : Int32)), .val (.ref w_NUMBER), .unset, .unset] []))
    refine own_st (fun _ kS => XS.iloadN X7.here hx rfl (hb hby at_13) rfl kS) ?_
    show own_G p.tables e below _ (T7.setTop (mkF m 14 #[.val (.int p1), .val (.int (2 : Int32)), .val (.ref w_NUMBER), .unset, .unset] [(.int (2 : Int32))]))
    refine own_st (fun _ kS => XS.iconst X7.here hx rfl (hb hby at_14) kS) ?_
    show own_G p.tables e below _ (T7.setTop (mkF m 15 #[.val (.int p1), .val (.int (2 : Int32)), .val (.ref w_NUMBER), .unset, .unset] [(.int (1 : Int32)), (.int (2 : Int32))]))
    refine own_st (fun _ kS => XS.icmpNo X7.here hx rfl (hb hby at_15) rfl (flt (by decide : ¬ ((2 : Int32) < (1 : Int32)))).1 kS) ?_
    show own_G p.tables e below _ (T7.setTop (mkF m 18 #[.val (.int p1), .val (.int (2 : Int32)), .val (.ref w_NUMBER), .unset, .unset] []))
    refine own_st (fun _ kS => XS.iloadN X7.here hx rfl (hb hby at_18) rfl kS) ?_
    show own_G p.tables e below _ (T7.setTop (mkF m 19 #[.val (.int p1), .val (.int (2 : Int32)), .val (.ref w_NUMBER), .unset, .unset] [(.int (2 : Int32))]))
    refine own_st (fun _ kS => XS.iconst X7.here hx rfl (hb hby at_19) kS) ?_
    show own_G p.tables e below _ (T7.setTop (mkF m 20 #[.val (.int p1), .val (.int (2 : Int32)), .val (.ref w_NUMBER), .unset, .unset] [(.int (3 : Int32)), (.int (2 : Int32))]))
    refine own_st (fun _ kS => XS.icmpNo X7.here hx rfl (hb hby at_20) rfl (flt (by decide : ¬ ((3 : Int32) < (2 : Int32)))).2.2.1 kS) ?_
    show own_G p.tables e below _ (T7.setTop (mkF m 23 #[.val (.int p1), .val (.int (2 : Int32)), .val (.ref w_NUMBER), .unset, .unset] []))
    refine own_st (fun _ kS => XS.iconst X7.here hx rfl (hb hby at_23) kS) ?_
    show own_G p.tables e below _ (T7.setTop (mkF m 24 #[.val (.int p1), .val (.int (2 : Int32)), .val (.ref w_NUMBER), .unset, .unset] [(.int (1 : Int32))]))
    refine own_st (fun _ kS => XS.goto X7.here hx rfl (pc0 := 24) (pc' := 28) rfl (hb hby at_24) (by decide) (by decide) kS) ?_
    show own_G p.tables e below _ (T7.setTop (mkF m 28 #[.val (.int p1), .val (.int (2 : Int32)), .val (.ref w_NUMBER), .unset, .unset] [(.int (1 : Int32))]))
    refine own_st (fun _ kS => XS.istoreN X7.here hx rfl (hb hby at_28) rfl (l' := #[.val (.int p1), .val (.int (2 : Int32)), .val (.ref w_NUMBER), .val (.int (1 : Int32)), .unset]) rfl kS) ?_
    show own_G p.tables e below _ (T7.setTop (mkF m 29 #[.val (.int p1), .val (.int (2 : Int32)), .val (.ref w_NUMBER), .val (.int (1 : Int32)), .unset] []))
    refine own_st (fun _ kS => XS.aloadN X7.here hx rfl (hb hby at_29) rfl rfl kS) ?_
    show own_G p.tables e below _ (T7.setTop (mkF m 30 #[.val (.int p1), .val (.int (2 : Int32)), .val (.ref w_NUMBER), .val (.int (1 : Int32)), .unset] [(.ref w_NUMBER)]))
    obtain ⟨cq8, kq8, q8a, q8b, q8c⟩ := isOf hZ eq7 (Exa.ext O0.2 E_NUMBER)
    obtain ⟨_, _, ⟨T8, L8, k8, n8⟩, -, X8, ⟨Lc8, hQ8, l8, y8, z8⟩, st8⟩ := X7.virtualBack hx (y := (⟨"com/example/rillworks/rillworks/row/ValueType", "isNumber", "()Z"⟩ : MethodName)) (z := (⟨"com/example/rillworks/rillworks/row/ValueType", "isNumber", "()Z"⟩ : MethodName)) hown (mvT hZ (hw _ (List.mem_of_getElem? (i := 8) rfl))) (mvT hZ (hw _ (List.mem_of_getElem? (i := 9) rfl))) (notFace_of_selects (args := #[]) (mvT hZ (hw _ (List.mem_of_getElem? (i := 38) rfl)))) (mvT hZ (hw _ (List.mem_of_getElem? (i := 38) rfl))) (mvT hZ (hw _ (List.mem_of_getElem? (i := 10) rfl))) (by decide) (backOf (W := 0) (rm_isNumber_NUMBER l Z a0 hw [] w_NUMBER w_INTEGER h0 n0 Z0 O0 S_INTEGER S_NUMBER ne_NUMBER_INTEGER) hZ (hw _ (List.mem_of_getElem? (i := 12) rfl)) (hw _ (List.mem_of_getElem? (i := 6) rfl)) (by decide) (by decide)) q8a q8c (g := (mkF m 30 #[.val (.int p1), .val (.int (2 : Int32)), .val (.ref w_NUMBER), .val (.int (1 : Int32)), .unset] [(.ref w_NUMBER)])) rfl (by rw [hml]; rfl) (Steps.refl _) (argsL := []) (rest := []) (lenOf own_pd1 rfl) rfl (by show 2 * 0 + _ ≤ _; exact Nat.le_of_eq rfl) (hb hby at_30) (fun _ _ => ⟨rfl, eq7, (by decide : 0 + 0 ≤ _), (by decide : 0 + 0 ≤ _)⟩)
    dsimp only [Pt.U, Pt.locs, Pt.cells, Pt.slots] at X8 l8 y8 z8 st8 hQ8
    subst l8 y8 z8
    obtain ⟨rfl, Nq8, eq8⟩ := hQ8
    have N8 := Fr.app N7 Nq8
    refine own_tr st8 ?_
    show own_G p.tables e below _ (T8.setTop (mkF m 33 #[.val (.int p1), .val (.int (2 : Int32)), .val (.ref w_NUMBER), .val (.int (1 : Int32)), .unset] [(.int (1 : Int32))]))
    refine own_st (fun _ kS => XS.istore X8.here hx rfl (hb hby at_33) rfl (l' := #[.val (.int p1), .val (.int (2 : Int32)), .val (.ref w_NUMBER), .val (.int (1 : Int32)), .val (.int (1 : Int32))]) rfl kS) ?_
    show own_G p.tables e below _ (T8.setTop (mkF m 35 #[.val (.int p1), .val (.int (2 : Int32)), .val (.ref w_NUMBER), .val (.int (1 : Int32)), .val (.int (1 : Int32))] []))
    refine own_st (fun _ kS => XS.iload X8.here hx rfl (hb hby at_35) rfl kS) ?_
    show own_G p.tables e below _ (T8.setTop (mkF m 37 #[.val (.int p1), .val (.int (2 : Int32)), .val (.ref w_NUMBER), .val (.int (1 : Int32)), .val (.int (1 : Int32))] [(.int (1 : Int32))]))
    refine own_st (fun _ kS => XS.iloadN X8.here hx rfl (hb hby at_37) rfl kS) ?_
    show own_G p.tables e below _ (T8.setTop (mkF m 38 #[.val (.int p1), .val (.int (2 : Int32)), .val (.ref w_NUMBER), .val (.int (1 : Int32)), .val (.int (1 : Int32))] [(.int (1 : Int32)), (.int (1 : Int32))]))
    refine own_st (fun _ kS => XS.icmpNo X8.here hx rfl (hb hby at_38) rfl (teq (by decide : (1 : Int32) = (1 : Int32))).2 kS) ?_
    show own_G p.tables e below _ (T8.setTop (mkF m 41 #[.val (.int p1), .val (.int (2 : Int32)), .val (.ref w_NUMBER), .val (.int (1 : Int32)), .val (.int (1 : Int32))] []))
    refine own_st (fun _ kS => XS.iload X8.here hx rfl (hb hby at_41) rfl kS) ?_
    show own_G p.tables e below _ (T8.setTop (mkF m 43 #[.val (.int p1), .val (.int (2 : Int32)), .val (.ref w_NUMBER), .val (.int (1 : Int32)), .val (.int (1 : Int32))] [(.int (1 : Int32))]))
    refine own_st (fun _ kS => XS.ifNo X8.here hx rfl (hb hby at_43) rfl ((if0 _ _).trans (feq (by decide : ¬ ((1 : Int32) = (0 : Int32)))).1) kS) ?_
    show own_G p.tables e below _ (T8.setTop (mkF m 46 #[.val (.int p1), .val (.int (2 : Int32)), .val (.ref w_NUMBER), .val (.int (1 : Int32)), .val (.int (1 : Int32))] []))
    refine own_st (fun _ kS => XS.aloadN X8.here hx rfl (hb hby at_46) rfl rfl kS) ?_
    show own_G p.tables e below _ (T8.setTop (mkF m 47 #[.val (.int p1), .val (.int (2 : Int32)), .val (.ref w_NUMBER), .val (.int (1 : Int32)), .val (.int (1 : Int32))] [(.ref w_NUMBER)]))
    obtain ⟨cq9, kq9, q9a, q9b, q9c⟩ := isOf hZ eq8 (Exa.ext O0.2 E_NUMBER)
    obtain ⟨_, _, ⟨T9, L9, k9, n9⟩, -, X9, ⟨Lc9, hQ9, l9, y9, z9⟩, st9⟩ := X8.virtualBack hx (y := (⟨"com/example/rillworks/rillworks/row/ValueType", "isTime", "()Z"⟩ : MethodName)) (z := (⟨"com/example/rillworks/rillworks/row/ValueType", "isTime", "()Z"⟩ : MethodName)) hown (mvT hZ (hw _ (List.mem_of_getElem? (i := 21) rfl))) (mvT hZ (hw _ (List.mem_of_getElem? (i := 22) rfl))) (notFace_of_selects (args := #[]) (mvT hZ (hw _ (List.mem_of_getElem? (i := 39) rfl)))) (mvT hZ (hw _ (List.mem_of_getElem? (i := 39) rfl))) (mvT hZ (hw _ (List.mem_of_getElem? (i := 23) rfl))) (by decide) (backOf (W := 0) (rm_isTime_NUMBER l Z a0 hw [] w_NUMBER w_DATE w_TIMESTAMP h0 n0 Z0 O0 S_DATE S_TIMESTAMP ne_NUMBER_DATE ne_NUMBER_TIMESTAMP) hZ (hw _ (List.mem_of_getElem? (i := 25) rfl)) (hw _ (List.mem_of_getElem? (i := 6) rfl)) (by decide) (by decide)) q9a q9c (g := (mkF m 47 #[.val (.int p1), .val (.int (2 : Int32)), .val (.ref w_NUMBER), .val (.int (1 : Int32)), .val (.int (1 : Int32))] [(.ref w_NUMBER)])) rfl (by rw [hml]; rfl) (Steps.refl _) (argsL := []) (rest := []) (lenOf own_pd1 rfl) rfl (by show 2 * 0 + _ ≤ _; exact Nat.le_of_eq rfl) (hb hby at_47) (fun _ _ => ⟨rfl, eq8, (by decide : 0 + 0 ≤ _), (by decide : 0 + 0 ≤ _)⟩)
    dsimp only [Pt.U, Pt.locs, Pt.cells, Pt.slots] at X9 l9 y9 z9 st9 hQ9
    subst l9 y9 z9
    obtain ⟨rfl, Nq9, eq9⟩ := hQ9
    have N9 := Fr.app N8 Nq9
    refine own_tr st9 ?_
    show own_G p.tables e below _ (T9.setTop (mkF m 50 #[.val (.int p1), .val (.int (2 : Int32)), .val (.ref w_NUMBER), .val (.int (1 : Int32)), .val (.int (1 : Int32))] [(.int (0 : Int32))]))
    refine own_st (fun _ kS => XS.ifNo X9.here hx rfl (hb hby at_50) rfl ((if0 _ _).trans (teq (by decide : (0 : Int32) = (0 : Int32))).2) kS) ?_
    show own_G p.tables e below _ (T9.setTop (mkF m 53 #[.val (.int p1), .val (.int (2 : Int32)), .val (.ref w_NUMBER), .val (.int (1 : Int32)), .val (.int (1 : Int32))] []))
    refine own_st (fun _ kS => XS.iconst X9.here hx rfl (hb hby at_53) kS) ?_
    show own_G p.tables e below _ (T9.setTop (mkF m 54 #[.val (.int p1), .val (.int (2 : Int32)), .val (.ref w_NUMBER), .val (.int (1 : Int32)), .val (.int (1 : Int32))] [(.int (1 : Int32))]))
    refine own_st (fun _ kS => XS.goto X9.here hx rfl (pc0 := 54) (pc' := 58) rfl (hb hby at_54) (by decide) (by decide) kS) ?_
    show own_G p.tables e below _ (T9.setTop (mkF m 58 #[.val (.int p1), .val (.int (2 : Int32)), .val (.ref w_NUMBER), .val (.int (1 : Int32)), .val (.int (1 : Int32))] [(.int (1 : Int32))]))
    exact own_retN X9 hx hlk (t := .boolean) hret (by simp) (hb hby at_58) (by decide) (by decide) (v' := (1 : Int32)) rfl (by rw [eq9]; exact ⟨rfl, N9⟩)
  · rw [hk1]
    show own_G p.tables e below _ (s₁.setTop (mkF m 7 #[.val (.int p1), .unset, .unset, .unset, .unset] [(.int (3 : Int32))]))
    refine own_st (fun _ kS => XS.istoreN X0.here hx rfl (hb hby at_7) rfl (l' := #[.val (.int p1), .val (.int (3 : Int32)), .unset, .unset, .unset]) rfl kS) ?_
    show own_G p.tables e below _ (s₁.setTop (mkF m 8 #[.val (.int p1), .val (.int (3 : Int32)), .unset, .unset, .unset] []))
    refine own_st (fun _ kS => XS.iloadN X0.here hx rfl (hb hby at_8) rfl kS) ?_
    show own_G p.tables e below _ (s₁.setTop (mkF m 9 #[.val (.int p1), .val (.int (3 : Int32)), .unset, .unset, .unset] [(.int (3 : Int32))]))
    obtain ⟨_, _, ⟨T10, L10, k10, n10⟩, -, X10, ⟨Lc10, hQ10, l10, y10, z10⟩, st10⟩ := Jvm.LawKit.callS X0 hx (y := (⟨"com/example/rillworks/rillworks/row/ValueTypeIsNumberPinLaw", "pick", "(I)Lcom/example/rillworks/rillworks/row/ValueType;"⟩ : MethodName)) hown (mvT hZ (hw _ (List.mem_of_getElem? (i := 1) rfl))) (mvT hZ (hw _ (List.mem_of_getElem? (i := 2) rfl))) (mvT hZ (hw _ (List.mem_of_getElem? (i := 3) rfl))) (mvT hZ (hw _ (List.mem_of_getElem? (i := 4) rfl))) (by decide) (backOf (W := 0) (rm_pick3 l Z a0 hw [] w_BIG_NUMBER h0 n0 Z0 O0 S_BIG_NUMBER) hZ (hw _ (List.mem_of_getElem? (i := 4) rfl)) (hw _ (List.mem_of_getElem? (i := 3) rfl)) (by decide) (by decide)) (g := (mkF m 9 #[.val (.int p1), .val (.int (3 : Int32)), .unset, .unset, .unset] [(.int (3 : Int32))])) rfl (by rw [hml]; rfl) (argsL := [(.int (3 : Int32))]) (rest := []) (lenOf own_pd0 rfl) rfl (by show 2 * 0 + _ ≤ _; exact Nat.le_of_eq rfl) (hb hby at_9) (fun _ _ => ⟨rfl, e0, (by decide : 0 + 0 ≤ _), (by decide : 0 + 0 ≤ _)⟩)
    dsimp only [Pt.U, Pt.locs, Pt.cells, Pt.slots] at X10 l10 y10 z10 st10 hQ10
    subst l10 y10 z10
    obtain ⟨rfl, Nq10, eq10⟩ := hQ10
    have N10 := Fr.app N0 Nq10
    refine own_st st10 ?_
    show own_G p.tables e below _ (T10.setTop (mkF m 12 #[.val (.int p1), .val (.int (3 : Int32)), .unset, .unset, .unset] [(.ref w_BIG_NUMBER)]))
    refine own_st (fun _ kS => XS.astoreN X10.here hx rfl (hb hby at_12) rfl rfl (l' := #[.val (.int p1), .val (.int (3 : Int32)), .val (.ref w_BIG_NUMBER), .unset, .unset]) rfl kS) ?_
    show own_G p.tables e below _ (T10.setTop (mkF m 13 #[.val (.int p1), .val (.int (3 : Int32)), .val (.ref w_BIG_NUMBER), .unset, .unset] []))
    refine own_st (fun _ kS => XS.iloadN X10.here hx rfl (hb hby at_13) rfl kS) ?_
    show own_G p.tables e below _ (T10.setTop (mkF m 14 #[.val (.int p1), .val (.int (3 : Int32)), .val (.ref w_BIG_NUMBER), .unset, .unset] [(.int (3 : Int32))]))
    refine own_st (fun _ kS => XS.iconst X10.here hx rfl (hb hby at_14) kS) ?_
    show own_G p.tables e below _ (T10.setTop (mkF m 15 #[.val (.int p1), .val (.int (3 : Int32)), .val (.ref w_BIG_NUMBER), .unset, .unset] [(.int (1 : Int32)), (.int (3 : Int32))]))
    refine own_st (fun _ kS => XS.icmpNo X10.here hx rfl (hb hby at_15) rfl (flt (by decide : ¬ ((3 : Int32) < (1 : Int32)))).1 kS) ?_
    show own_G p.tables e below _ (T10.setTop (mkF m 18 #[.val (.int p1), .val (.int (3 : Int32)), .val (.ref w_BIG_NUMBER), .unset, .unset] []))
    refine own_st (fun _ kS => XS.iloadN X10.here hx rfl (hb hby at_18) rfl kS) ?_
    show own_G p.tables e below _ (T10.setTop (mkF m 19 #[.val (.int p1), .val (.int (3 : Int32)), .val (.ref w_BIG_NUMBER), .unset, .unset] [(.int (3 : Int32))]))
    refine own_st (fun _ kS => XS.iconst X10.here hx rfl (hb hby at_19) kS) ?_
    show own_G p.tables e below _ (T10.setTop (mkF m 20 #[.val (.int p1), .val (.int (3 : Int32)), .val (.ref w_BIG_NUMBER), .unset, .unset] [(.int (3 : Int32)), (.int (3 : Int32))]))
    refine own_st (fun _ kS => XS.icmpNo X10.here hx rfl (hb hby at_20) rfl (flt (by decide : ¬ ((3 : Int32) < (3 : Int32)))).2.2.1 kS) ?_
    show own_G p.tables e below _ (T10.setTop (mkF m 23 #[.val (.int p1), .val (.int (3 : Int32)), .val (.ref w_BIG_NUMBER), .unset, .unset] []))
    refine own_st (fun _ kS => XS.iconst X10.here hx rfl (hb hby at_23) kS) ?_
    show own_G p.tables e below _ (T10.setTop (mkF m 24 #[.val (.int p1), .val (.int (3 : Int32)), .val (.ref w_BIG_NUMBER), .unset, .unset] [(.int (1 : Int32))]))
    refine own_st (fun _ kS => XS.goto X10.here hx rfl (pc0 := 24) (pc' := 28) rfl (hb hby at_24) (by decide) (by decide) kS) ?_
    show own_G p.tables e below _ (T10.setTop (mkF m 28 #[.val (.int p1), .val (.int (3 : Int32)), .val (.ref w_BIG_NUMBER), .unset, .unset] [(.int (1 : Int32))]))
    refine own_st (fun _ kS => XS.istoreN X10.here hx rfl (hb hby at_28) rfl (l' := #[.val (.int p1), .val (.int (3 : Int32)), .val (.ref w_BIG_NUMBER), .val (.int (1 : Int32)), .unset]) rfl kS) ?_
    show own_G p.tables e below _ (T10.setTop (mkF m 29 #[.val (.int p1), .val (.int (3 : Int32)), .val (.ref w_BIG_NUMBER), .val (.int (1 : Int32)), .unset] []))
    refine own_st (fun _ kS => XS.aloadN X10.here hx rfl (hb hby at_29) rfl rfl kS) ?_
    show own_G p.tables e below _ (T10.setTop (mkF m 30 #[.val (.int p1), .val (.int (3 : Int32)), .val (.ref w_BIG_NUMBER), .val (.int (1 : Int32)), .unset] [(.ref w_BIG_NUMBER)]))
    obtain ⟨cq11, kq11, q11a, q11b, q11c⟩ := isOf hZ eq10 (Exa.ext O0.2 E_BIG_NUMBER)
    obtain ⟨_, _, ⟨T11, L11, k11, n11⟩, -, X11, ⟨Lc11, hQ11, l11, y11, z11⟩, st11⟩ := X10.virtualBack hx (y := (⟨"com/example/rillworks/rillworks/row/ValueType", "isNumber", "()Z"⟩ : MethodName)) (z := (⟨"com/example/rillworks/rillworks/row/ValueType", "isNumber", "()Z"⟩ : MethodName)) hown (mvT hZ (hw _ (List.mem_of_getElem? (i := 8) rfl))) (mvT hZ (hw _ (List.mem_of_getElem? (i := 9) rfl))) (notFace_of_selects (args := #[]) (mvT hZ (hw _ (List.mem_of_getElem? (i := 20) rfl)))) (mvT hZ (hw _ (List.mem_of_getElem? (i := 20) rfl))) (mvT hZ (hw _ (List.mem_of_getElem? (i := 10) rfl))) (by decide) (backOf (W := 0) (rm_isNumber_BIG_NUMBER l Z a0 hw [] w_BIG_NUMBER w_INTEGER w_NUMBER h0 n0 Z0 O0 S_INTEGER S_NUMBER S_BIG_NUMBER ne_BIG_NUMBER_INTEGER ne_BIG_NUMBER_NUMBER) hZ (hw _ (List.mem_of_getElem? (i := 12) rfl)) (hw _ (List.mem_of_getElem? (i := 6) rfl)) (by decide) (by decide)) q11a q11c (g := (mkF m 30 #[.val (.int p1), .val (.int (3 : Int32)), .val (.ref w_BIG_NUMBER), .val (.int (1 : Int32)), .unset] [(.ref w_BIG_NUMBER)])) rfl (by rw [hml]; rfl) (Steps.refl _) (argsL := []) (rest := []) (lenOf own_pd1 rfl) rfl (by show 2 * 0 + _ ≤ _; exact Nat.le_of_eq rfl) (hb hby at_30) (fun _ _ => ⟨rfl, eq10, (by decide : 0 + 0 ≤ _), (by decide : 0 + 0 ≤ _)⟩)
    dsimp only [Pt.U, Pt.locs, Pt.cells, Pt.slots] at X11 l11 y11 z11 st11 hQ11
    subst l11 y11 z11
    obtain ⟨rfl, Nq11, eq11⟩ := hQ11
    have N11 := Fr.app N10 Nq11
    refine own_tr st11 ?_
    show own_G p.tables e below _ (T11.setTop (mkF m 33 #[.val (.int p1), .val (.int (3 : Int32)), .val (.ref w_BIG_NUMBER), .val (.int (1 : Int32)), .unset] [(.int (1 : Int32))]))
    refine own_st (fun _ kS => XS.istore X11.here hx rfl (hb hby at_33) rfl (l' := #[.val (.int p1), .val (.int (3 : Int32)), .val (.ref w_BIG_NUMBER), .val (.int (1 : Int32)), .val (.int (1 : Int32))]) rfl kS) ?_
    show own_G p.tables e below _ (T11.setTop (mkF m 35 #[.val (.int p1), .val (.int (3 : Int32)), .val (.ref w_BIG_NUMBER), .val (.int (1 : Int32)), .val (.int (1 : Int32))] []))
    refine own_st (fun _ kS => XS.iload X11.here hx rfl (hb hby at_35) rfl kS) ?_
    show own_G p.tables e below _ (T11.setTop (mkF m 37 #[.val (.int p1), .val (.int (3 : Int32)), .val (.ref w_BIG_NUMBER), .val (.int (1 : Int32)), .val (.int (1 : Int32))] [(.int (1 : Int32))]))
    refine own_st (fun _ kS => XS.iloadN X11.here hx rfl (hb hby at_37) rfl kS) ?_
    show own_G p.tables e below _ (T11.setTop (mkF m 38 #[.val (.int p1), .val (.int (3 : Int32)), .val (.ref w_BIG_NUMBER), .val (.int (1 : Int32)), .val (.int (1 : Int32))] [(.int (1 : Int32)), (.int (1 : Int32))]))
    refine own_st (fun _ kS => XS.icmpNo X11.here hx rfl (hb hby at_38) rfl (teq (by decide : (1 : Int32) = (1 : Int32))).2 kS) ?_
    show own_G p.tables e below _ (T11.setTop (mkF m 41 #[.val (.int p1), .val (.int (3 : Int32)), .val (.ref w_BIG_NUMBER), .val (.int (1 : Int32)), .val (.int (1 : Int32))] []))
    refine own_st (fun _ kS => XS.iload X11.here hx rfl (hb hby at_41) rfl kS) ?_
    show own_G p.tables e below _ (T11.setTop (mkF m 43 #[.val (.int p1), .val (.int (3 : Int32)), .val (.ref w_BIG_NUMBER), .val (.int (1 : Int32)), .val (.int (1 : Int32))] [(.int (1 : Int32))]))
    refine own_st (fun _ kS => XS.ifNo X11.here hx rfl (hb hby at_43) rfl ((if0 _ _).trans (feq (by decide : ¬ ((1 : Int32) = (0 : Int32)))).1) kS) ?_
    show own_G p.tables e below _ (T11.setTop (mkF m 46 #[.val (.int p1), .val (.int (3 : Int32)), .val (.ref w_BIG_NUMBER), .val (.int (1 : Int32)), .val (.int (1 : Int32))] []))
    refine own_st (fun _ kS => XS.aloadN X11.here hx rfl (hb hby at_46) rfl rfl kS) ?_
    show own_G p.tables e below _ (T11.setTop (mkF m 47 #[.val (.int p1), .val (.int (3 : Int32)), .val (.ref w_BIG_NUMBER), .val (.int (1 : Int32)), .val (.int (1 : Int32))] [(.ref w_BIG_NUMBER)]))
    obtain ⟨cq12, kq12, q12a, q12b, q12c⟩ := isOf hZ eq11 (Exa.ext O0.2 E_BIG_NUMBER)
    obtain ⟨_, _, ⟨T12, L12, k12, n12⟩, -, X12, ⟨Lc12, hQ12, l12, y12, z12⟩, st12⟩ := X11.virtualBack hx (y := (⟨"com/example/rillworks/rillworks/row/ValueType", "isTime", "()Z"⟩ : MethodName)) (z := (⟨"com/example/rillworks/rillworks/row/ValueType", "isTime", "()Z"⟩ : MethodName)) hown (mvT hZ (hw _ (List.mem_of_getElem? (i := 21) rfl))) (mvT hZ (hw _ (List.mem_of_getElem? (i := 22) rfl))) (notFace_of_selects (args := #[]) (mvT hZ (hw _ (List.mem_of_getElem? (i := 24) rfl)))) (mvT hZ (hw _ (List.mem_of_getElem? (i := 24) rfl))) (mvT hZ (hw _ (List.mem_of_getElem? (i := 23) rfl))) (by decide) (backOf (W := 0) (rm_isTime_BIG_NUMBER l Z a0 hw [] w_BIG_NUMBER w_DATE w_TIMESTAMP h0 n0 Z0 O0 S_DATE S_TIMESTAMP ne_BIG_NUMBER_DATE ne_BIG_NUMBER_TIMESTAMP) hZ (hw _ (List.mem_of_getElem? (i := 25) rfl)) (hw _ (List.mem_of_getElem? (i := 6) rfl)) (by decide) (by decide)) q12a q12c (g := (mkF m 47 #[.val (.int p1), .val (.int (3 : Int32)), .val (.ref w_BIG_NUMBER), .val (.int (1 : Int32)), .val (.int (1 : Int32))] [(.ref w_BIG_NUMBER)])) rfl (by rw [hml]; rfl) (Steps.refl _) (argsL := []) (rest := []) (lenOf own_pd1 rfl) rfl (by show 2 * 0 + _ ≤ _; exact Nat.le_of_eq rfl) (hb hby at_47) (fun _ _ => ⟨rfl, eq11, (by decide : 0 + 0 ≤ _), (by decide : 0 + 0 ≤ _)⟩)
    dsimp only [Pt.U, Pt.locs, Pt.cells, Pt.slots] at X12 l12 y12 z12 st12 hQ12
    subst l12 y12 z12
    obtain ⟨rfl, Nq12, eq12⟩ := hQ12
    have N12 := Fr.app N11 Nq12
    refine own_tr st12 ?_
    show own_G p.tables e below _ (T12.setTop (mkF m 50 #[.val (.int p1), .val (.int (3 : Int32)), .val (.ref w_BIG_NUMBER), .val (.int (1 : Int32)), .val (.int (1 : Int32))] [(.int (0 : Int32))]))
    refine own_st (fun _ kS => XS.ifNo X12.here hx rfl (hb hby at_50) rfl ((if0 _ _).trans (teq (by decide : (0 : Int32) = (0 : Int32))).2) kS) ?_
    show own_G p.tables e below _ (T12.setTop (mkF m 53 #[.val (.int p1), .val (.int (3 : Int32)), .val (.ref w_BIG_NUMBER), .val (.int (1 : Int32)), .val (.int (1 : Int32))] []))
    refine own_st (fun _ kS => XS.iconst X12.here hx rfl (hb hby at_53) kS) ?_
    show own_G p.tables e below _ (T12.setTop (mkF m 54 #[.val (.int p1), .val (.int (3 : Int32)), .val (.ref w_BIG_NUMBER), .val (.int (1 : Int32)), .val (.int (1 : Int32))] [(.int (1 : Int32))]))
    refine own_st (fun _ kS => XS.goto X12.here hx rfl (pc0 := 54) (pc' := 58) rfl (hb hby at_54) (by decide) (by decide) kS) ?_
    show own_G p.tables e below _ (T12.setTop (mkF m 58 #[.val (.int p1), .val (.int (3 : Int32)), .val (.ref w_BIG_NUMBER), .val (.int (1 : Int32)), .val (.int (1 : Int32))] [(.int (1 : Int32))]))
    exact own_retN X12 hx hlk (t := .boolean) hret (by simp) (hb hby at_58) (by decide) (by decide) (v' := (1 : Int32)) rfl (by rw [eq12]; exact ⟨rfl, N12⟩)
  · rw [hk1]
    show own_G p.tables e below _ (s₁.setTop (mkF m 7 #[.val (.int p1), .unset, .unset, .unset, .unset] [(.int (4 : Int32))]))
    refine own_st (fun _ kS => XS.istoreN X0.here hx rfl (hb hby at_7) rfl (l' := #[.val (.int p1), .val (.int (4 : Int32)), .unset, .unset, .unset]) rfl kS) ?_
    show own_G p.tables e below _ (s₁.setTop (mkF m 8 #[.val (.int p1), .val (.int (4 : Int32)), .unset, .unset, .unset] []))
    refine own_st (fun _ kS => XS.iloadN X0.here hx rfl (hb hby at_8) rfl kS) ?_
    show own_G p.tables e below _ (s₁.setTop (mkF m 9 #[.val (.int p1), .val (.int (4 : Int32)), .unset, .unset, .unset] [(.int (4 : Int32))]))
    obtain ⟨_, _, ⟨T13, L13, k13, n13⟩, -, X13, ⟨Lc13, hQ13, l13, y13, z13⟩, st13⟩ := Jvm.LawKit.callS X0 hx (y := (⟨"com/example/rillworks/rillworks/row/ValueTypeIsNumberPinLaw", "pick", "(I)Lcom/example/rillworks/rillworks/row/ValueType;"⟩ : MethodName)) hown (mvT hZ (hw _ (List.mem_of_getElem? (i := 1) rfl))) (mvT hZ (hw _ (List.mem_of_getElem? (i := 2) rfl))) (mvT hZ (hw _ (List.mem_of_getElem? (i := 3) rfl))) (mvT hZ (hw _ (List.mem_of_getElem? (i := 4) rfl))) (by decide) (backOf (W := 0) (rm_pick4 l Z a0 hw [] w_DATE h0 n0 Z0 O0 S_DATE) hZ (hw _ (List.mem_of_getElem? (i := 4) rfl)) (hw _ (List.mem_of_getElem? (i := 3) rfl)) (by decide) (by decide)) (g := (mkF m 9 #[.val (.int p1), .val (.int (4 : Int32)), .unset, .unset, .unset] [(.int (4 : Int32))])) rfl (by rw [hml]; rfl) (argsL := [(.int (4 : Int32))]) (rest := []) (lenOf own_pd0 rfl) rfl (by show 2 * 0 + _ ≤ _; exact Nat.le_of_eq rfl) (hb hby at_9) (fun _ _ => ⟨rfl, e0, (by decide : 0 + 0 ≤ _), (by decide : 0 + 0 ≤ _)⟩)
    dsimp only [Pt.U, Pt.locs, Pt.cells, Pt.slots] at X13 l13 y13 z13 st13 hQ13
    subst l13 y13 z13
    obtain ⟨rfl, Nq13, eq13⟩ := hQ13
    have N13 := Fr.app N0 Nq13
    refine own_st st13 ?_
    show own_G p.tables e below _ (T13.setTop (mkF m 12 #[.val (.int p1), .val (.int (4 : Int32)), .unset, .unset, .unset] [(.ref w_DATE)]))
    refine own_st (fun _ kS => XS.astoreN X13.here hx rfl (hb hby at_12) rfl rfl (l' := #[.val (.int p1), .val (.int (4 : Int32)), .val (.ref w_DATE), .unset, .unset]) rfl kS) ?_
    show own_G p.tables e below _ (T13.setTop (mkF m 13 #[.val (.int p1), .val (.int (4 : Int32)), .val (.ref w_DATE), .unset, .unset] []))
    refine own_st (fun _ kS => XS.iloadN X13.here hx rfl (hb hby at_13) rfl kS) ?_
    show own_G p.tables e below _ (T13.setTop (mkF m 14 #[.val (.int p1), .val (.int (4 : Int32)), .val (.ref w_DATE), .unset, .unset] [(.int (4 : Int32))]))
    refine own_st (fun _ kS => XS.iconst X13.here hx rfl (hb hby at_14) kS) ?_
    show own_G p.tables e below _ (T13.setTop (mkF m 15 #[.val (.int p1), .val (.int (4 : Int32)), .val (.ref w_DATE), .unset, .unset] [(.int (1 : Int32)), (.int (4 : Int32))]))
    refine own_st (fun _ kS => XS.icmpNo X13.here hx rfl (hb hby at_15) rfl (flt (by decide : ¬ ((4 : Int32) < (1 : Int32)))).1 kS) ?_
    show own_G p.tables e below _ (T13.setTop (mkF m 18 #[.val (.int p1), .val (.int (4 : Int32)), .val (.ref w_DATE), .unset, .unset] []))
    refine own_st (fun _ kS => XS.iloadN X13.here hx rfl (hb hby at_18) rfl kS) ?_
    show own_G p.tables e below _ (T13.setTop (mkF m 19 #[.val (.int p1), .val (.int (4 : Int32)), .val (.ref w_DATE), .unset, .unset] [(.int (4 : Int32))]))
    refine own_st (fun _ kS => XS.iconst X13.here hx rfl (hb hby at_19) kS) ?_
    show own_G p.tables e below _ (T13.setTop (mkF m 20 #[.val (.int p1), .val (.int (4 : Int32)), .val (.ref w_DATE), .unset, .unset] [(.int (3 : Int32)), (.int (4 : Int32))]))
    refine own_st (fun _ kS => XS.icmpYes X13.here hx rfl (pc0 := 20) (pc' := 27) rfl (hb hby at_20) rfl (tlt (by decide : (3 : Int32) < (4 : Int32))).2.2.1 (by decide) (by decide) kS) ?_
    show own_G p.tables e below _ (T13.setTop (mkF m 27 #[.val (.int p1), .val (.int (4 : Int32)), .val (.ref w_DATE), .unset, .unset] []))
    refine own_st (fun _ kS => XS.iconst X13.here hx rfl (hb hby at_27) kS) ?_
    show own_G p.tables e below _ (T13.setTop (mkF m 28 #[.val (.int p1), .val (.int (4 : Int32)), .val (.ref w_DATE), .unset, .unset] [(.int (0 : Int32))]))
    refine own_st (fun _ kS => XS.istoreN X13.here hx rfl (hb hby at_28) rfl (l' := #[.val (.int p1), .val (.int (4 : Int32)), .val (.ref w_DATE), .val (.int (0 : Int32)), .unset]) rfl kS) ?_
    show own_G p.tables e below _ (T13.setTop (mkF m 29 #[.val (.int p1), .val (.int (4 : Int32)), .val (.ref w_DATE), .val (.int (0 : Int32)), .unset] []))
    refine own_st (fun _ kS => XS.aloadN X13.here hx rfl (hb hby at_29) rfl rfl kS) ?_
    show own_G p.tables e below _ (T13.setTop (mkF m 30 #[.val (.int p1), .val (.int (4 : Int32)), .val (.ref w_DATE), .val (.int (0 : Int32)), .unset] [(.ref w_DATE)]))
    obtain ⟨cq14, kq14, q14a, q14b, q14c⟩ := isOf hZ eq13 (Exa.ext O0.2 E_DATE)
    obtain ⟨_, _, ⟨T14, L14, k14, n14⟩, -, X14, ⟨Lc14, hQ14, l14, y14, z14⟩, st14⟩ := X13.virtualBack hx (y := (⟨"com/example/rillworks/rillworks/row/ValueType", "isNumber", "()Z"⟩ : MethodName)) (z := (⟨"com/example/rillworks/rillworks/row/ValueType", "isNumber", "()Z"⟩ : MethodName)) hown (mvT hZ (hw _ (List.mem_of_getElem? (i := 8) rfl))) (mvT hZ (hw _ (List.mem_of_getElem? (i := 9) rfl))) (notFace_of_selects (args := #[]) (mvT hZ (hw _ (List.mem_of_getElem? (i := 36) rfl)))) (mvT hZ (hw _ (List.mem_of_getElem? (i := 36) rfl))) (mvT hZ (hw _ (List.mem_of_getElem? (i := 10) rfl))) (by decide) (backOf (W := 0) (rm_isNumber_DATE l Z a0 hw [] w_DATE w_INTEGER w_NUMBER w_BIG_NUMBER h0 n0 Z0 O0 S_INTEGER S_NUMBER S_BIG_NUMBER ne_DATE_INTEGER ne_DATE_NUMBER ne_DATE_BIG_NUMBER) hZ (hw _ (List.mem_of_getElem? (i := 12) rfl)) (hw _ (List.mem_of_getElem? (i := 6) rfl)) (by decide) (by decide)) q14a q14c (g := (mkF m 30 #[.val (.int p1), .val (.int (4 : Int32)), .val (.ref w_DATE), .val (.int (0 : Int32)), .unset] [(.ref w_DATE)])) rfl (by rw [hml]; rfl) (Steps.refl _) (argsL := []) (rest := []) (lenOf own_pd1 rfl) rfl (by show 2 * 0 + _ ≤ _; exact Nat.le_of_eq rfl) (hb hby at_30) (fun _ _ => ⟨rfl, eq13, (by decide : 0 + 0 ≤ _), (by decide : 0 + 0 ≤ _)⟩)
    dsimp only [Pt.U, Pt.locs, Pt.cells, Pt.slots] at X14 l14 y14 z14 st14 hQ14
    subst l14 y14 z14
    obtain ⟨rfl, Nq14, eq14⟩ := hQ14
    have N14 := Fr.app N13 Nq14
    refine own_tr st14 ?_
    show own_G p.tables e below _ (T14.setTop (mkF m 33 #[.val (.int p1), .val (.int (4 : Int32)), .val (.ref w_DATE), .val (.int (0 : Int32)), .unset] [(.int (0 : Int32))]))
    refine own_st (fun _ kS => XS.istore X14.here hx rfl (hb hby at_33) rfl (l' := #[.val (.int p1), .val (.int (4 : Int32)), .val (.ref w_DATE), .val (.int (0 : Int32)), .val (.int (0 : Int32))]) rfl kS) ?_
    show own_G p.tables e below _ (T14.setTop (mkF m 35 #[.val (.int p1), .val (.int (4 : Int32)), .val (.ref w_DATE), .val (.int (0 : Int32)), .val (.int (0 : Int32))] []))
    refine own_st (fun _ kS => XS.iload X14.here hx rfl (hb hby at_35) rfl kS) ?_
    show own_G p.tables e below _ (T14.setTop (mkF m 37 #[.val (.int p1), .val (.int (4 : Int32)), .val (.ref w_DATE), .val (.int (0 : Int32)), .val (.int (0 : Int32))] [(.int (0 : Int32))]))
    refine own_st (fun _ kS => XS.iloadN X14.here hx rfl (hb hby at_37) rfl kS) ?_
    show own_G p.tables e below _ (T14.setTop (mkF m 38 #[.val (.int p1), .val (.int (4 : Int32)), .val (.ref w_DATE), .val (.int (0 : Int32)), .val (.int (0 : Int32))] [(.int (0 : Int32)), (.int (0 : Int32))]))
    refine own_st (fun _ kS => XS.icmpNo X14.here hx rfl (hb hby at_38) rfl (teq (by decide : (0 : Int32) = (0 : Int32))).2 kS) ?_
    show own_G p.tables e below _ (T14.setTop (mkF m 41 #[.val (.int p1), .val (.int (4 : Int32)), .val (.ref w_DATE), .val (.int (0 : Int32)), .val (.int (0 : Int32))] []))
    refine own_st (fun _ kS => XS.iload X14.here hx rfl (hb hby at_41) rfl kS) ?_
    show own_G p.tables e below _ (T14.setTop (mkF m 43 #[.val (.int p1), .val (.int (4 : Int32)), .val (.ref w_DATE), .val (.int (0 : Int32)), .val (.int (0 : Int32))] [(.int (0 : Int32))]))
    refine own_st (fun _ kS => XS.ifYes X14.here hx rfl (pc0 := 43) (pc' := 53) rfl (hb hby at_43) rfl ((if0 _ _).trans (teq (by decide : (0 : Int32) = (0 : Int32))).1) (by decide) (by decide) kS) ?_
    show own_G p.tables e below _ (T14.setTop (mkF m 53 #[.val (.int p1), .val (.int (4 : Int32)), .val (.ref w_DATE), .val (.int (0 : Int32)), .val (.int (0 : Int32))] []))
    refine own_st (fun _ kS => XS.iconst X14.here hx rfl (hb hby at_53) kS) ?_
    show own_G p.tables e below _ (T14.setTop (mkF m 54 #[.val (.int p1), .val (.int (4 : Int32)), .val (.ref w_DATE), .val (.int (0 : Int32)), .val (.int (0 : Int32))] [(.int (1 : Int32))]))
    refine own_st (fun _ kS => XS.goto X14.here hx rfl (pc0 := 54) (pc' := 58) rfl (hb hby at_54) (by decide) (by decide) kS) ?_
    show own_G p.tables e below _ (T14.setTop (mkF m 58 #[.val (.int p1), .val (.int (4 : Int32)), .val (.ref w_DATE), .val (.int (0 : Int32)), .val (.int (0 : Int32))] [(.int (1 : Int32))]))
    exact own_retN X14 hx hlk (t := .boolean) hret (by simp) (hb hby at_58) (by decide) (by decide) (v' := (1 : Int32)) rfl (by rw [eq14]; exact ⟨rfl, N14⟩)
  · rw [hk1]
    show own_G p.tables e below _ (s₁.setTop (mkF m 7 #[.val (.int p1), .unset, .unset, .unset, .unset] [(.int (5 : Int32))]))
    refine own_st (fun _ kS => XS.istoreN X0.here hx rfl (hb hby at_7) rfl (l' := #[.val (.int p1), .val (.int (5 : Int32)), .unset, .unset, .unset]) rfl kS) ?_
    show own_G p.tables e below _ (s₁.setTop (mkF m 8 #[.val (.int p1), .val (.int (5 : Int32)), .unset, .unset, .unset] []))
    refine own_st (fun _ kS => XS.iloadN X0.here hx rfl (hb hby at_8) rfl kS) ?_
    show own_G p.tables e below _ (s₁.setTop (mkF m 9 #[.val (.int p1), .val (.int (5 : Int32)), .unset, .unset, .unset] [(.int (5 : Int32))]))
    obtain ⟨_, _, ⟨T15, L15, k15, n15⟩, -, X15, ⟨Lc15, hQ15, l15, y15, z15⟩, st15⟩ := Jvm.LawKit.callS X0 hx (y := (⟨"com/example/rillworks/rillworks/row/ValueTypeIsNumberPinLaw", "pick", "(I)Lcom/example/rillworks/rillworks/row/ValueType;"⟩ : MethodName)) hown (mvT hZ (hw _ (List.mem_of_getElem? (i := 1) rfl))) (mvT hZ (hw _ (List.mem_of_getElem? (i := 2) rfl))) (mvT hZ (hw _ (List.mem_of_getElem? (i := 3) rfl))) (mvT hZ (hw _ (List.mem_of_getElem? (i := 4) rfl))) (by decide) (backOf (W := 0) (rm_pick5 l Z a0 hw [] w_TIMESTAMP h0 n0 Z0 O0 S_TIMESTAMP) hZ (hw _ (List.mem_of_getElem? (i := 4) rfl)) (hw _ (List.mem_of_getElem? (i := 3) rfl)) (by decide) (by decide)) (g := (mkF m 9 #[.val (.int p1), .val (.int (5 : Int32)), .unset, .unset, .unset] [(.int (5 : Int32))])) rfl (by rw [hml]; rfl) (argsL := [(.int (5 : Int32))]) (rest := []) (lenOf own_pd0 rfl) rfl (by show 2 * 0 + _ ≤ _; exact Nat.le_of_eq rfl) (hb hby at_9) (fun _ _ => ⟨rfl, e0, (by decide : 0 + 0 ≤ _), (by decide : 0 + 0 ≤ _)⟩)
    dsimp only [Pt.U, Pt.locs, Pt.cells, Pt.slots] at X15 l15 y15 z15 st15 hQ15
    subst l15 y15 z15
    obtain ⟨rfl, Nq15, eq15⟩ := hQ15
    have N15 := Fr.app N0 Nq15
    refine own_st st15 ?_
    show own_G p.tables e below _ (T15.setTop (mkF m 12 #[.val (.int p1), .val (.int (5 : Int32)), .unset, .unset, .unset] [(.ref w_TIMESTAMP)]))
    refine own_st (fun _ kS => XS.astoreN X15.here hx rfl (hb hby at_12) rfl rfl (l' := #[.val (.int p1), .val (.int (5 : Int32)), .val (.ref w_TIMESTAMP), .unset, .unset]) rfl kS) ?_
    show own_G p.tables e below _ (T15.setTop (mkF m 13 #[.val (.int p1), .val (.int (5 : Int32)), .val (.ref w_TIMESTAMP), .unset, .unset] []))
    refine own_st (fun _ kS => XS.iloadN X15.here hx rfl (hb hby at_13) rfl kS) ?_
    show own_G p.tables e below _ (T15.setTop (mkF m 14 #[.val (.int p1), .val (.int (5 : Int32)), .val (.ref w_TIMESTAMP), .unset, .unset] [(.int (5 : Int32))]))
    refine own_st (fun _ kS => XS.iconst X15.here hx rfl (hb hby at_14) kS) ?_
    show own_G p.tables e below _ (T15.setTop (mkF m 15 #[.val (.int p1), .val (.int (5 : Int32)), .val (.ref w_TIMESTAMP), .unset, .unset] [(.int (1 : Int32)), (.int (5 : Int32))]))
    refine own_st (fun _ kS => XS.icmpNo X15.here hx rfl (hb hby at_15) rfl (flt (by decide : ¬ ((5 : Int32) < (1 : Int32)))).1 kS) ?_
    show own_G p.tables e below _ (T15.setTop (mkF m 18 #[.val (.int p1), .val (.int (5 : Int32)), .val (.ref w_TIMESTAMP), .unset, .unset] []))
    refine own_st (fun _ kS => XS.iloadN X15.here hx rfl (hb hby at_18) rfl kS) ?_
    show own_G p.tables e below _ (T15.setTop (mkF m 19 #[.val (.int p1), .val (.int (5 : Int32)), .val (.ref w_TIMESTAMP), .unset, .unset] [(.int (5 : Int32))]))
    refine own_st (fun _ kS => XS.iconst X15.here hx rfl (hb hby at_19) kS) ?_
    show own_G p.tables e below _ (T15.setTop (mkF m 20 #[.val (.int p1), .val (.int (5 : Int32)), .val (.ref w_TIMESTAMP), .unset, .unset] [(.int (3 : Int32)), (.int (5 : Int32))]))
    refine own_st (fun _ kS => XS.icmpYes X15.here hx rfl (pc0 := 20) (pc' := 27) rfl (hb hby at_20) rfl (tlt (by decide : (3 : Int32) < (5 : Int32))).2.2.1 (by decide) (by decide) kS) ?_
    show own_G p.tables e below _ (T15.setTop (mkF m 27 #[.val (.int p1), .val (.int (5 : Int32)), .val (.ref w_TIMESTAMP), .unset, .unset] []))
    refine own_st (fun _ kS => XS.iconst X15.here hx rfl (hb hby at_27) kS) ?_
    show own_G p.tables e below _ (T15.setTop (mkF m 28 #[.val (.int p1), .val (.int (5 : Int32)), .val (.ref w_TIMESTAMP), .unset, .unset] [(.int (0 : Int32))]))
    refine own_st (fun _ kS => XS.istoreN X15.here hx rfl (hb hby at_28) rfl (l' := #[.val (.int p1), .val (.int (5 : Int32)), .val (.ref w_TIMESTAMP), .val (.int (0 : Int32)), .unset]) rfl kS) ?_
    show own_G p.tables e below _ (T15.setTop (mkF m 29 #[.val (.int p1), .val (.int (5 : Int32)), .val (.ref w_TIMESTAMP), .val (.int (0 : Int32)), .unset] []))
    refine own_st (fun _ kS => XS.aloadN X15.here hx rfl (hb hby at_29) rfl rfl kS) ?_
    show own_G p.tables e below _ (T15.setTop (mkF m 30 #[.val (.int p1), .val (.int (5 : Int32)), .val (.ref w_TIMESTAMP), .val (.int (0 : Int32)), .unset] [(.ref w_TIMESTAMP)]))
    obtain ⟨cq16, kq16, q16a, q16b, q16c⟩ := isOf hZ eq15 (Exa.ext O0.2 E_TIMESTAMP)
    obtain ⟨_, _, ⟨T16, L16, k16, n16⟩, -, X16, ⟨Lc16, hQ16, l16, y16, z16⟩, st16⟩ := X15.virtualBack hx (y := (⟨"com/example/rillworks/rillworks/row/ValueType", "isNumber", "()Z"⟩ : MethodName)) (z := (⟨"com/example/rillworks/rillworks/row/ValueType", "isNumber", "()Z"⟩ : MethodName)) hown (mvT hZ (hw _ (List.mem_of_getElem? (i := 8) rfl))) (mvT hZ (hw _ (List.mem_of_getElem? (i := 9) rfl))) (notFace_of_selects (args := #[]) (mvT hZ (hw _ (List.mem_of_getElem? (i := 31) rfl)))) (mvT hZ (hw _ (List.mem_of_getElem? (i := 31) rfl))) (mvT hZ (hw _ (List.mem_of_getElem? (i := 10) rfl))) (by decide) (backOf (W := 0) (rm_isNumber_TIMESTAMP l Z a0 hw [] w_TIMESTAMP w_INTEGER w_NUMBER w_BIG_NUMBER h0 n0 Z0 O0 S_INTEGER S_NUMBER S_BIG_NUMBER ne_TIMESTAMP_INTEGER ne_TIMESTAMP_NUMBER ne_TIMESTAMP_BIG_NUMBER) hZ (hw _ (List.mem_of_getElem? (i := 12) rfl)) (hw _ (List.mem_of_getElem? (i := 6) rfl)) (by decide) (by decide)) q16a q16c (g := (mkF m 30 #[.val (.int p1), .val (.int (5 : Int32)), .val (.ref w_TIMESTAMP), .val (.int (0 : Int32)), .unset] [(.ref w_TIMESTAMP)])) rfl (by rw [hml]; rfl) (Steps.refl _) (argsL := []) (rest := []) (lenOf own_pd1 rfl) rfl (by show 2 * 0 + _ ≤ _; exact Nat.le_of_eq rfl) (hb hby at_30) (fun _ _ => ⟨rfl, eq15, (by decide : 0 + 0 ≤ _), (by decide : 0 + 0 ≤ _)⟩)
    dsimp only [Pt.U, Pt.locs, Pt.cells, Pt.slots] at X16 l16 y16 z16 st16 hQ16
    subst l16 y16 z16
    obtain ⟨rfl, Nq16, eq16⟩ := hQ16
    have N16 := Fr.app N15 Nq16
    refine own_tr st16 ?_
    show own_G p.tables e below _ (T16.setTop (mkF m 33 #[.val (.int p1), .val (.int (5 : Int32)), .val (.ref w_TIMESTAMP), .val (.int (0 : Int32)), .unset] [(.int (0 : Int32))]))
    refine own_st (fun _ kS => XS.istore X16.here hx rfl (hb hby at_33) rfl (l' := #[.val (.int p1), .val (.int (5 : Int32)), .val (.ref w_TIMESTAMP), .val (.int (0 : Int32)), .val (.int (0 : Int32))]) rfl kS) ?_
    show own_G p.tables e below _ (T16.setTop (mkF m 35 #[.val (.int p1), .val (.int (5 : Int32)), .val (.ref w_TIMESTAMP), .val (.int (0 : Int32)), .val (.int (0 : Int32))] []))
    refine own_st (fun _ kS => XS.iload X16.here hx rfl (hb hby at_35) rfl kS) ?_
    show own_G p.tables e below _ (T16.setTop (mkF m 37 #[.val (.int p1), .val (.int (5 : Int32)), .val (.ref w_TIMESTAMP), .val (.int (0 : Int32)), .val (.int (0 : Int32))] [(.int (0 : Int32))]))
    refine own_st (fun _ kS => XS.iloadN X16.here hx rfl (hb hby at_37) rfl kS) ?_
    show own_G p.tables e below _ (T16.setTop (mkF m 38 #[.val (.int p1), .val (.int (5 : Int32)), .val (.ref w_TIMESTAMP), .val (.int (0 : Int32)), .val (.int (0 : Int32))] [(.int (0 : Int32)), (.int (0 : Int32))]))
    refine own_st (fun _ kS => XS.icmpNo X16.here hx rfl (hb hby at_38) rfl (teq (by decide : (0 : Int32) = (0 : Int32))).2 kS) ?_
    show own_G p.tables e below _ (T16.setTop (mkF m 41 #[.val (.int p1), .val (.int (5 : Int32)), .val (.ref w_TIMESTAMP), .val (.int (0 : Int32)), .val (.int (0 : Int32))] []))
    refine own_st (fun _ kS => XS.iload X16.here hx rfl (hb hby at_41) rfl kS) ?_
    show own_G p.tables e below _ (T16.setTop (mkF m 43 #[.val (.int p1), .val (.int (5 : Int32)), .val (.ref w_TIMESTAMP), .val (.int (0 : Int32)), .val (.int (0 : Int32))] [(.int (0 : Int32))]))
    refine own_st (fun _ kS => XS.ifYes X16.here hx rfl (pc0 := 43) (pc' := 53) rfl (hb hby at_43) rfl ((if0 _ _).trans (teq (by decide : (0 : Int32) = (0 : Int32))).1) (by decide) (by decide) kS) ?_
    show own_G p.tables e below _ (T16.setTop (mkF m 53 #[.val (.int p1), .val (.int (5 : Int32)), .val (.ref w_TIMESTAMP), .val (.int (0 : Int32)), .val (.int (0 : Int32))] []))
    refine own_st (fun _ kS => XS.iconst X16.here hx rfl (hb hby at_53) kS) ?_
    show own_G p.tables e below _ (T16.setTop (mkF m 54 #[.val (.int p1), .val (.int (5 : Int32)), .val (.ref w_TIMESTAMP), .val (.int (0 : Int32)), .val (.int (0 : Int32))] [(.int (1 : Int32))]))
    refine own_st (fun _ kS => XS.goto X16.here hx rfl (pc0 := 54) (pc' := 58) rfl (hb hby at_54) (by decide) (by decide) kS) ?_
    show own_G p.tables e below _ (T16.setTop (mkF m 58 #[.val (.int p1), .val (.int (5 : Int32)), .val (.ref w_TIMESTAMP), .val (.int (0 : Int32)), .val (.int (0 : Int32))] [(.int (1 : Int32))]))
    exact own_retN X16 hx hlk (t := .boolean) hret (by simp) (hb hby at_58) (by decide) (by decide) (v' := (1 : Int32)) rfl (by rw [eq16]; exact ⟨rfl, N16⟩)
  · rw [hk1]
    show own_G p.tables e below _ (s₁.setTop (mkF m 7 #[.val (.int p1), .unset, .unset, .unset, .unset] [(.int (6 : Int32))]))
    refine own_st (fun _ kS => XS.istoreN X0.here hx rfl (hb hby at_7) rfl (l' := #[.val (.int p1), .val (.int (6 : Int32)), .unset, .unset, .unset]) rfl kS) ?_
    show own_G p.tables e below _ (s₁.setTop (mkF m 8 #[.val (.int p1), .val (.int (6 : Int32)), .unset, .unset, .unset] []))
    refine own_st (fun _ kS => XS.iloadN X0.here hx rfl (hb hby at_8) rfl kS) ?_
    show own_G p.tables e below _ (s₁.setTop (mkF m 9 #[.val (.int p1), .val (.int (6 : Int32)), .unset, .unset, .unset] [(.int (6 : Int32))]))
    obtain ⟨_, _, ⟨T17, L17, k17, n17⟩, -, X17, ⟨Lc17, hQ17, l17, y17, z17⟩, st17⟩ := Jvm.LawKit.callS X0 hx (y := (⟨"com/example/rillworks/rillworks/row/ValueTypeIsNumberPinLaw", "pick", "(I)Lcom/example/rillworks/rillworks/row/ValueType;"⟩ : MethodName)) hown (mvT hZ (hw _ (List.mem_of_getElem? (i := 1) rfl))) (mvT hZ (hw _ (List.mem_of_getElem? (i := 2) rfl))) (mvT hZ (hw _ (List.mem_of_getElem? (i := 3) rfl))) (mvT hZ (hw _ (List.mem_of_getElem? (i := 4) rfl))) (by decide) (backOf (W := 0) (rm_pick6 l Z a0 hw [] w_BOOLEAN h0 n0 Z0 O0 S_BOOLEAN) hZ (hw _ (List.mem_of_getElem? (i := 4) rfl)) (hw _ (List.mem_of_getElem? (i := 3) rfl)) (by decide) (by decide)) (g := (mkF m 9 #[.val (.int p1), .val (.int (6 : Int32)), .unset, .unset, .unset] [(.int (6 : Int32))])) rfl (by rw [hml]; rfl) (argsL := [(.int (6 : Int32))]) (rest := []) (lenOf own_pd0 rfl) rfl (by show 2 * 0 + _ ≤ _; exact Nat.le_of_eq rfl) (hb hby at_9) (fun _ _ => ⟨rfl, e0, (by decide : 0 + 0 ≤ _), (by decide : 0 + 0 ≤ _)⟩)
    dsimp only [Pt.U, Pt.locs, Pt.cells, Pt.slots] at X17 l17 y17 z17 st17 hQ17
    subst l17 y17 z17
    obtain ⟨rfl, Nq17, eq17⟩ := hQ17
    have N17 := Fr.app N0 Nq17
    refine own_st st17 ?_
    show own_G p.tables e below _ (T17.setTop (mkF m 12 #[.val (.int p1), .val (.int (6 : Int32)), .unset, .unset, .unset] [(.ref w_BOOLEAN)]))
    refine own_st (fun _ kS => XS.astoreN X17.here hx rfl (hb hby at_12) rfl rfl (l' := #[.val (.int p1), .val (.int (6 : Int32)), .val (.ref w_BOOLEAN), .unset, .unset]) rfl kS) ?_
    show own_G p.tables e below _ (T17.setTop (mkF m 13 #[.val (.int p1), .val (.int (6 : Int32)), .val (.ref w_BOOLEAN), .unset, .unset] []))
    refine own_st (fun _ kS => XS.iloadN X17.here hx rfl (hb hby at_13) rfl kS) ?_
    show own_G p.tables e below _ (T17.setTop (mkF m 14 #[.val (.int p1), .val (.int (6 : Int32)), .val (.ref w_BOOLEAN), .unset, .unset] [(.int (6 : Int32))]))
    refine own_st (fun _ kS => XS.iconst X17.here hx rfl (hb hby at_14) kS) ?_
    show own_G p.tables e below _ (T17.setTop (mkF m 15 #[.val (.int p1), .val (.int (6 : Int32)), .val (.ref w_BOOLEAN), .unset, .unset] [(.int (1 : Int32)), (.int (6 : Int32))]))
    refine own_st (fun _ kS => XS.icmpNo X17.here hx rfl (hb hby at_15) rfl (flt (by decide : ¬ ((6 : Int32) < (1 : Int32)))).1 kS) ?_
    show own_G p.tables e below _ (T17.setTop (mkF m 18 #[.val (.int p1), .val (.int (6 : Int32)), .val (.ref w_BOOLEAN), .unset, .unset] []))
    refine own_st (fun _ kS => XS.iloadN X17.here hx rfl (hb hby at_18) rfl kS) ?_
    show own_G p.tables e below _ (T17.setTop (mkF m 19 #[.val (.int p1), .val (.int (6 : Int32)), .val (.ref w_BOOLEAN), .unset, .unset] [(.int (6 : Int32))]))
    refine own_st (fun _ kS => XS.iconst X17.here hx rfl (hb hby at_19) kS) ?_
    show own_G p.tables e below _ (T17.setTop (mkF m 20 #[.val (.int p1), .val (.int (6 : Int32)), .val (.ref w_BOOLEAN), .unset, .unset] [(.int (3 : Int32)), (.int (6 : Int32))]))
    refine own_st (fun _ kS => XS.icmpYes X17.here hx rfl (pc0 := 20) (pc' := 27) rfl (hb hby at_20) rfl (tlt (by decide : (3 : Int32) < (6 : Int32))).2.2.1 (by decide) (by decide) kS) ?_
    show own_G p.tables e below _ (T17.setTop (mkF m 27 #[.val (.int p1), .val (.int (6 : Int32)), .val (.ref w_BOOLEAN), .unset, .unset] []))
    refine own_st (fun _ kS => XS.iconst X17.here hx rfl (hb hby at_27) kS) ?_
    show own_G p.tables e below _ (T17.setTop (mkF m 28 #[.val (.int p1), .val (.int (6 : Int32)), .val (.ref w_BOOLEAN), .unset, .unset] [(.int (0 : Int32))]))
    refine own_st (fun _ kS => XS.istoreN X17.here hx rfl (hb hby at_28) rfl (l' := #[.val (.int p1), .val (.int (6 : Int32)), .val (.ref w_BOOLEAN), .val (.int (0 : Int32)), .unset]) rfl kS) ?_
    show own_G p.tables e below _ (T17.setTop (mkF m 29 #[.val (.int p1), .val (.int (6 : Int32)), .val (.ref w_BOOLEAN), .val (.int (0 : Int32)), .unset] []))
    refine own_st (fun _ kS => XS.aloadN X17.here hx rfl (hb hby at_29) rfl rfl kS) ?_
    show own_G p.tables e below _ (T17.setTop (mkF m 30 #[.val (.int p1), .val (.int (6 : Int32)), .val (.ref w_BOOLEAN), .val (.int (0 : Int32)), .unset] [(.ref w_BOOLEAN)]))
    obtain ⟨cq18, kq18, q18a, q18b, q18c⟩ := isOf hZ eq17 (Exa.ext O0.2 E_BOOLEAN)
    obtain ⟨_, _, ⟨T18, L18, k18, n18⟩, -, X18, ⟨Lc18, hQ18, l18, y18, z18⟩, st18⟩ := X17.virtualBack hx (y := (⟨"com/example/rillworks/rillworks/row/ValueType", "isNumber", "()Z"⟩ : MethodName)) (z := (⟨"com/example/rillworks/rillworks/row/ValueType", "isNumber", "()Z"⟩ : MethodName)) hown (mvT hZ (hw _ (List.mem_of_getElem? (i := 8) rfl))) (mvT hZ (hw _ (List.mem_of_getElem? (i := 9) rfl))) (notFace_of_selects (args := #[]) (mvT hZ (hw _ (List.mem_of_getElem? (i := 34) rfl)))) (mvT hZ (hw _ (List.mem_of_getElem? (i := 34) rfl))) (mvT hZ (hw _ (List.mem_of_getElem? (i := 10) rfl))) (by decide) (backOf (W := 0) (rm_isNumber_BOOLEAN l Z a0 hw [] w_BOOLEAN w_INTEGER w_NUMBER w_BIG_NUMBER h0 n0 Z0 O0 S_INTEGER S_NUMBER S_BIG_NUMBER ne_BOOLEAN_INTEGER ne_BOOLEAN_NUMBER ne_BOOLEAN_BIG_NUMBER) hZ (hw _ (List.mem_of_getElem? (i := 12) rfl)) (hw _ (List.mem_of_getElem? (i := 6) rfl)) (by decide) (by decide)) q18a q18c (g := (mkF m 30 #[.val (.int p1), .val (.int (6 : Int32)), .val (.ref w_BOOLEAN), .val (.int (0 : Int32)), .unset] [(.ref w_BOOLEAN)])) rfl (by rw [hml]; rfl) (Steps.refl _) (argsL := []) (rest := []) (lenOf own_pd1 rfl) rfl (by show 2 * 0 + _ ≤ _; exact Nat.le_of_eq rfl) (hb hby at_30) (fun _ _ => ⟨rfl, eq17, (by decide : 0 + 0 ≤ _), (by decide : 0 + 0 ≤ _)⟩)
    dsimp only [Pt.U, Pt.locs, Pt.cells, Pt.slots] at X18 l18 y18 z18 st18 hQ18
    subst l18 y18 z18
    obtain ⟨rfl, Nq18, eq18⟩ := hQ18
    have N18 := Fr.app N17 Nq18
    refine own_tr st18 ?_
    show own_G p.tables e below _ (T18.setTop (mkF m 33 #[.val (.int p1), .val (.int (6 : Int32)), .val (.ref w_BOOLEAN), .val (.int (0 : Int32)), .unset] [(.int (0 : Int32))]))
    refine own_st (fun _ kS => XS.istore X18.here hx rfl (hb hby at_33) rfl (l' := #[.val (.int p1), .val (.int (6 : Int32)), .val (.ref w_BOOLEAN), .val (.int (0 : Int32)), .val (.int (0 : Int32))]) rfl kS) ?_
    show own_G p.tables e below _ (T18.setTop (mkF m 35 #[.val (.int p1), .val (.int (6 : Int32)), .val (.ref w_BOOLEAN), .val (.int (0 : Int32)), .val (.int (0 : Int32))] []))
    refine own_st (fun _ kS => XS.iload X18.here hx rfl (hb hby at_35) rfl kS) ?_
    show own_G p.tables e below _ (T18.setTop (mkF m 37 #[.val (.int p1), .val (.int (6 : Int32)), .val (.ref w_BOOLEAN), .val (.int (0 : Int32)), .val (.int (0 : Int32))] [(.int (0 : Int32))]))
    refine own_st (fun _ kS => XS.iloadN X18.here hx rfl (hb hby at_37) rfl kS) ?_
    show own_G p.tables e below _ (T18.setTop (mkF m 38 #[.val (.int p1), .val (.int (6 : Int32)), .val (.ref w_BOOLEAN), .val (.int (0 : Int32)), .val (.int (0 : Int32))] [(.int (0 : Int32)), (.int (0 : Int32))]))
    refine own_st (fun _ kS => XS.icmpNo X18.here hx rfl (hb hby at_38) rfl (teq (by decide : (0 : Int32) = (0 : Int32))).2 kS) ?_
    show own_G p.tables e below _ (T18.setTop (mkF m 41 #[.val (.int p1), .val (.int (6 : Int32)), .val (.ref w_BOOLEAN), .val (.int (0 : Int32)), .val (.int (0 : Int32))] []))
    refine own_st (fun _ kS => XS.iload X18.here hx rfl (hb hby at_41) rfl kS) ?_
    show own_G p.tables e below _ (T18.setTop (mkF m 43 #[.val (.int p1), .val (.int (6 : Int32)), .val (.ref w_BOOLEAN), .val (.int (0 : Int32)), .val (.int (0 : Int32))] [(.int (0 : Int32))]))
    refine own_st (fun _ kS => XS.ifYes X18.here hx rfl (pc0 := 43) (pc' := 53) rfl (hb hby at_43) rfl ((if0 _ _).trans (teq (by decide : (0 : Int32) = (0 : Int32))).1) (by decide) (by decide) kS) ?_
    show own_G p.tables e below _ (T18.setTop (mkF m 53 #[.val (.int p1), .val (.int (6 : Int32)), .val (.ref w_BOOLEAN), .val (.int (0 : Int32)), .val (.int (0 : Int32))] []))
    refine own_st (fun _ kS => XS.iconst X18.here hx rfl (hb hby at_53) kS) ?_
    show own_G p.tables e below _ (T18.setTop (mkF m 54 #[.val (.int p1), .val (.int (6 : Int32)), .val (.ref w_BOOLEAN), .val (.int (0 : Int32)), .val (.int (0 : Int32))] [(.int (1 : Int32))]))
    refine own_st (fun _ kS => XS.goto X18.here hx rfl (pc0 := 54) (pc' := 58) rfl (hb hby at_54) (by decide) (by decide) kS) ?_
    show own_G p.tables e below _ (T18.setTop (mkF m 58 #[.val (.int p1), .val (.int (6 : Int32)), .val (.ref w_BOOLEAN), .val (.int (0 : Int32)), .val (.int (0 : Int32))] [(.int (1 : Int32))]))
    exact own_retN X18 hx hlk (t := .boolean) hret (by simp) (hb hby at_58) (by decide) (by decide) (v' := (1 : Int32)) rfl (by rw [eq18]; exact ⟨rfl, N18⟩)
set_option maxRecDepth 65536 in
set_option maxHeartbeats 40000000 in
theorem comes_1 {Post : Tables → Env → Array Value → State → Outcome → State → Prop} (hpost : ∀ tb e args s v u, (limb_1_1.after args s (.returned v) u = true ∧ limb_1_2.after args s (.returned v) u = true ∧ True) → FrameEnd s (.returned v) u (Jvm.fieldLocs frame_1_writes args s ++ Jvm.arrayLocs frame_1_arrays args s ++ Jvm.staticLocs frame_1_statics s) 0 0 → Post tb e args s (.returned v) u) :
    ArmFor flags0 classFile x code maxLocals ret World_1 tables_1 room_1 Calls_1 rest_1 Pre_1 Post := by
  intro l hfl _ _ p e ha hc hk s m args below hf hA hF happ hP
  obtain ⟨hcalls, hrest, hpre⟩ := hP
  obtain ⟨-, -, -, hnamed, -, -, -, hat⟩ := (Spec.applies_iff hf).mp happ
  obtain ⟨hg, hn⟩ := and_e (Cond.before_iff.mp (show (Jvm.Cond.and given_1 narrow_1).before args s = true from hpre))
  obtain ⟨g1a, g1b⟩ := and_e hg
  obtain ⟨w0, rfl⟩ : ∃ w0 : Value, args = #[w0] := by
    have hs : args.size = 1 := by simpa [Cond.value, given_1] using g1a
    obtain ⟨L⟩ := args
    match L, hs with
    | [w0], _ => exact ⟨w0, rfl⟩
  have hw := fun d (hd : d ∈ tables_1) => atoms_spec (ws := Jvm.Cond.code x code maxLocals ret :: tables_1) hat d (List.mem_cons_of_mem _ hd)
  have hfit : Fit s := fun {y c} hc i hi => by
    obtain ⟨ha, rfl⟩ := Array.getElem?_eq_some_iff.mp hc
    have q := List.all_eq_true.mp ((Array.all_eq_true_iff_forall_mem.mp hF) _ (Array.getElem_mem ha)) i (List.mem_range.mpr hi)
    simpa [Array.getElem?_eq_getElem hi] using q
  obtain ⟨i0, ei0⟩ := is_v g1b
  obtain rfl : w0 = (.int i0) := Option.some.inj ei0
  obtain ⟨g2a, g2b⟩ := and_e hn
  obtain ⟨g3a, g3b⟩ := and_e g2b
  obtain ⟨g4a, g4b⟩ := and_e g3b
  obtain ⟨g5a, g5b⟩ := and_e g4b
  obtain ⟨g6a, g6b⟩ := and_e g5b
  obtain ⟨g7a, g7b⟩ := and_e g6b
  obtain ⟨w_STRING, v_STRING⟩ := exa_v g2a
  have E_STRING := Exa.start v_STRING g2a
  have S_STRING := Sta.start v_STRING (Or.inr ⟨(hw _ (List.mem_of_getElem? (i := 6) rfl)), (hw _ (List.mem_of_getElem? (i := 7) rfl))⟩)
  obtain ⟨w_INTEGER, v_INTEGER⟩ := exa_v g3a
  have E_INTEGER := Exa.start v_INTEGER g3a
  have S_INTEGER := Sta.start v_INTEGER (Or.inr ⟨(hw _ (List.mem_of_getElem? (i := 6) rfl)), (hw _ (List.mem_of_getElem? (i := 14) rfl))⟩)
  obtain ⟨w_NUMBER, v_NUMBER⟩ := exa_v g4a
  have E_NUMBER := Exa.start v_NUMBER g4a
  have S_NUMBER := Sta.start v_NUMBER (Or.inr ⟨(hw _ (List.mem_of_getElem? (i := 6) rfl)), (hw _ (List.mem_of_getElem? (i := 16) rfl))⟩)
  obtain ⟨w_BIG_NUMBER, v_BIG_NUMBER⟩ := exa_v g5a
  have E_BIG_NUMBER := Exa.start v_BIG_NUMBER g5a
  have S_BIG_NUMBER := Sta.start v_BIG_NUMBER (Or.inr ⟨(hw _ (List.mem_of_getElem? (i := 6) rfl)), (hw _ (List.mem_of_getElem? (i := 18) rfl))⟩)
  obtain ⟨w_DATE, v_DATE⟩ := exa_v g6a
  have E_DATE := Exa.start v_DATE g6a
  have S_DATE := Sta.start v_DATE (Or.inr ⟨(hw _ (List.mem_of_getElem? (i := 6) rfl)), (hw _ (List.mem_of_getElem? (i := 27) rfl))⟩)
  obtain ⟨w_TIMESTAMP, v_TIMESTAMP⟩ := exa_v g7a
  have E_TIMESTAMP := Exa.start v_TIMESTAMP g7a
  have S_TIMESTAMP := Sta.start v_TIMESTAMP (Or.inr ⟨(hw _ (List.mem_of_getElem? (i := 6) rfl)), (hw _ (List.mem_of_getElem? (i := 29) rfl))⟩)
  obtain ⟨w_BOOLEAN, v_BOOLEAN⟩ := exa_v g7b
  have E_BOOLEAN := Exa.start v_BOOLEAN g7b
  have S_BOOLEAN := Sta.start v_BOOLEAN (Or.inr ⟨(hw _ (List.mem_of_getElem? (i := 6) rfl)), (hw _ (List.mem_of_getElem? (i := 33) rfl))⟩)
  have ne_STRING_INTEGER := ne_exa E_STRING E_INTEGER (by decide)
  have ne_STRING_NUMBER := ne_exa E_STRING E_NUMBER (by decide)
  have ne_STRING_BIG_NUMBER := ne_exa E_STRING E_BIG_NUMBER (by decide)
  have ne_INTEGER_NUMBER := ne_exa E_INTEGER E_NUMBER (by decide)
  have ne_INTEGER_BIG_NUMBER := ne_exa E_INTEGER E_BIG_NUMBER (by decide)
  have ne_NUMBER_INTEGER := ne_exa E_NUMBER E_INTEGER (by decide)
  have ne_NUMBER_BIG_NUMBER := ne_exa E_NUMBER E_BIG_NUMBER (by decide)
  have ne_BIG_NUMBER_INTEGER := ne_exa E_BIG_NUMBER E_INTEGER (by decide)
  have ne_BIG_NUMBER_NUMBER := ne_exa E_BIG_NUMBER E_NUMBER (by decide)
  have ne_DATE_INTEGER := ne_exa E_DATE E_INTEGER (by decide)
  have ne_DATE_NUMBER := ne_exa E_DATE E_NUMBER (by decide)
  have ne_DATE_BIG_NUMBER := ne_exa E_DATE E_BIG_NUMBER (by decide)
  have ne_TIMESTAMP_INTEGER := ne_exa E_TIMESTAMP E_INTEGER (by decide)
  have ne_TIMESTAMP_NUMBER := ne_exa E_TIMESTAMP E_NUMBER (by decide)
  have ne_TIMESTAMP_BIG_NUMBER := ne_exa E_TIMESTAMP E_BIG_NUMBER (by decide)
  have ne_BOOLEAN_INTEGER := ne_exa E_BOOLEAN E_INTEGER (by decide)
  have ne_BOOLEAN_NUMBER := ne_exa E_BOOLEAN E_NUMBER (by decide)
  have ne_BOOLEAN_BIG_NUMBER := ne_exa E_BOOLEAN E_BIG_NUMBER (by decide)
  have ne_INTEGER_DATE := ne_exa E_INTEGER E_DATE (by decide)
  have ne_INTEGER_TIMESTAMP := ne_exa E_INTEGER E_TIMESTAMP (by decide)
  have ne_NUMBER_DATE := ne_exa E_NUMBER E_DATE (by decide)
  have ne_NUMBER_TIMESTAMP := ne_exa E_NUMBER E_TIMESTAMP (by decide)
  have ne_BIG_NUMBER_DATE := ne_exa E_BIG_NUMBER E_DATE (by decide)
  have ne_BIG_NUMBER_TIMESTAMP := ne_exa E_BIG_NUMBER E_TIMESTAMP (by decide)
  obtain ⟨n, o, h1, h2, h3, _, L, rfl, ⟨rfl, N⟩, hq⟩ := rm_law l s _ hw tables_1 i0 w_STRING w_INTEGER w_NUMBER w_BIG_NUMBER w_DATE w_TIMESTAMP w_BOOLEAN s.heap s.heap.size (Nat.le_refl _) (Old.start s) S_STRING S_INTEGER S_NUMBER S_BIG_NUMBER S_DATE S_TIMESTAMP S_BOOLEAN E_STRING E_INTEGER E_NUMBER E_BIG_NUMBER E_DATE E_TIMESTAMP E_BOOLEAN ne_STRING_INTEGER ne_STRING_NUMBER ne_STRING_BIG_NUMBER ne_INTEGER_NUMBER ne_INTEGER_BIG_NUMBER ne_NUMBER_INTEGER ne_NUMBER_BIG_NUMBER ne_BIG_NUMBER_INTEGER ne_BIG_NUMBER_NUMBER ne_DATE_INTEGER ne_DATE_NUMBER ne_DATE_BIG_NUMBER ne_TIMESTAMP_INTEGER ne_TIMESTAMP_NUMBER ne_TIMESTAMP_BIG_NUMBER ne_BOOLEAN_INTEGER ne_BOOLEAN_NUMBER ne_BOOLEAN_BIG_NUMBER ne_INTEGER_DATE ne_INTEGER_TIMESTAMP ne_NUMBER_DATE ne_NUMBER_TIMESTAMP ne_BIG_NUMBER_DATE ne_BIG_NUMBER_TIMESTAMP p e ha hc hk s m _ below hf ((Spec.applies_iff_loose hf).mp happ).1 ⟨rfl, State.Warmed39.refl s, rfl⟩ trivial
  refine ⟨n, _, h1, h2, h3, hpost _ _ _ _ _ _ ⟨Cond.after_iff.mpr rfl, Cond.after_iff.mpr (eq_i res_at (Term.int_eval (1)) rfl), trivial⟩ ⟨hq.1, hq.2.1, (hq.2.2.sift fun y hy => Or.inr (N y hy)).mono (by decide) (by decide)⟩⟩
theorem main_1_1 : Claimed_1_1 := comes_1 fun _ _ _ _ _ _ h hF => ⟨h.1, hF⟩
theorem main_1_2 : Claimed_1_2 := comes_1 fun _ _ _ _ _ _ h hF => ⟨h.2.1, hF⟩
end Jvm.Pilot.@@N@@
namespace Jvm.Pilot.@@N@@
open Jvm Jvm.ClassFile Sem Op Lib Jvm.Free Jvm.Stand Jvm.Pilot.@@N@@.Jvm.D
/-! MADE BY PROGRAM (witnessworld.py) out of the Statement's table words and the real class files: 19 classes; the members and pool entries that the words name. The judged class is class 1, her method 2. -/
namespace start1
open Jvm.ClassFile
def u (s : String) : CpInfo := .utf8 (stringToUtf16 s)
/-- a pool by its gaps: so many unusable entries, then the entry; so many at the end -/
def gap : Nat → List CpInfo → List CpInfo
  | 0, r => r
  | n + 1, r => .unusable :: gap n r
def poolList (es : List (Nat × CpInfo)) (last : Nat) : List CpInfo := es.foldr (fun e r => gap e.1 (e.2 :: r)) (gap last [])
def pool (es : List (Nat × CpInfo)) (last : Nat) : Array CpInfo := ⟨poolList es last⟩
def fileOf (pool : Array CpInfo) (this : Nat) (attrs : Array Attribute := #[]) (ms : Array MethodInfo := #[]) (fl : Nat := 33) (sup : Nat := 0) (ifs : Array Nat := #[]) (fds : Array FieldInfo := #[]) : ClassFile where
  minorVersion := 0
  majorVersion := 65
  constantPool := pool
  accessFlags := fl
  thisClass := this
  superClass := sup
  interfaces := ifs
  fields := fds
  methods := ms
  attributes := attrs
def plain (name : String) (sup : Option ClassId) : Class where
  name := name
  kind := .ordinary
  loader := none
  accessFlags := 33
  super := sup
  interfaces := #[]
  cf := none
  fields := #[]
  methods := #[]
  instanceTypes := #[]
  staticTypes := #[]
  resolved := #[]
  callSites := []
  init := .initialized
  statics := none
  mirror := none

def pool0 : Array CpInfo := pool [(5, u "<init>"), (0, u "()V"), (1, .class_ 10), (1, u "java/lang/Object")] 113

def k0m0 : Method := { name := "<init>", desc := "()V", sig := { parameters := [], returnType := none }, accessFlags := 1, code := none }
/-- java/lang/Object -/
def k0 : Class := { plain "java/lang/Object" none with
  accessFlags := 33
  interfaces := #[]
  cf := some (fileOf pool0 8 #[] #[{ accessFlags := 1, nameIndex := 5, descriptorIndex := 6, attributes := #[] }] 33 0 #[] #[])
  fields := #[]
  methods := #[k0m0]
  instanceTypes := #[]
  staticTypes := #[]
  resolved := Array.replicate 124 none
  statics := none }

def pool1 : Array CpInfo := pool [(2, .class_ 4), (1, u "java/lang/Object"), (0, u "<init>"), (0, u "()V"), (0, .fieldref 8 9), (0, .class_ 10), (0, .nameAndType 11 12), (0, u "com/example/rillworks/rillworks/row/ValueType"), (0, u "STRING"), (0, u "Lcom/example/rillworks/rillworks/row/ValueType;"), (0, .fieldref 8 14), (0, .nameAndType 15 12), (0, u "INTEGER"), (0, .fieldref 8 17), (0, .nameAndType 18 12), (0, u "NUMBER"), (0, .fieldref 8 20), (0, .nameAndType 21 12), (0, u "BIG_NUMBER"), (0, .fieldref 8 23), (0, .nameAndType 24 12), (0, u "DATE"), (0, .fieldref 8 26), (0, .nameAndType 27 12), (0, u "TIMESTAMP"), (0, .fieldref 8 29), (0, .nameAndType 30 12), (0, u "BOOLEAN"), (0, .integer 2147483647), (0, .methodref 33 34), (0, .class_ 35), (0, .nameAndType 36 37), (0, u "com/example/rillworks/rillworks/row/ValueTypeIsNumberPinLaw"), (0, u "pick"), (0, u "(I)Lcom/example/rillworks/rillworks/row/ValueType;"), (0, .methodref 8 39), (0, .nameAndType 40 41), (0, u "isNumber"), (0, u "()Z"), (0, .methodref 8 43), (0, .nameAndType 44 41), (0, u "isTime"), (3, u "law"), (0, u "(I)Z")] 2

def k1m0 : Method := { name := "<init>", desc := "()V", sig := { parameters := [], returnType := none }, accessFlags := 2, code := none }
def k1c1 : Code := { maxStack := 2, maxLocals := 1, code := method_2_code, exceptionTable := #[], attributes := #[] }
def k1m1 : Method := { name := "pick", desc := "(I)Lcom/example/rillworks/rillworks/row/ValueType;", sig := { parameters := [.int], returnType := some (.object "com/example/rillworks/rillworks/row/ValueType") }, accessFlags := 10, code := some k1c1 }
def k1c2 : Code := { maxStack := 2, maxLocals := 5, code := code, exceptionTable := #[], attributes := #[] }
def k1m2 : Method := { name := "law", desc := "(I)Z", sig := { parameters := [.int], returnType := some .boolean }, accessFlags := 9, code := some k1c2 }
/-- com/example/rillworks/rillworks/row/ValueTypeIsNumberPinLaw -/
def k1 : Class := { plain "com/example/rillworks/rillworks/row/ValueTypeIsNumberPinLaw" (some 0) with
  accessFlags := 49
  interfaces := #[]
  cf := some (fileOf pool1 33 #[] #[{ accessFlags := 2, nameIndex := 5, descriptorIndex := 6, attributes := #[] }, { accessFlags := 10, nameIndex := 36, descriptorIndex := 37, attributes := #[] }, { accessFlags := 9, nameIndex := 48, descriptorIndex := 49, attributes := #[] }] 49 2 #[] #[])
  fields := #[]
  methods := #[k1m0, k1m1, k1m2]
  instanceTypes := #[]
  staticTypes := #[]
  resolved := Array.replicate 52 none
  statics := none }

def pool2 : Array CpInfo := pool [(1, .class_ 2), (0, u "java/lang/constant/Constable"), (0, .class_ 4), (0, u "java/lang/Object")] 6

/-- java/lang/constant/Constable -/
def k2 : Class := { plain "java/lang/constant/Constable" (some 0) with
  accessFlags := 1537
  interfaces := #[]
  cf := some (fileOf pool2 1 #[] #[] 1537 3 #[] #[])
  fields := #[]
  methods := #[]
  instanceTypes := #[]
  staticTypes := #[]
  resolved := Array.replicate 11 none
  statics := none }

def pool3 : Array CpInfo := pool [(1, .class_ 2), (0, u "java/lang/Comparable"), (0, .class_ 4), (0, u "java/lang/Object")] 7

/-- java/lang/Comparable -/
def k3 : Class := { plain "java/lang/Comparable" (some 0) with
  accessFlags := 1537
  interfaces := #[]
  cf := some (fileOf pool3 1 #[] #[] 1537 3 #[] #[])
  fields := #[]
  methods := #[]
  instanceTypes := #[]
  staticTypes := #[]
  resolved := Array.replicate 12 none
  statics := none }

def pool4 : Array CpInfo := pool [(1, .class_ 2), (0, u "java/io/Serializable"), (0, .class_ 4), (0, u "java/lang/Object")] 2

/-- java/io/Serializable -/
def k4 : Class := { plain "java/io/Serializable" (some 0) with
  accessFlags := 1537
  interfaces := #[]
  cf := some (fileOf pool4 1 #[] #[] 1537 3 #[] #[])
  fields := #[]
  methods := #[]
  instanceTypes := #[]
  staticTypes := #[]
  resolved := Array.replicate 7 none
  statics := none }

def pool5 : Array CpInfo := pool [(2, .class_ 4), (1, u "java/lang/Enum"), (0, u "name"), (0, u "Ljava/lang/String;"), (2, u "ordinal"), (0, u "I"), (1, .class_ 14), (1, u "java/lang/Object"), (4, u "hash"), (86, .class_ 108), (1, u "java/lang/Enum$EnumDesc"), (2, .class_ 112), (0, u "java/lang/constant/Constable"), (0, .class_ 114), (0, u "java/lang/Comparable"), (0, .class_ 116), (0, u "java/io/Serializable")] 87

/-- java/lang/Enum -/
def k5 : Class := { plain "java/lang/Enum" (some 0) with
  accessFlags := 1057
  interfaces := #[2, 3, 4]
  cf := some (fileOf pool5 2 #[.nestMembers #[106]] #[] 1057 12 #[111, 113, 115] #[{ accessFlags := 18, nameIndex := 5, descriptorIndex := 6, attributes := #[] }, { accessFlags := 18, nameIndex := 9, descriptorIndex := 10, attributes := #[] }, { accessFlags := 2, nameIndex := 19, descriptorIndex := 10, attributes := #[] }])
  fields := #[{ name := "name", type := (.object "java/lang/String"), accessFlags := 18, slot := 0, constantValue := 0 }, { name := "ordinal", type := .int, accessFlags := 18, slot := 1, constantValue := 0 }, { name := "hash", type := .int, accessFlags := 2, slot := 2, constantValue := 0 }]
  methods := #[]
  instanceTypes := #[(.object "java/lang/String"), .int, .int]
  staticTypes := #[]
  resolved := Array.replicate 204 none
  statics := none }

def pool6 : Array CpInfo := pool [(1, .class_ 2), (0, u "com/example/rillworks/rillworks/row/ValueType"), (2, u "STRING"), (0, u "Lcom/example/rillworks/rillworks/row/ValueType;"), (0, .fieldref 1 8), (0, .nameAndType 9 6), (0, u "INTEGER"), (0, .fieldref 1 11), (0, .nameAndType 12 6), (0, u "NUMBER"), (0, .fieldref 1 14), (0, .nameAndType 15 6), (0, u "BIG_NUMBER"), (0, .fieldref 1 17), (0, .nameAndType 18 6), (0, u "DATE"), (0, .fieldref 1 20), (0, .nameAndType 21 6), (0, u "TIMESTAMP"), (2, u "BOOLEAN"), (2, u "$VALUES"), (0, u "[Lcom/example/rillworks/rillworks/row/ValueType;"), (6, .class_ 37), (1, u "java/lang/Enum"), (8, u "typeName"), (0, u "Ljava/lang/String;"), (76, u "LENIENT_DATE_TEXT"), (0, u "Ljava/time/format/DateTimeFormatter;"), (14, u "LENIENT_TIMESTAMP_TEXT"), (2, u "TIMESTAMP_TEXT"), (50, u "()Z"), (30, .class_ 226), (0, u "com/example/rillworks/rillworks/row/ValueType$1"), (6, .class_ 234), (0, u "com/example/rillworks/rillworks/row/ValueType$2"), (4, .class_ 240), (0, u "com/example/rillworks/rillworks/row/ValueType$3"), (4, .class_ 246), (0, u "com/example/rillworks/rillworks/row/ValueType$4"), (4, .class_ 252), (0, u "com/example/rillworks/rillworks/row/ValueType$5"), (4, .class_ 258), (0, u "com/example/rillworks/rillworks/row/ValueType$6"), (4, .class_ 264), (0, u "com/example/rillworks/rillworks/row/ValueType$7"), (21, u "SPECIAL_NUMBERS"), (0, u "Ljava/util/Set;"), (52, u "SHORT_DECIMAL"), (0, u "I"), (2, u "BIG_NUMBER_DIGITS"), (14, u "isNumber"), (0, u "isTime")] 61

def k6c0 : Code := { maxStack := 2, maxLocals := 1, code := prog_33_method_9_code, exceptionTable := #[], attributes := #[] }
def k6m0 : Method := { name := "isNumber", desc := "()Z", sig := { parameters := [], returnType := some .boolean }, accessFlags := 1, code := some k6c0 }
def k6c1 : Code := { maxStack := 2, maxLocals := 1, code := prog_33_method_10_code, exceptionTable := #[], attributes := #[] }
def k6m1 : Method := { name := "isTime", desc := "()Z", sig := { parameters := [], returnType := some .boolean }, accessFlags := 1, code := some k6c1 }
/-- com/example/rillworks/rillworks/row/ValueType -/
def k6 : Class := { plain "com/example/rillworks/rillworks/row/ValueType" (some 5) with
  accessFlags := 17441
  interfaces := #[]
  cf := some (fileOf pool6 1 #[.nestMembers #[263, 257, 251, 245, 239, 233, 225]] #[{ accessFlags := 1, nameIndex := 359, descriptorIndex := 194, attributes := #[] }, { accessFlags := 1, nameIndex := 360, descriptorIndex := 194, attributes := #[] }] 17441 35 #[] #[{ accessFlags := 16409, nameIndex := 5, descriptorIndex := 6, attributes := #[] }, { accessFlags := 16409, nameIndex := 9, descriptorIndex := 6, attributes := #[] }, { accessFlags := 16409, nameIndex := 12, descriptorIndex := 6, attributes := #[] }, { accessFlags := 16409, nameIndex := 15, descriptorIndex := 6, attributes := #[] }, { accessFlags := 16409, nameIndex := 18, descriptorIndex := 6, attributes := #[] }, { accessFlags := 16409, nameIndex := 21, descriptorIndex := 6, attributes := #[] }, { accessFlags := 16409, nameIndex := 24, descriptorIndex := 6, attributes := #[] }, { accessFlags := 26, nameIndex := 340, descriptorIndex := 341, attributes := #[] }, { accessFlags := 26, nameIndex := 344, descriptorIndex := 341, attributes := #[] }, { accessFlags := 26, nameIndex := 286, descriptorIndex := 287, attributes := #[] }, { accessFlags := 26, nameIndex := 143, descriptorIndex := 125, attributes := #[] }, { accessFlags := 26, nameIndex := 140, descriptorIndex := 125, attributes := #[] }, { accessFlags := 26, nameIndex := 124, descriptorIndex := 125, attributes := #[] }, { accessFlags := 18, nameIndex := 46, descriptorIndex := 47, attributes := #[] }, { accessFlags := 4122, nameIndex := 27, descriptorIndex := 28, attributes := #[] }])
  fields := #[{ name := "STRING", type := (.object "com/example/rillworks/rillworks/row/ValueType"), accessFlags := 16409, slot := 0, constantValue := 0 }, { name := "INTEGER", type := (.object "com/example/rillworks/rillworks/row/ValueType"), accessFlags := 16409, slot := 1, constantValue := 0 }, { name := "NUMBER", type := (.object "com/example/rillworks/rillworks/row/ValueType"), accessFlags := 16409, slot := 2, constantValue := 0 }, { name := "BIG_NUMBER", type := (.object "com/example/rillworks/rillworks/row/ValueType"), accessFlags := 16409, slot := 3, constantValue := 0 }, { name := "DATE", type := (.object "com/example/rillworks/rillworks/row/ValueType"), accessFlags := 16409, slot := 4, constantValue := 0 }, { name := "TIMESTAMP", type := (.object "com/example/rillworks/rillworks/row/ValueType"), accessFlags := 16409, slot := 5, constantValue := 0 }, { name := "BOOLEAN", type := (.object "com/example/rillworks/rillworks/row/ValueType"), accessFlags := 16409, slot := 6, constantValue := 0 }, { name := "SHORT_DECIMAL", type := .int, accessFlags := 26, slot := 7, constantValue := 0 }, { name := "BIG_NUMBER_DIGITS", type := .int, accessFlags := 26, slot := 8, constantValue := 0 }, { name := "SPECIAL_NUMBERS", type := (.object "java/util/Set"), accessFlags := 26, slot := 9, constantValue := 0 }, { name := "TIMESTAMP_TEXT", type := (.object "java/time/format/DateTimeFormatter"), accessFlags := 26, slot := 10, constantValue := 0 }, { name := "LENIENT_TIMESTAMP_TEXT", type := (.object "java/time/format/DateTimeFormatter"), accessFlags := 26, slot := 11, constantValue := 0 }, { name := "LENIENT_DATE_TEXT", type := (.object "java/time/format/DateTimeFormatter"), accessFlags := 26, slot := 12, constantValue := 0 }, { name := "typeName", type := (.object "java/lang/String"), accessFlags := 18, slot := 3, constantValue := 0 }, { name := "$VALUES", type := (.array (.object "com/example/rillworks/rillworks/row/ValueType")), accessFlags := 4122, slot := 13, constantValue := 0 }]
  methods := #[k6m0, k6m1]
  instanceTypes := #[(.object "java/lang/String"), .int, .int, (.object "java/lang/String")]
  staticTypes := #[(.object "com/example/rillworks/rillworks/row/ValueType"), (.object "com/example/rillworks/rillworks/row/ValueType"), (.object "com/example/rillworks/rillworks/row/ValueType"), (.object "com/example/rillworks/rillworks/row/ValueType"), (.object "com/example/rillworks/rillworks/row/ValueType"), (.object "com/example/rillworks/rillworks/row/ValueType"), (.object "com/example/rillworks/rillworks/row/ValueType"), .int, .int, (.object "java/util/Set"), (.object "java/time/format/DateTimeFormatter"), (.object "java/time/format/DateTimeFormatter"), (.object "java/time/format/DateTimeFormatter"), (.array (.object "com/example/rillworks/rillworks/row/ValueType"))]
  resolved := Array.replicate 422 none
  statics := some 0 }

def pool7 : Array CpInfo := pool [(2, .class_ 4), (1, u "com/example/rillworks/rillworks/row/ValueType"), (8, .class_ 14), (0, u "com/example/rillworks/rillworks/row/ValueType$1")] 14

/-- com/example/rillworks/rillworks/row/ValueType$1 -/
def k7 : Class := { plain "com/example/rillworks/rillworks/row/ValueType$1" (some 6) with
  accessFlags := 16432
  interfaces := #[]
  cf := some (fileOf pool7 13 #[.nestHost 2] #[] 16432 2 #[] #[])
  fields := #[]
  methods := #[]
  instanceTypes := #[(.object "java/lang/String"), .int, .int, (.object "java/lang/String")]
  staticTypes := #[]
  resolved := Array.replicate 29 none
  statics := none }

def pool8 : Array CpInfo := pool [(1, .class_ 2), (0, u "com/example/rillworks/rillworks/row/ValueType"), (36, .class_ 41), (1, u "com/example/rillworks/rillworks/row/ValueType$4")] 34

/-- com/example/rillworks/rillworks/row/ValueType$4 -/
def k8 : Class := { plain "com/example/rillworks/rillworks/row/ValueType$4" (some 6) with
  accessFlags := 16432
  interfaces := #[]
  cf := some (fileOf pool8 39 #[.nestHost 1] #[] 16432 1 #[] #[])
  fields := #[]
  methods := #[]
  instanceTypes := #[(.object "java/lang/String"), .int, .int, (.object "java/lang/String")]
  staticTypes := #[]
  resolved := Array.replicate 76 none
  statics := none }

def pool9 : Array CpInfo := pool [(2, .class_ 4), (1, u "com/example/rillworks/rillworks/row/ValueType"), (9, .class_ 16), (1, u "com/example/rillworks/rillworks/row/ValueType$6")] 26

/-- com/example/rillworks/rillworks/row/ValueType$6 -/
def k9 : Class := { plain "com/example/rillworks/rillworks/row/ValueType$6" (some 6) with
  accessFlags := 16432
  interfaces := #[]
  cf := some (fileOf pool9 14 #[.nestHost 2] #[] 16432 2 #[] #[])
  fields := #[]
  methods := #[]
  instanceTypes := #[(.object "java/lang/String"), .int, .int, (.object "java/lang/String")]
  staticTypes := #[]
  resolved := Array.replicate 43 none
  statics := none }

def pool10 : Array CpInfo := pool [(2, .class_ 4), (1, u "com/example/rillworks/rillworks/row/ValueType"), (40, .class_ 46), (0, u "com/example/rillworks/rillworks/row/ValueType$7")] 14

/-- com/example/rillworks/rillworks/row/ValueType$7 -/
def k10 : Class := { plain "com/example/rillworks/rillworks/row/ValueType$7" (some 6) with
  accessFlags := 16432
  interfaces := #[]
  cf := some (fileOf pool10 45 #[.nestHost 2] #[] 16432 2 #[] #[])
  fields := #[]
  methods := #[]
  instanceTypes := #[(.object "java/lang/String"), .int, .int, (.object "java/lang/String")]
  staticTypes := #[]
  resolved := Array.replicate 61 none
  statics := none }

def pool11 : Array CpInfo := pool [(2, .class_ 4), (1, u "com/example/rillworks/rillworks/row/ValueType"), (3, .class_ 10), (1, u "com/example/rillworks/rillworks/row/ValueType$5")] 31

/-- com/example/rillworks/rillworks/row/ValueType$5 -/
def k11 : Class := { plain "com/example/rillworks/rillworks/row/ValueType$5" (some 6) with
  accessFlags := 16432
  interfaces := #[]
  cf := some (fileOf pool11 8 #[.nestHost 2] #[] 16432 2 #[] #[])
  fields := #[]
  methods := #[]
  instanceTypes := #[(.object "java/lang/String"), .int, .int, (.object "java/lang/String")]
  staticTypes := #[]
  resolved := Array.replicate 42 none
  statics := none }

def pool12 : Array CpInfo := pool [(2, .class_ 4), (1, u "com/example/rillworks/rillworks/row/ValueType"), (53, .class_ 59), (0, u "com/example/rillworks/rillworks/row/ValueType$3")] 16

/-- com/example/rillworks/rillworks/row/ValueType$3 -/
def k12 : Class := { plain "com/example/rillworks/rillworks/row/ValueType$3" (some 6) with
  accessFlags := 16432
  interfaces := #[]
  cf := some (fileOf pool12 58 #[.nestHost 2] #[] 16432 2 #[] #[])
  fields := #[]
  methods := #[]
  instanceTypes := #[(.object "java/lang/String"), .int, .int, (.object "java/lang/String")]
  staticTypes := #[]
  resolved := Array.replicate 76 none
  statics := none }

def pool13 : Array CpInfo := pool [(2, .class_ 4), (1, u "com/example/rillworks/rillworks/row/ValueType"), (24, .class_ 30), (0, u "com/example/rillworks/rillworks/row/ValueType$2")] 13

/-- com/example/rillworks/rillworks/row/ValueType$2 -/
def k13 : Class := { plain "com/example/rillworks/rillworks/row/ValueType$2" (some 6) with
  accessFlags := 16432
  interfaces := #[]
  cf := some (fileOf pool13 29 #[.nestHost 2] #[] 16432 2 #[] #[])
  fields := #[]
  methods := #[]
  instanceTypes := #[(.object "java/lang/String"), .int, .int, (.object "java/lang/String")]
  staticTypes := #[]
  resolved := Array.replicate 44 none
  statics := none }

def pool14 : Array CpInfo := pool [(1, u "java/lang/Cloneable"), (0, .class_ 1), (0, u "java/lang/Object"), (0, .class_ 3)] 3

/-- java/lang/Cloneable -/
def k14 : Class := { plain "java/lang/Cloneable" (some 0) with
  accessFlags := 1537
  interfaces := #[]
  cf := some (fileOf pool14 2 #[] #[] 1537 4 #[] #[])
  fields := #[]
  methods := #[]
  instanceTypes := #[]
  staticTypes := #[]
  resolved := Array.replicate 8 none
  statics := none }

/-- the primitive byte -/
def k15 : Class := { plain "byte" none with kind := .primitive 'B', accessFlags := 0x411 }
/-- [B -/
def k16 : Class := { plain "[B" (some 0) with kind := .array 15 .byte, interfaces := #[14, 4], accessFlags := 1041 }

/-- the primitive int -/
def k17 : Class := { plain "int" none with kind := .primitive 'I', accessFlags := 0x411 }
/-- [I -/
def k18 : Class := { plain "[I" (some 0) with kind := .array 17 .int, interfaces := #[14, 4], accessFlags := 1041 }

def heap : Heap := #[{ cls := 6, slots := #[.ref 1, .ref 2, .ref 3, .ref 4, .ref 5, .ref 6, .ref 7, .int 0, .int 0, .null, .null, .null, .null, .null], vm := .statics 6 },
  { cls := 7, slots := #[.null, .int 0, .int 0, .null], vm := .none },
  { cls := 13, slots := #[.null, .int 1, .int 0, .null], vm := .none },
  { cls := 12, slots := #[.null, .int 2, .int 0, .null], vm := .none },
  { cls := 8, slots := #[.null, .int 3, .int 0, .null], vm := .none },
  { cls := 11, slots := #[.null, .int 4, .int 0, .null], vm := .none },
  { cls := 9, slots := #[.null, .int 5, .int 0, .null], vm := .none },
  { cls := 10, slots := #[.null, .int 6, .int 0, .null], vm := .none }]
def classes : Array Class := #[k0, k1, k2, k3, k4, k5, k6, k7, k8, k9, k10, k11, k12, k13, k14, k15, k16, k17, k18]
def interned : List (Array UInt16 × Addr) := []
def slotsUsed : Nat := 42
def theMethod : MethodId := ⟨1, 2⟩
def args0 : Array Value := #[.int 5]
def aboutOver (below : List Frame) : State where
  vm := { classes := classes, interned := interned.toArray }
  heap := heap
  slotsUsed := slotsUsed
  threads := #[{ frames := .invoking theMethod args0 :: below }]
def below0 : List Frame := [.native { method := ⟨0, 0⟩, args := #[] }]
def about1 : State := aboutOver below0
def p0 : Program := .bare "" "" ""
def e0 : Env := launch0.env 0 0 0
theorem w_frames : about1.frames = Frame.invoking theMethod args0 :: below0 := rfl
set_option maxRecDepth 65536 in
theorem w_args : argsFit about1.vm theMethod args0 = true := by decide +kernel
set_option maxRecDepth 65536 in
theorem w_heap : heapFits about1 = true := by decide +kernel
set_option maxRecDepth 65536 in
theorem w_runnable : about1.curStatus? = some .runnable := by decide +kernel
set_option maxRecDepth 65536 in
theorem w_alone : about1.alone = true := by decide +kernel
set_option maxRecDepth 65536 in
theorem w_named : about1.methodNamed? x = some theMethod := by decide +kernel
set_option maxRecDepth 65536 in
theorem w_hears : about1.hears theMethod below0 = true := by decide +kernel
set_option maxRecDepth 65536 in
theorem w_ripe : about1.ripe theMethod args0 below0 = true := by decide +kernel
theorem w_running : about1.status = .running := rfl
set_option maxRecDepth 65536 in
theorem w_room : about1.hasRoom e0.platform room_1 = true :=
  launch0.hasRoom_least _ room_1 (by decide +kernel) (by decide +kernel) (by decide +kernel) (by decide +kernel) (by decide +kernel) (by decide +kernel)
theorem allAtoms_all (ts : List Jvm.Cond) (a : Array Jvm.Value) (st : Jvm.State) : (allAtoms ts).before a st = ts.all (fun c => c.before a st) := by
  induction ts with
  | nil => rfl
  | cons c t ih =>
    show (Jvm.Cond.and c (allAtoms t)).before a st = _
    rw [Jvm.Cond.before_and, ih, List.all_cons]
def words1 : List Jvm.Cond := Jvm.Cond.code x code maxLocals ret :: tables_1
/-- a 'code' word, met by the world's own term for the bytes: nothing is compared byte by byte -/
theorem code_word {y : MethodName} {bytes : ByteArray} {mx : Nat} {rt : Option FieldType} {a : Array Value} {s : State} {m : MethodId} {meth : Method} {c : Code} (h1 : s.methodNamed? y = some m) (h2 : s.vm.method? m = some meth) (h3 : meth.code = some c) (h4 : c.code = bytes)
    (h5 : (c.maxLocals == mx && c.exceptionTable.isEmpty && decide (c.maxStack ≤ mostOperands) && decide (meth.sig.returnType = rt) && !meth.locks && decide (parseMethodDescriptor y.desc = some meth.sig)) = true) : (Jvm.Cond.code y bytes mx rt).before a s = true := by
  simp only [Bool.and_eq_true, beq_iff_eq, Bool.not_eq_true', decide_eq_true_eq] at h5
  obtain ⟨⟨⟨⟨⟨g1, g2⟩, g3⟩, g4⟩, g5⟩, g6⟩ := h5
  simp [Cond.before, Cond.holds, Cond.value, h1, h2, h3, h4, g1, g2, g3, g4, g5, g6]
def isCode : Jvm.Cond → Bool
  | .code _ _ _ _ => true
  | _ => false
theorem all_split {L : List Jvm.Cond} {P : Jvm.Cond → Bool} (h1 : L.all (fun c => isCode c || P c) = true) (h2 : ∀ c ∈ L.filter isCode, P c = true) : L.all P = true := by
  refine List.all_eq_true.mpr fun c hc => ?_
  have h := List.all_eq_true.mp h1 c hc
  rcases Bool.eq_false_or_eq_true (isCode c) with hi | hi
  · exact h2 c (List.mem_filter.mpr ⟨hc, hi⟩)
  · simpa [hi] using h
set_option maxRecDepth 65536 in
theorem w_c0 : (Jvm.Cond.code x code maxLocals ret).before args0 about1 = true := code_word (m := ⟨1, 2⟩) (meth := k1m2) (c := k1c2) (by decide +kernel) rfl rfl rfl (by decide +kernel)
set_option maxRecDepth 65536 in
theorem w_c1 : (Jvm.Cond.code ({ cls := "com/example/rillworks/rillworks/row/ValueTypeIsNumberPinLaw", name := "pick", desc := "(I)Lcom/example/rillworks/rillworks/row/ValueType;" } : Jvm.MethodName) method_2_code (1 : Nat) (Option.some (Jvm.ClassFile.FieldType.object "com/example/rillworks/rillworks/row/ValueType"))).before args0 about1 = true := code_word (m := ⟨1, 1⟩) (meth := k1m1) (c := k1c1) (by decide +kernel) rfl rfl rfl (by decide +kernel)
set_option maxRecDepth 65536 in
theorem w_c2 : (Jvm.Cond.code ({ cls := "com/example/rillworks/rillworks/row/ValueType", name := "isNumber", desc := "()Z" } : Jvm.MethodName) prog_33_method_9_code (1 : Nat) (Option.some Jvm.ClassFile.FieldType.boolean)).before args0 about1 = true := code_word (m := ⟨6, 0⟩) (meth := k6m0) (c := k6c0) (by decide +kernel) rfl rfl rfl (by decide +kernel)
set_option maxRecDepth 65536 in
theorem w_c3 : (Jvm.Cond.code ({ cls := "com/example/rillworks/rillworks/row/ValueType", name := "isTime", desc := "()Z" } : Jvm.MethodName) prog_33_method_10_code (1 : Nat) (Option.some Jvm.ClassFile.FieldType.boolean)).before args0 about1 = true := code_word (m := ⟨6, 1⟩) (meth := k6m1) (c := k6c1) (by decide +kernel) rfl rfl rfl (by decide +kernel)
def codes1 : List Jvm.Cond := [Jvm.Cond.code x code maxLocals ret, Jvm.Cond.code ({ cls := "com/example/rillworks/rillworks/row/ValueTypeIsNumberPinLaw", name := "pick", desc := "(I)Lcom/example/rillworks/rillworks/row/ValueType;" } : Jvm.MethodName) method_2_code (1 : Nat) (Option.some (Jvm.ClassFile.FieldType.object "com/example/rillworks/rillworks/row/ValueType")), Jvm.Cond.code ({ cls := "com/example/rillworks/rillworks/row/ValueType", name := "isNumber", desc := "()Z" } : Jvm.MethodName) prog_33_method_9_code (1 : Nat) (Option.some Jvm.ClassFile.FieldType.boolean), Jvm.Cond.code ({ cls := "com/example/rillworks/rillworks/row/ValueType", name := "isTime", desc := "()Z" } : Jvm.MethodName) prog_33_method_10_code (1 : Nat) (Option.some Jvm.ClassFile.FieldType.boolean)]
set_option maxRecDepth 65536 in
theorem codes_eq : words1.filter isCode = codes1 := rfl
theorem w_codes : ∀ c ∈ words1.filter isCode, c.before args0 about1 = true := by
  rw [codes_eq]
  intro c hc
  simp only [codes1, List.mem_cons, List.not_mem_nil, or_false] at hc
  rcases hc with rfl | rfl | rfl | rfl
  · exact w_c0
  · exact w_c1
  · exact w_c2
  · exact w_c3
set_option maxRecDepth 65536 in
theorem w_t1 : (words1.take 24).all (fun c => isCode c || c.before args0 about1) = true := by decide +kernel
set_option maxRecDepth 65536 in
theorem w_t2 : (words1.drop 24).all (fun c => isCode c || c.before args0 about1) = true := by decide +kernel
theorem w_tables : (allAtoms (Jvm.Cond.code x code maxLocals ret :: tables_1)).before args0 about1 = true := by
  rw [allAtoms_all]
  show words1.all (fun c => c.before args0 about1) = true
  refine all_split ?_ w_codes
  rw [← List.take_append_drop 24 words1, List.all_append, w_t1, w_t2]
  rfl
set_option maxRecDepth 65536 in
theorem w_case : (Jvm.Cond.and given_1 narrow_1).before args0 about1 = true := by decide +kernel
theorem w_applies : (headSpec (Jvm.Cond.code x code maxLocals ret :: tables_1) room_1).applies x e0.platform about1 = true :=
  (Spec.applies_iff w_frames).mpr ⟨w_running, w_runnable, w_alone, w_named, w_hears, w_ripe, w_room, w_tables⟩
theorem atStart : AtStart classFile x code maxLocals ret World_1 tables_1 room_1 Calls_1 rest_1 Pre_1 launch0 p0 e0 about1 theMethod args0 below0 :=
  ⟨lists_1, trivial, launch0.admits_env _ _ _, launch0.least_env, fairChoices_fair.cas, fairChoices_fair.clock, w_frames, w_args, w_heap, w_applies, trivial, trivial, w_case⟩
end start1
theorem witness_1 : WitnessClaimed_1 := ⟨start1.p0, start1.e0, start1.about1, start1.theMethod, start1.args0, start1.below0, start1.atStart⟩
end Jvm.Pilot.@@N@@
