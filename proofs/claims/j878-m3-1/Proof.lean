import JvmDerived
import JvmDerived.Pilot.@@N@@Statement
import JvmDerived.Pilot.@@N@@Code
set_option linter.unusedVariables false
set_option linter.unusedSimpArgs false
namespace Jvm.Pilot.@@N@@
open Jvm Jvm.ClassFile Sem Op Lib Jvm.Free Jvm.Stand Jvm.LawKit Jvm.RoadKit Bundle Jvm.Pilot.@@N@@.Jvm.D
section OwnKit
variable {p : Program} {l : Launch} {e : Env} {R : Room} {s : State} {m : MethodId} {args : Array Value} {below : List Frame} {meth : Method} {c : Code} {T : State} {locs : List Loc} {cells slots : Nat}
/-- from S the run comes to an end that Φ takes -/
def own_G (tb : Tables) (e : Env) (below : List Frame) (Φ : State → Outcome → Prop) (S : State) : Prop := ∃ t o, Steps tb e below S t ∧ t.status = .running ∧ Ended t below o ∧ Φ t o
def own_E (s : State) (Q : Option Value → Heap → List Loc → Prop) (kc ks : Nat) : State → Outcome → Prop := fun t o => ∃ v L, o = .returned v ∧ Q v t.heap L ∧ FrameEnd s o t L kc ks
theorem own_st {tb : Tables} {Φ : State → Outcome → Prop} {S S' : State} (h : ∀ t, Steps tb e below S' t → Steps tb e below S t) (g : own_G tb e below Φ S') : own_G tb e below Φ S := by
  obtain ⟨t, o, a, b⟩ := g
  exact ⟨t, o, h t a, b⟩
theorem own_tr {tb : Tables} {Φ : State → Outcome → Prop} {S S' : State} (h : Steps tb e below S S') (g : own_G tb e below Φ S') : own_G tb e below Φ S := by
  obtain ⟨t, o, a, b⟩ := g
  exact ⟨t, o, h.trans a, b⟩
theorem own_in {s₁ : State} (kc ks : Nat) (Q : Option Value → Heap → List Loc → Prop) {mL : Nat} {g : JFrame} (ef : entryFrame m args mL = g) (k : own_G p.tables e below (own_E s Q kc ks) (s₁.setTop g)) :
    ∃ s₂ o, Steps p.tables e below (s₁.setTop (entryFrame m args mL)) s₂ ∧ s₂.status = .running ∧ Ended s₂ below o ∧ ∃ v L, o = .returned v ∧ Q v s₂.heap L ∧ FrameEnd s o s₂ L kc ks := by
  rw [ef]
  exact k
theorem own_retI0 (X : Stand p l e R s m args below meth c T locs cells slots) (hx : p.tables.exec = Jvm.exec) {pc : Nat} {Ls : Array Slot} {z : Int32} {rest : List Value} (hret : meth.sig.returnType = some .int) (hd : decode c.code pc = .ok (.ireturn, 1)) {fs : List Frame}
    (hl : ∀ (f : JFrame) (acts : List Action), f.method = m → f.locked = none → f.entered = [] → (doReturn e (T.setTop f) acts (some (.int z))).1 = T.setFrames fs) : Steps p.tables e below (T.setTop (mkF m pc Ls (.int z :: rest))) (T.setFrames fs) :=
  retOut X hx hret rfl (Or.inl ⟨rfl, Or.inl rfl, z, rfl⟩) hd hl
theorem own_retI (X : Stand p l e R s m args below meth c T locs cells slots) (hx : p.tables.exec = Jvm.exec) (hlk : meth.locks = false) {pc : Nat} {Ls : Array Slot} {z : Int32} {rest : List Value} (hret : meth.sig.returnType = some .int) (hd : decode c.code pc = .ok (.ireturn, 1))
    {Q : Option Value → Heap → List Loc → Prop} {kc ks : Nat} (hc : cells ≤ kc) (hs : slots ≤ ks) (q : Q (some (.int z)) T.heap locs) : own_G p.tables e below (own_E s Q kc ks) (T.setTop (mkF m pc Ls (.int z :: rest))) := by
  obtain ⟨fs, hr, hrun, hended, hW, hsame⟩ := X.leave (v := some (.int z)) (fun h => by rw [hret] at h; cases h)
  exact ⟨_, _, own_retI0 X hx hret hd hr, hrun, hended, _, _, rfl, q, ⟨_, rfl⟩, hW, hsame.mono hc hs⟩
theorem own_retN (X : Stand p l e R s m args below meth c T locs cells slots) (hx : p.tables.exec = Jvm.exec) (hlk : meth.locks = false) {pc : Nat} {Ls : Array Slot} {z : Int32} {t : FieldType} {rest : List Value} (hret : meth.sig.returnType = some t) (ht : t = .boolean ∨ t = .byte ∨ t = .char ∨ t = .short) (hd : decode c.code pc = .ok (.ireturn, 1))
    {Q : Option Value → Heap → List Loc → Prop} {kc ks : Nat} (hc : cells ≤ kc) (hs : slots ≤ ks) {v' : Int32} (hv : nar t z = v') (q : Q (some (.int v')) T.heap locs) : own_G p.tables e below (own_E s Q kc ks) (T.setTop (mkF m pc Ls (.int z :: rest))) := by
  subst hv
  obtain ⟨fs, hr, hrun, hended, hW, hsame⟩ := X.leave (v := some (.int (nar t z))) (fun h => by rw [hret] at h; cases h)
  exact ⟨_, _, retN X hx hret ht hd hr, hrun, hended, _, _, rfl, q, ⟨_, rfl⟩, hW, hsame.mono hc hs⟩
theorem own_retA (X : Stand p l e R s m args below meth c T locs cells slots) (hx : p.tables.exec = Jvm.exec) (hlk : meth.locks = false) {pc : Nat} {Ls : Array Slot} {w : Value} {t : FieldType} {rest : List Value} (hret : meth.sig.returnType = some t) (ht : t.isReference = true) (hw : w.isRef = true) (hd : decode c.code pc = .ok (.areturn, 1))
    {Q : Option Value → Heap → List Loc → Prop} {kc ks : Nat} (hc : cells ≤ kc) (hs : slots ≤ ks) (q : Q (some w) T.heap locs) : own_G p.tables e below (own_E s Q kc ks) (T.setTop (mkF m pc Ls (w :: rest))) := by
  obtain ⟨fs, hr, hrun, hended, hW, hsame⟩ := X.leave (v := some w) (fun h => by rw [hret] at h; cases h)
  have hn : narrow t w = w := by rcases ref_cases hw with rfl | ⟨a, rfl⟩ <;> cases t <;> rfl
  exact ⟨_, _, retOut X hx hret hn (Or.inr (Or.inr (Or.inr (Or.inr ⟨rfl, ht, hw⟩)))) hd hr, hrun, hended, _, _, rfl, q, ⟨_, rfl⟩, hW, hsame.mono hc hs⟩
theorem own_retJ (X : Stand p l e R s m args below meth c T locs cells slots) (hx : p.tables.exec = Jvm.exec) (hlk : meth.locks = false) {pc : Nat} {Ls : Array Slot} {z : Int64} {rest : List Value} (hret : meth.sig.returnType = some .long) (hd : decode c.code pc = .ok (.lreturn, 1))
    {Q : Option Value → Heap → List Loc → Prop} {kc ks : Nat} (hc : cells ≤ kc) (hs : slots ≤ ks) (q : Q (some (.long z)) T.heap locs) : own_G p.tables e below (own_E s Q kc ks) (T.setTop (mkF m pc Ls (.long z :: rest))) := by
  obtain ⟨fs, hr, hrun, hended, hW, hsame⟩ := X.leave (v := some (.long z)) (fun h => by rw [hret] at h; cases h)
  exact ⟨_, _, retOut X hx hret rfl (Or.inr (Or.inl ⟨rfl, rfl, z, rfl⟩)) hd hr, hrun, hended, _, _, rfl, q, ⟨_, rfl⟩, hW, hsame.mono hc hs⟩
theorem own_retV (X : Stand p l e R s m args below meth c T locs cells slots) (hx : p.tables.exec = Jvm.exec) (hlk : meth.locks = false) {pc : Nat} {Ls : Array Slot} (hret : meth.sig.returnType = none) (hd : decode c.code pc = .ok (.return_, 1))
    {Q : Option Value → Heap → List Loc → Prop} {kc ks : Nat} (hc : cells ≤ kc) (hs : slots ≤ ks) (q : Q none T.heap locs) : own_G p.tables e below (own_E s Q kc ks) (T.setTop (mkF m pc Ls [])) := by
  obtain ⟨fs, hr, hrun, hended, hW, hsame⟩ := X.leave (v := none) (fun _ => rfl)
  exact ⟨_, _, X.returnOut hx hret hd hr, hrun, hended, _, _, rfl, q, ⟨_, rfl⟩, hW, hsame.mono hc hs⟩
end OwnKit
theorem own_cat {v : Value} (h : v.isRef = true) : v.category = 1 := by cases v <;> first | rfl | (simp [Value.isRef] at h)
theorem own_i32 {a b : Int32} (h : a.toInt = b.toInt) : a = b := Int32.toInt_inj.mp h
theorem own_i64 {a b : Int64} (h : a.toInt = b.toInt) : a = b := Int64.toInt_inj.mp h
/-- (x & 0x7fffffff) % d lies from 0 to d - 1 -/
theorem own_mod (x y : Int32) (d : Int) (hy : y.toInt = d) (hd : 0 < d) : 0 ≤ ((x &&& 2147483647) % y).toInt ∧ ((x &&& 2147483647) % y).toInt < d ∧ ((x &&& 2147483647) % y).toInt = (x.toInt % 2147483648) % d := by
  have h1 := c_mask x 2147483647 31 (by decide) (by decide)
  have h2 := (c_irem (x &&& 2147483647) y d hy).1 (by rw [h1]; omega)
  rw [h2, h1]
  refine ⟨Int.emod_nonneg _ (by omega), Int.emod_lt_of_pos _ hd, rfl⟩
theorem own_or1 (x : Int32) : ¬ (((x ||| 1) &&& 1) = (0 : Int32)) := by
  have h : (x ||| 1) &&& 1 = (1 : Int32) := by
    apply Int32.toBitVec_inj.mp
    show (x.toBitVec ||| 1#32) &&& 1#32 = 1#32
    ext i hi
    simp
    omega
  rw [h]; decide
theorem own_par (x : Int32) : (x % 2 = (0 : Int32) → (x &&& 1) = (0 : Int32)) ∧ (¬ (x % 2 = (0 : Int32)) → ¬ ((x &&& 1) = (0 : Int32))) := by
  have h3 := c_mask x 1 1 (by decide) (by decide)
  have e3 : (x &&& 1).toInt = x.toInt % 2 := h3
  have h1 := c_irem x 2 2 (by decide)
  have z : (0 : Int32).toInt = 0 := by decide
  have hb : (x % 2).toInt = 0 ↔ x.toInt % 2 = 0 := by
    rcases Int.lt_or_le x.toInt 0 with h | h
    · have := h1.2 h
      omega
    · have := h1.1 h
      omega
  refine ⟨fun h => own_i32 ?_, fun h h' => h (own_i32 ?_)⟩
  · rw [h] at hb; omega
  · rw [h'] at e3; omega
theorem d2_0 : decode jdk_30_method_1_code 0 = .ok (.aload_n 0, 1) := by decide +kernel
theorem d2_1 : decode jdk_30_method_1_code 1 = .ok (.invokespecial 1, 3) := by decide +kernel
theorem d2_4 : decode jdk_30_method_1_code 4 = .ok (.return_, 1) := by decide +kernel
theorem pn_2 : plainName "java/lang/Record" = true := by first | (simp [plainName, overriddenIn]; done) | decide +kernel
theorem ef_recInit (m : MethodId) (x0 : Addr) : entryFrame m #[(.ref x0)] 1 = mkF m 0 #[.val (.ref x0)] [] := by first | (simp [entryFrame, mkF, argsToLocals, Value.category]; done) | rfl
def Q_recInit (Z : State) (a1 : Addr) (h0 : Heap) (n0 : Nat) (v : Option Value) (h : Heap) (L : List Loc) : Prop := v = none ∧ Fr n0 L ∧ h = h0
set_option maxRecDepth 65536 in
set_option maxHeartbeats 40000000 in
theorem rm_recInit (l : Launch) (Z : State) (a0 : Array Value) (hw : ∀ d ∈ tables_1, d.before a0 Z = true) (ws : List Jvm.Cond) (a1 : Addr) (h0 : Heap) (n0 : Nat) (Z0 : n0 ≤ h0.size)  :
    MetFree l (⟨"java/lang/Record", "<init>", "()V"⟩ : MethodName) (head1 (Jvm.Cond.code (⟨"java/lang/Record", "<init>", "()V"⟩ : MethodName) jdk_30_method_1_code 1 none :: ws) ({ frames := 1, cells := 0, slots := 0, locals := 12 } : Room)) (fun a U => a = #[(.ref a1)] ∧ Z.Warmed39 U.vm ∧ U.heap = h0) (fun _ _ _ _ _ => True) (fun _ U o U' => ∃ v L, o = .returned v ∧ Q_recInit Z a1 h0 n0 v U'.heap L ∧ FrameEnd U o U' L ({ frames := 1, cells := 0, slots := 0, locals := 12 } : Room).cells ({ frames := 1, cells := 0, slots := 0, locals := 12 } : Room).slots) := by
  refine MetFree.of_bodySF (plainFor_of_name pn_2) hisR ?_
  intro p e s m args below meth c s₁ Bd hml0 hP hK
  obtain ⟨rfl, hZ, hh⟩ := hP
  have hx := Bd.exec
  have hby := Bd.bytes
  have hml : c.maxLocals = 1 := hml0
  have hown : s.vm.findClass "java/lang/Record" = some m.cls := findClass_of_methodNamed Bd.named
  have hnm := (name_of_methodNamed Bd.named Bd.method).1
  have hlk := Bd.notSynchronized
  have hret := Bd.returns
  have X0 : Stand p l e ({ frames := 1, cells := 0, slots := 0, locals := 12 } : Room) s m #[(.ref a1)] below meth c s₁ [] 0 0 := Stand.of_body Bd
  have e0 : s₁.heap = h0 := by rw [← hh, Bd.state]; rfl
  have N0 := Fr.nil n0
  refine own_in ({ frames := 1, cells := 0, slots := 0, locals := 12 } : Room).cells ({ frames := 1, cells := 0, slots := 0, locals := 12 } : Room).slots (Q_recInit Z a1 h0 n0) (ef_recInit m a1) ?_
  show own_G p.tables e below _ (s₁.setTop (mkF m 0 #[.val (.ref a1)] []))
  refine own_st (fun _ kS => XS.aloadN X0.here hx rfl (hb hby d2_0) rfl rfl kS) ?_
  show own_G p.tables e below _ (s₁.setTop (mkF m 1 #[.val (.ref a1)] [(.ref a1)]))
  obtain ⟨T1, X1, e1, st1⟩ := initO X0 hx hZ hown (hw _ (List.mem_of_getElem? (i := 11) rfl)) (hw _ (List.mem_of_getElem? (i := 12) rfl)) (hw _ (List.mem_of_getElem? (i := 13) rfl)) e0 (g := (mkF m 1 #[.val (.ref a1)] [(.ref a1)])) rfl (by rw [hml]; rfl) rfl (hb hby d2_1) (by decide) (W := 0) (by show 2 * 0 + _ ≤ _; exact Nat.le_of_eq rfl) (by decide)
  refine own_st st1 ?_
  show own_G p.tables e below _ (T1.setTop (mkF m 4 #[.val (.ref a1)] []))
  exact own_retV X1 hx hlk hret (hb hby d2_4) (by decide) (by decide) (by rw [e1]; exact ⟨rfl, N0, rfl⟩)
theorem d4_0 : decode jdk_72_method_26_code 0 = .ok (.getstatic 81, 3) := by decide +kernel
theorem d4_3 : decode jdk_72_method_26_code 3 = .ok (.areturn, 1) := by decide +kernel
theorem pn_4 : plainName "java/util/Map" = true := by first | (simp [plainName, overriddenIn]; done) | decide +kernel
theorem ef_mapOf (m : MethodId)  : entryFrame m #[] 0 = mkF m 0 #[] [] := by first | (simp [entryFrame, mkF, argsToLocals, Value.category]; done) | rfl
def Q_mapOf (Z : State) (wE : Addr) (h0 : Heap) (n0 : Nat) (v : Option Value) (h : Heap) (L : List Loc) : Prop := v = some (.ref wE) ∧ Fr n0 L ∧ h = h0
set_option maxRecDepth 65536 in
set_option maxHeartbeats 40000000 in
theorem rm_mapOf (l : Launch) (Z : State) (a0 : Array Value) (hw : ∀ d ∈ tables_1, d.before a0 Z = true) (ws : List Jvm.Cond) (wE : Addr) (h0 : Heap) (n0 : Nat) (Z0 : n0 ≤ h0.size) (O0 : Old Z n0 h0) (S_E : Sta Z Z.heap "java/util/ImmutableCollections" "EMPTY_MAP" "Ljava/util/ImmutableCollections$MapN;" (.ref wE)) :
    MetFree l (⟨"java/util/Map", "of", "()Ljava/util/Map;"⟩ : MethodName) (head1 (Jvm.Cond.code (⟨"java/util/Map", "of", "()Ljava/util/Map;"⟩ : MethodName) jdk_72_method_26_code 0 (some (.object "java/util/Map")) :: ws) ({ frames := 0, cells := 0, slots := 0, locals := 0 } : Room)) (fun a U => a = #[] ∧ Z.Warmed39 U.vm ∧ U.heap = h0) (fun _ _ _ _ _ => True) (fun _ U o U' => ∃ v L, o = .returned v ∧ Q_mapOf Z wE h0 n0 v U'.heap L ∧ FrameEnd U o U' L ({ frames := 0, cells := 0, slots := 0, locals := 0 } : Room).cells ({ frames := 0, cells := 0, slots := 0, locals := 0 } : Room).slots) := by
  refine MetFree.of_bodySF (plainFor_of_name pn_4) hisR ?_
  intro p e s m args below meth c s₁ Bd hml0 hP hK
  obtain ⟨rfl, hZ, hh⟩ := hP
  have hx := Bd.exec
  have hby := Bd.bytes
  have hml : c.maxLocals = 0 := hml0
  have hown : s.vm.findClass "java/util/Map" = some m.cls := findClass_of_methodNamed Bd.named
  have hnm := (name_of_methodNamed Bd.named Bd.method).1
  have hlk := Bd.notSynchronized
  have hret := Bd.returns
  have X0 : Stand p l e ({ frames := 0, cells := 0, slots := 0, locals := 0 } : Room) s m #[] below meth c s₁ [] 0 0 := Stand.of_body Bd
  have e0 : s₁.heap = h0 := by rw [← hh, Bd.state]; rfl
  have N0 := Fr.nil n0
  refine own_in ({ frames := 0, cells := 0, slots := 0, locals := 0 } : Room).cells ({ frames := 0, cells := 0, slots := 0, locals := 0 } : Room).slots (Q_mapOf Z wE h0 n0) (ef_mapOf m ) ?_
  show own_G p.tables e below _ (s₁.setTop (mkF m 0 #[] []))
  obtain ⟨T1, X1, e1, st1⟩ := getS2 X0 hx hZ hown (host := "") (Or.inl (hw _ (List.mem_of_getElem? (i := 18) rfl))) Via.refl e0 (Sta.ext O0.2 S_E) (g := (mkF m 0 #[] [])) rfl (hb hby d4_0)
  refine own_st st1 ?_
  show own_G p.tables e below _ (T1.setTop (mkF m 3 #[] [(.ref wE)]))
  exact own_retA X1 hx hlk hret rfl rfl (hb hby d4_3) (by decide) (by decide) (by rw [e1]; exact ⟨rfl, N0, rfl⟩)
theorem d1_0 : decode prog_27_method_1_code 0 = .ok (.aload_n 0, 1) := by decide +kernel
theorem d1_1 : decode prog_27_method_1_code 1 = .ok (.invokespecial 1, 3) := by decide +kernel
theorem d1_4 : decode prog_27_method_1_code 4 = .ok (.aload 5, 2) := by decide +kernel
theorem d1_6 : decode prog_27_method_1_code 6 = .ok (.ifnonnull 9, 3) := by decide +kernel
theorem d1_9 : decode prog_27_method_1_code 9 = .ok (.invokestatic 7, 3) := by decide +kernel
theorem d1_12 : decode prog_27_method_1_code 12 = .ok (.goto 8, 3) := by decide +kernel
theorem d1_15 : decode prog_27_method_1_code 15 = .ok (.aload 5, 2) := by decide +kernel
theorem d1_17 : decode prog_27_method_1_code 17 = .ok (.invokestatic 13, 3) := by decide +kernel
theorem d1_20 : decode prog_27_method_1_code 20 = .ok (.astore 5, 2) := by decide +kernel
theorem d1_22 : decode prog_27_method_1_code 22 = .ok (.aload 6, 2) := by decide +kernel
theorem d1_24 : decode prog_27_method_1_code 24 = .ok (.ifnonnull 9, 3) := by decide +kernel
theorem d1_27 : decode prog_27_method_1_code 27 = .ok (.getstatic 17, 3) := by decide +kernel
theorem d1_30 : decode prog_27_method_1_code 30 = .ok (.goto 5, 3) := by decide +kernel
theorem d1_33 : decode prog_27_method_1_code 33 = .ok (.aload 6, 2) := by decide +kernel
theorem d1_35 : decode prog_27_method_1_code 35 = .ok (.astore 6, 2) := by decide +kernel
theorem d1_37 : decode prog_27_method_1_code 37 = .ok (.aload_n 0, 1) := by decide +kernel
theorem d1_38 : decode prog_27_method_1_code 38 = .ok (.iload_n 1, 1) := by decide +kernel
theorem d1_39 : decode prog_27_method_1_code 39 = .ok (.putfield 23, 3) := by decide +kernel
theorem d1_42 : decode prog_27_method_1_code 42 = .ok (.aload_n 0, 1) := by decide +kernel
theorem d1_43 : decode prog_27_method_1_code 43 = .ok (.iload_n 2, 1) := by decide +kernel
theorem d1_44 : decode prog_27_method_1_code 44 = .ok (.putfield 27, 3) := by decide +kernel
theorem d1_47 : decode prog_27_method_1_code 47 = .ok (.aload_n 0, 1) := by decide +kernel
theorem d1_48 : decode prog_27_method_1_code 48 = .ok (.iload_n 3, 1) := by decide +kernel
theorem d1_49 : decode prog_27_method_1_code 49 = .ok (.putfield 30, 3) := by decide +kernel
theorem d1_52 : decode prog_27_method_1_code 52 = .ok (.aload_n 0, 1) := by decide +kernel
theorem d1_53 : decode prog_27_method_1_code 53 = .ok (.aload 4, 2) := by decide +kernel
theorem d1_55 : decode prog_27_method_1_code 55 = .ok (.putfield 33, 3) := by decide +kernel
theorem d1_58 : decode prog_27_method_1_code 58 = .ok (.aload_n 0, 1) := by decide +kernel
theorem d1_59 : decode prog_27_method_1_code 59 = .ok (.aload 5, 2) := by decide +kernel
theorem d1_61 : decode prog_27_method_1_code 61 = .ok (.putfield 37, 3) := by decide +kernel
theorem d1_64 : decode prog_27_method_1_code 64 = .ok (.aload_n 0, 1) := by decide +kernel
theorem d1_65 : decode prog_27_method_1_code 65 = .ok (.aload 6, 2) := by decide +kernel
theorem d1_67 : decode prog_27_method_1_code 67 = .ok (.putfield 41, 3) := by decide +kernel
theorem d1_70 : decode prog_27_method_1_code 70 = .ok (.return_, 1) := by decide +kernel
theorem pn_1 : plainName "com/example/memo3/memo3/protocol/Command" = true := by first | (simp [plainName, overriddenIn]; done) | decide +kernel
theorem own_pd0 : parseMethodDescriptor "()V" = some ⟨[], none⟩ := by decide +kernel
theorem own_pd1 : parseMethodDescriptor "()Ljava/util/Map;" = some ⟨[], some (.object "java/util/Map")⟩ := by decide +kernel
theorem ef_cmdInit0 (m : MethodId) (x0 : Addr) (x1 : Int32) (x2 : Int32) (x3 : Int32) : entryFrame m #[(.ref x0), (.int x1), (.int x2), (.int x3), .null, .null, .null] 7 = mkF m 0 #[.val (.ref x0), .val (.int x1), .val (.int x2), .val (.int x3), .val .null, .val .null, .val .null] [] := by first | (simp [entryFrame, mkF, argsToLocals, Value.category]; done) | rfl
def Q_cmdInit0 (Z : State) (a1 : Addr) (p2 : Int32) (p3 : Int32) (p4 : Int32) (wE : Addr) (wB : Addr) (h0 : Heap) (n0 : Nat) (v : Option Value) (h : Heap) (L : List Loc) : Prop := v = none ∧ Fr n0 L ∧ Keep h0 h [a1] ∧ Exa Z h a1 "com/example/memo3/memo3/protocol/Command" ∧ Fld Z h a1 "com/example/memo3/memo3/protocol/Command" "code" "I" (.int p2) ∧ Fld Z h a1 "com/example/memo3/memo3/protocol/Command" "flag" "I" (.int p3) ∧ Fld Z h a1 "com/example/memo3/memo3/protocol/Command" "opaque" "I" (.int p4) ∧ Fld Z h a1 "com/example/memo3/memo3/protocol/Command" "remark" "Ljava/lang/String;" .null ∧ Fld Z h a1 "com/example/memo3/memo3/protocol/Command" "extFields" "Ljava/util/Map;" (.ref wE) ∧ Fld Z h a1 "com/example/memo3/memo3/protocol/Command" "body" "[B" (.ref wB)
set_option maxRecDepth 65536 in
set_option maxHeartbeats 40000000 in
theorem rm_cmdInit0 (l : Launch) (Z : State) (a0 : Array Value) (hw : ∀ d ∈ tables_1, d.before a0 Z = true) (ws : List Jvm.Cond) (a1 : Addr) (p2 : Int32) (p3 : Int32) (p4 : Int32) (wE : Addr) (wB : Addr) (h0 : Heap) (n0 : Nat) (Z0 : n0 ≤ h0.size) (O0 : Old Z n0 h0) (E_a1 : Exa Z h0 a1 "com/example/memo3/memo3/protocol/Command") (g_a1 : n0 ≤ a1) (F_code : Fld Z h0 a1 "com/example/memo3/memo3/protocol/Command" "code" "I" (.int (0 : Int32))) (F_flag : Fld Z h0 a1 "com/example/memo3/memo3/protocol/Command" "flag" "I" (.int (0 : Int32))) (F_opaque : Fld Z h0 a1 "com/example/memo3/memo3/protocol/Command" "opaque" "I" (.int (0 : Int32))) (F_remark : Fld Z h0 a1 "com/example/memo3/memo3/protocol/Command" "remark" "Ljava/lang/String;" .null) (F_extFields : Fld Z h0 a1 "com/example/memo3/memo3/protocol/Command" "extFields" "Ljava/util/Map;" .null) (F_body : Fld Z h0 a1 "com/example/memo3/memo3/protocol/Command" "body" "[B" .null) (S_E : Sta Z Z.heap "java/util/ImmutableCollections" "EMPTY_MAP" "Ljava/util/ImmutableCollections$MapN;" (.ref wE)) (S_B : Sta Z Z.heap "com/example/memo3/memo3/protocol/Command" "NO_BODY" "[B" (.ref wB)) :
    MetFree l (⟨"com/example/memo3/memo3/protocol/Command", "<init>", "(IIILjava/lang/String;Ljava/util/Map;[B)V"⟩ : MethodName) (head1 (Jvm.Cond.code (⟨"com/example/memo3/memo3/protocol/Command", "<init>", "(IIILjava/lang/String;Ljava/util/Map;[B)V"⟩ : MethodName) prog_27_method_1_code 7 none :: ws) ({ frames := 2, cells := 0, slots := 0, locals := 24 } : Room)) (fun a U => a = #[(.ref a1), (.int p2), (.int p3), (.int p4), .null, .null, .null] ∧ Z.Warmed39 U.vm ∧ U.heap = h0) (fun _ _ _ _ _ => True) (fun _ U o U' => ∃ v L, o = .returned v ∧ Q_cmdInit0 Z a1 p2 p3 p4 wE wB h0 n0 v U'.heap L ∧ FrameEnd U o U' L ({ frames := 2, cells := 0, slots := 0, locals := 24 } : Room).cells ({ frames := 2, cells := 0, slots := 0, locals := 24 } : Room).slots) := by
  refine MetFree.of_bodySF (plainFor_of_name pn_1) hisR ?_
  intro p e s m args below meth c s₁ Bd hml0 hP hK
  obtain ⟨rfl, hZ, hh⟩ := hP
  have hx := Bd.exec
  have hby := Bd.bytes
  have hml : c.maxLocals = 7 := hml0
  have hown : s.vm.findClass "com/example/memo3/memo3/protocol/Command" = some m.cls := findClass_of_methodNamed Bd.named
  have hnm := (name_of_methodNamed Bd.named Bd.method).1
  have hlk := Bd.notSynchronized
  have hret := Bd.returns
  have X0 : Stand p l e ({ frames := 2, cells := 0, slots := 0, locals := 24 } : Room) s m #[(.ref a1), (.int p2), (.int p3), (.int p4), .null, .null, .null] below meth c s₁ [] 0 0 := Stand.of_body Bd
  have e0 : s₁.heap = h0 := by rw [← hh, Bd.state]; rfl
  have N0 := Fr.nil n0
  have K0 := Keep.refl h0 [a1]
  refine own_in ({ frames := 2, cells := 0, slots := 0, locals := 24 } : Room).cells ({ frames := 2, cells := 0, slots := 0, locals := 24 } : Room).slots (Q_cmdInit0 Z a1 p2 p3 p4 wE wB h0 n0) (ef_cmdInit0 m a1 p2 p3 p4) ?_
  show own_G p.tables e below _ (s₁.setTop (mkF m 0 #[.val (.ref a1), .val (.int p2), .val (.int p3), .val (.int p4), .val .null, .val .null, .val .null] []))
  refine own_st (fun _ kS => XS.aloadN X0.here hx rfl (hb hby d1_0) rfl rfl kS) ?_
  show own_G p.tables e below _ (s₁.setTop (mkF m 1 #[.val (.ref a1), .val (.int p2), .val (.int p3), .val (.int p4), .val .null, .val .null, .val .null] [(.ref a1)]))
  obtain ⟨_, _, ⟨T1, L1, k1, n1⟩, -, X1, ⟨Lc1, hQ1, l1, y1, z1⟩, st1⟩ := X0.specialBack hx (y := (⟨"java/lang/Record", "<init>", "()V"⟩ : MethodName)) rfl hown (mvT hZ (hw _ (List.mem_of_getElem? (i := 6) rfl))) (mvT hZ (hw _ (List.mem_of_getElem? (i := 7) rfl))) (mvT hZ (hw _ (List.mem_of_getElem? (i := 10) rfl))) (by decide) (backOf (W := 0) (rm_recInit l Z a0 hw [] a1 h0 n0 Z0  ) hZ (hw _ (List.mem_of_getElem? (i := 10) rfl)) (hw _ (List.mem_of_getElem? (i := 9) rfl)) (by decide) (by decide)) (g := (mkF m 1 #[.val (.ref a1), .val (.int p2), .val (.int p3), .val (.int p4), .val .null, .val .null, .val .null] [(.ref a1)])) rfl (by rw [hml]; rfl) (Steps.refl _) (a := a1) (argsL := []) (rest := []) (lenOf own_pd0 rfl) rfl (by show 2 * 0 + _ ≤ _; exact Nat.le_of_eq rfl) (hb hby d1_1) (fun _ _ => ⟨rfl, e0, (by decide : 0 + 0 ≤ _), (by decide : 0 + 0 ≤ _)⟩)
  dsimp only [Pt.U, Pt.locs, Pt.cells, Pt.slots] at X1 l1 y1 z1 st1 hQ1
  subst l1 y1 z1
  obtain ⟨rfl, Nq1, eq1⟩ := hQ1
  have N1 := Fr.app N0 Nq1
  refine own_tr st1 ?_
  show own_G p.tables e below _ (T1.setTop (mkF m 4 #[.val (.ref a1), .val (.int p2), .val (.int p3), .val (.int p4), .val .null, .val .null, .val .null] []))
  refine own_st (fun _ kS => XS.aload X1.here hx rfl (hb hby d1_4) rfl rfl kS) ?_
  show own_G p.tables e below _ (T1.setTop (mkF m 6 #[.val (.ref a1), .val (.int p2), .val (.int p3), .val (.int p4), .val .null, .val .null, .val .null] [.null]))
  refine own_st (fun _ kS => XT.ifnonnullNo X1.here hx rfl (hb hby d1_6) rfl kS) ?_
  show own_G p.tables e below _ (T1.setTop (mkF m 9 #[.val (.ref a1), .val (.int p2), .val (.int p3), .val (.int p4), .val .null, .val .null, .val .null] []))
  obtain ⟨_, _, ⟨T2, L2, k2, n2⟩, -, X2, ⟨Lc2, hQ2, l2, y2, z2⟩, st2⟩ := Jvm.LawKit.callS X1 hx (y := (⟨"java/util/Map", "of", "()Ljava/util/Map;"⟩ : MethodName)) hown (mvT hZ (hw _ (List.mem_of_getElem? (i := 14) rfl))) (mvT hZ (hw _ (List.mem_of_getElem? (i := 15) rfl))) (mvT hZ (hw _ (List.mem_of_getElem? (i := 16) rfl))) (mvT hZ (hw _ (List.mem_of_getElem? (i := 17) rfl))) (by decide) (backOf (W := 0) (rm_mapOf l Z a0 hw [] wE h0 n0 Z0 O0 S_E) hZ (hw _ (List.mem_of_getElem? (i := 17) rfl)) (hw _ (List.mem_of_getElem? (i := 16) rfl)) (by decide) (by decide)) (g := (mkF m 9 #[.val (.ref a1), .val (.int p2), .val (.int p3), .val (.int p4), .val .null, .val .null, .val .null] [])) rfl (by rw [hml]; rfl) (argsL := []) (rest := []) (lenOf own_pd1 rfl) rfl (by show 2 * 0 + _ ≤ _; exact Nat.le_of_eq rfl) (hb hby d1_9) (fun _ _ => ⟨rfl, eq1, (by decide : 0 + 0 ≤ _), (by decide : 0 + 0 ≤ _)⟩)
  dsimp only [Pt.U, Pt.locs, Pt.cells, Pt.slots] at X2 l2 y2 z2 st2 hQ2
  subst l2 y2 z2
  obtain ⟨rfl, Nq2, eq2⟩ := hQ2
  have N2 := Fr.app N1 Nq2
  refine own_st st2 ?_
  show own_G p.tables e below _ (T2.setTop (mkF m 12 #[.val (.ref a1), .val (.int p2), .val (.int p3), .val (.int p4), .val .null, .val .null, .val .null] [(.ref wE)]))
  refine own_st (fun _ kS => XS.goto X2.here hx rfl (pc0 := 12) (pc' := 20) rfl (hb hby d1_12) (by decide) (by decide) kS) ?_
  show own_G p.tables e below _ (T2.setTop (mkF m 20 #[.val (.ref a1), .val (.int p2), .val (.int p3), .val (.int p4), .val .null, .val .null, .val .null] [(.ref wE)]))
  refine own_st (fun _ kS => XS.astore X2.here hx rfl (hb hby d1_20) rfl rfl (l' := #[.val (.ref a1), .val (.int p2), .val (.int p3), .val (.int p4), .val .null, .val (.ref wE), .val .null]) rfl kS) ?_
  show own_G p.tables e below _ (T2.setTop (mkF m 22 #[.val (.ref a1), .val (.int p2), .val (.int p3), .val (.int p4), .val .null, .val (.ref wE), .val .null] []))
  refine own_st (fun _ kS => XS.aload X2.here hx rfl (hb hby d1_22) rfl rfl kS) ?_
  show own_G p.tables e below _ (T2.setTop (mkF m 24 #[.val (.ref a1), .val (.int p2), .val (.int p3), .val (.int p4), .val .null, .val (.ref wE), .val .null] [.null]))
  refine own_st (fun _ kS => XT.ifnonnullNo X2.here hx rfl (hb hby d1_24) rfl kS) ?_
  show own_G p.tables e below _ (T2.setTop (mkF m 27 #[.val (.ref a1), .val (.int p2), .val (.int p3), .val (.int p4), .val .null, .val (.ref wE), .val .null] []))
  obtain ⟨T3, X3, e3, st3⟩ := getS2 X2 hx hZ hown (host := "") (Or.inl (hw _ (List.mem_of_getElem? (i := 20) rfl))) Via.refl eq2 (Sta.ext O0.2 S_B) (g := (mkF m 27 #[.val (.ref a1), .val (.int p2), .val (.int p3), .val (.int p4), .val .null, .val (.ref wE), .val .null] [])) rfl (hb hby d1_27)
  refine own_st st3 ?_
  show own_G p.tables e below _ (T3.setTop (mkF m 30 #[.val (.ref a1), .val (.int p2), .val (.int p3), .val (.int p4), .val .null, .val (.ref wE), .val .null] [(.ref wB)]))
  refine own_st (fun _ kS => XS.goto X3.here hx rfl (pc0 := 30) (pc' := 35) rfl (hb hby d1_30) (by decide) (by decide) kS) ?_
  show own_G p.tables e below _ (T3.setTop (mkF m 35 #[.val (.ref a1), .val (.int p2), .val (.int p3), .val (.int p4), .val .null, .val (.ref wE), .val .null] [(.ref wB)]))
  refine own_st (fun _ kS => XS.astore X3.here hx rfl (hb hby d1_35) rfl rfl (l' := #[.val (.ref a1), .val (.int p2), .val (.int p3), .val (.int p4), .val .null, .val (.ref wE), .val (.ref wB)]) rfl kS) ?_
  show own_G p.tables e below _ (T3.setTop (mkF m 37 #[.val (.ref a1), .val (.int p2), .val (.int p3), .val (.int p4), .val .null, .val (.ref wE), .val (.ref wB)] []))
  refine own_st (fun _ kS => XS.aloadN X3.here hx rfl (hb hby d1_37) rfl rfl kS) ?_
  show own_G p.tables e below _ (T3.setTop (mkF m 38 #[.val (.ref a1), .val (.int p2), .val (.int p3), .val (.int p4), .val .null, .val (.ref wE), .val (.ref wB)] [(.ref a1)]))
  refine own_st (fun _ kS => XS.iloadN X3.here hx rfl (hb hby d1_38) rfl kS) ?_
  show own_G p.tables e below _ (T3.setTop (mkF m 39 #[.val (.ref a1), .val (.int p2), .val (.int p3), .val (.int p4), .val .null, .val (.ref wE), .val (.ref wB)] [(.int p2), (.ref a1)]))
  obtain ⟨T4, h4, X4, e4, W4, st4⟩ := putF X3 hx hZ hown (host := "") (Or.inl (hw _ (List.mem_of_getElem? (i := 22) rfl))) Via.refl e3 F_code E_a1 (Or.inr ⟨(hw _ (List.mem_of_getElem? (i := 23) rfl)), rfl, hnm⟩) (hw _ (List.mem_of_getElem? (i := 1) rfl)) (ty := .int) (by decide) rfl rfl (g := (mkF m 39 #[.val (.ref a1), .val (.int p2), .val (.int p3), .val (.int p4), .val .null, .val (.ref wE), .val (.ref wB)] [(.int p2), (.ref a1)])) rfl rfl (hb hby d1_39)
  refine own_st st4 ?_
  have N4 := Fr.snoc X4 N2 g_a1
  have K4 := K0.wr W4 (Or.inl (List.mem_of_getElem? (i := 0) rfl))
  have O4 := O0.wr W4 g_a1
  have Fw4 := Fld.same W4 F_code
  show own_G p.tables e below _ (T4.setTop (mkF m 42 #[.val (.ref a1), .val (.int p2), .val (.int p3), .val (.int p4), .val .null, .val (.ref wE), .val (.ref wB)] []))
  refine own_st (fun _ kS => XS.aloadN X4.here hx rfl (hb hby d1_42) rfl rfl kS) ?_
  show own_G p.tables e below _ (T4.setTop (mkF m 43 #[.val (.ref a1), .val (.int p2), .val (.int p3), .val (.int p4), .val .null, .val (.ref wE), .val (.ref wB)] [(.ref a1)]))
  refine own_st (fun _ kS => XS.iloadN X4.here hx rfl (hb hby d1_43) rfl kS) ?_
  show own_G p.tables e below _ (T4.setTop (mkF m 44 #[.val (.ref a1), .val (.int p2), .val (.int p3), .val (.int p4), .val .null, .val (.ref wE), .val (.ref wB)] [(.int p3), (.ref a1)]))
  obtain ⟨T5, h5, X5, e5, W5, st5⟩ := putF X4 hx hZ hown (host := "") (Or.inl (hw _ (List.mem_of_getElem? (i := 24) rfl))) Via.refl e4 (Fld.other W4 F_flag (Or.inr (slot_ne (Or.inr (hw _ (List.mem_of_getElem? (i := 25) rfl))) (Or.inr (hw _ (List.mem_of_getElem? (i := 23) rfl))) (by decide) (t := .int) (t' := .int) (by decide) (by decide)))) (Exa.wr W4 E_a1) (Or.inr ⟨(hw _ (List.mem_of_getElem? (i := 25) rfl)), rfl, hnm⟩) (hw _ (List.mem_of_getElem? (i := 1) rfl)) (ty := .int) (by decide) rfl rfl (g := (mkF m 44 #[.val (.ref a1), .val (.int p2), .val (.int p3), .val (.int p4), .val .null, .val (.ref wE), .val (.ref wB)] [(.int p3), (.ref a1)])) rfl rfl (hb hby d1_44)
  refine own_st st5 ?_
  have N5 := Fr.snoc X5 N4 g_a1
  have K5 := K4.wr W5 (Or.inl (List.mem_of_getElem? (i := 0) rfl))
  have O5 := O4.wr W5 g_a1
  have Fw5 := Fld.same W5 (Fld.other W4 F_flag (Or.inr (slot_ne (Or.inr (hw _ (List.mem_of_getElem? (i := 25) rfl))) (Or.inr (hw _ (List.mem_of_getElem? (i := 23) rfl))) (by decide) (t := .int) (t' := .int) (by decide) (by decide))))
  show own_G p.tables e below _ (T5.setTop (mkF m 47 #[.val (.ref a1), .val (.int p2), .val (.int p3), .val (.int p4), .val .null, .val (.ref wE), .val (.ref wB)] []))
  refine own_st (fun _ kS => XS.aloadN X5.here hx rfl (hb hby d1_47) rfl rfl kS) ?_
  show own_G p.tables e below _ (T5.setTop (mkF m 48 #[.val (.ref a1), .val (.int p2), .val (.int p3), .val (.int p4), .val .null, .val (.ref wE), .val (.ref wB)] [(.ref a1)]))
  refine own_st (fun _ kS => XS.iloadN X5.here hx rfl (hb hby d1_48) rfl kS) ?_
  show own_G p.tables e below _ (T5.setTop (mkF m 49 #[.val (.ref a1), .val (.int p2), .val (.int p3), .val (.int p4), .val .null, .val (.ref wE), .val (.ref wB)] [(.int p4), (.ref a1)]))
  obtain ⟨T6, h6, X6, e6, W6, st6⟩ := putF X5 hx hZ hown (host := "") (Or.inl (hw _ (List.mem_of_getElem? (i := 26) rfl))) Via.refl e5 (Fld.other W5 (Fld.other W4 F_opaque (Or.inr (slot_ne (Or.inr (hw _ (List.mem_of_getElem? (i := 27) rfl))) (Or.inr (hw _ (List.mem_of_getElem? (i := 23) rfl))) (by decide) (t := .int) (t' := .int) (by decide) (by decide)))) (Or.inr (slot_ne (Or.inr (hw _ (List.mem_of_getElem? (i := 27) rfl))) (Or.inr (hw _ (List.mem_of_getElem? (i := 25) rfl))) (by decide) (t := .int) (t' := .int) (by decide) (by decide)))) (Exa.wr W5 (Exa.wr W4 E_a1)) (Or.inr ⟨(hw _ (List.mem_of_getElem? (i := 27) rfl)), rfl, hnm⟩) (hw _ (List.mem_of_getElem? (i := 1) rfl)) (ty := .int) (by decide) rfl rfl (g := (mkF m 49 #[.val (.ref a1), .val (.int p2), .val (.int p3), .val (.int p4), .val .null, .val (.ref wE), .val (.ref wB)] [(.int p4), (.ref a1)])) rfl rfl (hb hby d1_49)
  refine own_st st6 ?_
  have N6 := Fr.snoc X6 N5 g_a1
  have K6 := K5.wr W6 (Or.inl (List.mem_of_getElem? (i := 0) rfl))
  have O6 := O5.wr W6 g_a1
  have Fw6 := Fld.same W6 (Fld.other W5 (Fld.other W4 F_opaque (Or.inr (slot_ne (Or.inr (hw _ (List.mem_of_getElem? (i := 27) rfl))) (Or.inr (hw _ (List.mem_of_getElem? (i := 23) rfl))) (by decide) (t := .int) (t' := .int) (by decide) (by decide)))) (Or.inr (slot_ne (Or.inr (hw _ (List.mem_of_getElem? (i := 27) rfl))) (Or.inr (hw _ (List.mem_of_getElem? (i := 25) rfl))) (by decide) (t := .int) (t' := .int) (by decide) (by decide))))
  show own_G p.tables e below _ (T6.setTop (mkF m 52 #[.val (.ref a1), .val (.int p2), .val (.int p3), .val (.int p4), .val .null, .val (.ref wE), .val (.ref wB)] []))
  refine own_st (fun _ kS => XS.aloadN X6.here hx rfl (hb hby d1_52) rfl rfl kS) ?_
  show own_G p.tables e below _ (T6.setTop (mkF m 53 #[.val (.ref a1), .val (.int p2), .val (.int p3), .val (.int p4), .val .null, .val (.ref wE), .val (.ref wB)] [(.ref a1)]))
  refine own_st (fun _ kS => XS.aload X6.here hx rfl (hb hby d1_53) rfl rfl kS) ?_
  show own_G p.tables e below _ (T6.setTop (mkF m 55 #[.val (.ref a1), .val (.int p2), .val (.int p3), .val (.int p4), .val .null, .val (.ref wE), .val (.ref wB)] [.null, (.ref a1)]))
  obtain ⟨T7, h7, X7, e7, W7, st7⟩ := putF X6 hx hZ hown (host := "") (Or.inl (hw _ (List.mem_of_getElem? (i := 28) rfl))) Via.refl e6 (Fld.other W6 (Fld.other W5 (Fld.other W4 F_remark (Or.inr (slot_ne (Or.inr (hw _ (List.mem_of_getElem? (i := 29) rfl))) (Or.inr (hw _ (List.mem_of_getElem? (i := 23) rfl))) (by decide) (t := (.object "java/lang/String")) (t' := .int) (by decide) (by decide)))) (Or.inr (slot_ne (Or.inr (hw _ (List.mem_of_getElem? (i := 29) rfl))) (Or.inr (hw _ (List.mem_of_getElem? (i := 25) rfl))) (by decide) (t := (.object "java/lang/String")) (t' := .int) (by decide) (by decide)))) (Or.inr (slot_ne (Or.inr (hw _ (List.mem_of_getElem? (i := 29) rfl))) (Or.inr (hw _ (List.mem_of_getElem? (i := 27) rfl))) (by decide) (t := (.object "java/lang/String")) (t' := .int) (by decide) (by decide)))) (Exa.wr W6 (Exa.wr W5 (Exa.wr W4 E_a1))) (Or.inr ⟨(hw _ (List.mem_of_getElem? (i := 29) rfl)), rfl, hnm⟩) (hw _ (List.mem_of_getElem? (i := 1) rfl)) (ty := (.object "java/lang/String")) (by decide) rfl rfl (g := (mkF m 55 #[.val (.ref a1), .val (.int p2), .val (.int p3), .val (.int p4), .val .null, .val (.ref wE), .val (.ref wB)] [.null, (.ref a1)])) rfl rfl (hb hby d1_55)
  refine own_st st7 ?_
  have N7 := Fr.snoc X7 N6 g_a1
  have K7 := K6.wr W7 (Or.inl (List.mem_of_getElem? (i := 0) rfl))
  have O7 := O6.wr W7 g_a1
  have Fw7 := Fld.same W7 (Fld.other W6 (Fld.other W5 (Fld.other W4 F_remark (Or.inr (slot_ne (Or.inr (hw _ (List.mem_of_getElem? (i := 29) rfl))) (Or.inr (hw _ (List.mem_of_getElem? (i := 23) rfl))) (by decide) (t := (.object "java/lang/String")) (t' := .int) (by decide) (by decide)))) (Or.inr (slot_ne (Or.inr (hw _ (List.mem_of_getElem? (i := 29) rfl))) (Or.inr (hw _ (List.mem_of_getElem? (i := 25) rfl))) (by decide) (t := (.object "java/lang/String")) (t' := .int) (by decide) (by decide)))) (Or.inr (slot_ne (Or.inr (hw _ (List.mem_of_getElem? (i := 29) rfl))) (Or.inr (hw _ (List.mem_of_getElem? (i := 27) rfl))) (by decide) (t := (.object "java/lang/String")) (t' := .int) (by decide) (by decide))))
  show own_G p.tables e below _ (T7.setTop (mkF m 58 #[.val (.ref a1), .val (.int p2), .val (.int p3), .val (.int p4), .val .null, .val (.ref wE), .val (.ref wB)] []))
  refine own_st (fun _ kS => XS.aloadN X7.here hx rfl (hb hby d1_58) rfl rfl kS) ?_
  show own_G p.tables e below _ (T7.setTop (mkF m 59 #[.val (.ref a1), .val (.int p2), .val (.int p3), .val (.int p4), .val .null, .val (.ref wE), .val (.ref wB)] [(.ref a1)]))
  refine own_st (fun _ kS => XS.aload X7.here hx rfl (hb hby d1_59) rfl rfl kS) ?_
  show own_G p.tables e below _ (T7.setTop (mkF m 61 #[.val (.ref a1), .val (.int p2), .val (.int p3), .val (.int p4), .val .null, .val (.ref wE), .val (.ref wB)] [(.ref wE), (.ref a1)]))
  obtain ⟨T8, h8, X8, e8, W8, st8⟩ := putF X7 hx hZ hown (host := "") (Or.inl (hw _ (List.mem_of_getElem? (i := 30) rfl))) Via.refl e7 (Fld.other W7 (Fld.other W6 (Fld.other W5 (Fld.other W4 F_extFields (Or.inr (slot_ne (Or.inr (hw _ (List.mem_of_getElem? (i := 31) rfl))) (Or.inr (hw _ (List.mem_of_getElem? (i := 23) rfl))) (by decide) (t := (.object "java/util/Map")) (t' := .int) (by decide) (by decide)))) (Or.inr (slot_ne (Or.inr (hw _ (List.mem_of_getElem? (i := 31) rfl))) (Or.inr (hw _ (List.mem_of_getElem? (i := 25) rfl))) (by decide) (t := (.object "java/util/Map")) (t' := .int) (by decide) (by decide)))) (Or.inr (slot_ne (Or.inr (hw _ (List.mem_of_getElem? (i := 31) rfl))) (Or.inr (hw _ (List.mem_of_getElem? (i := 27) rfl))) (by decide) (t := (.object "java/util/Map")) (t' := .int) (by decide) (by decide)))) (Or.inr (slot_ne (Or.inr (hw _ (List.mem_of_getElem? (i := 31) rfl))) (Or.inr (hw _ (List.mem_of_getElem? (i := 29) rfl))) (by decide) (t := (.object "java/util/Map")) (t' := (.object "java/lang/String")) (by decide) (by decide)))) (Exa.wr W7 (Exa.wr W6 (Exa.wr W5 (Exa.wr W4 E_a1)))) (Or.inr ⟨(hw _ (List.mem_of_getElem? (i := 31) rfl)), rfl, hnm⟩) (hw _ (List.mem_of_getElem? (i := 1) rfl)) (ty := (.object "java/util/Map")) (by decide) rfl rfl (g := (mkF m 61 #[.val (.ref a1), .val (.int p2), .val (.int p3), .val (.int p4), .val .null, .val (.ref wE), .val (.ref wB)] [(.ref wE), (.ref a1)])) rfl rfl (hb hby d1_61)
  refine own_st st8 ?_
  have N8 := Fr.snoc X8 N7 g_a1
  have K8 := K7.wr W8 (Or.inl (List.mem_of_getElem? (i := 0) rfl))
  have O8 := O7.wr W8 g_a1
  have Fw8 := Fld.same W8 (Fld.other W7 (Fld.other W6 (Fld.other W5 (Fld.other W4 F_extFields (Or.inr (slot_ne (Or.inr (hw _ (List.mem_of_getElem? (i := 31) rfl))) (Or.inr (hw _ (List.mem_of_getElem? (i := 23) rfl))) (by decide) (t := (.object "java/util/Map")) (t' := .int) (by decide) (by decide)))) (Or.inr (slot_ne (Or.inr (hw _ (List.mem_of_getElem? (i := 31) rfl))) (Or.inr (hw _ (List.mem_of_getElem? (i := 25) rfl))) (by decide) (t := (.object "java/util/Map")) (t' := .int) (by decide) (by decide)))) (Or.inr (slot_ne (Or.inr (hw _ (List.mem_of_getElem? (i := 31) rfl))) (Or.inr (hw _ (List.mem_of_getElem? (i := 27) rfl))) (by decide) (t := (.object "java/util/Map")) (t' := .int) (by decide) (by decide)))) (Or.inr (slot_ne (Or.inr (hw _ (List.mem_of_getElem? (i := 31) rfl))) (Or.inr (hw _ (List.mem_of_getElem? (i := 29) rfl))) (by decide) (t := (.object "java/util/Map")) (t' := (.object "java/lang/String")) (by decide) (by decide))))
  show own_G p.tables e below _ (T8.setTop (mkF m 64 #[.val (.ref a1), .val (.int p2), .val (.int p3), .val (.int p4), .val .null, .val (.ref wE), .val (.ref wB)] []))
  refine own_st (fun _ kS => XS.aloadN X8.here hx rfl (hb hby d1_64) rfl rfl kS) ?_
  show own_G p.tables e below _ (T8.setTop (mkF m 65 #[.val (.ref a1), .val (.int p2), .val (.int p3), .val (.int p4), .val .null, .val (.ref wE), .val (.ref wB)] [(.ref a1)]))
  refine own_st (fun _ kS => XS.aload X8.here hx rfl (hb hby d1_65) rfl rfl kS) ?_
  show own_G p.tables e below _ (T8.setTop (mkF m 67 #[.val (.ref a1), .val (.int p2), .val (.int p3), .val (.int p4), .val .null, .val (.ref wE), .val (.ref wB)] [(.ref wB), (.ref a1)]))
  obtain ⟨T9, h9, X9, e9, W9, st9⟩ := putF X8 hx hZ hown (host := "") (Or.inl (hw _ (List.mem_of_getElem? (i := 32) rfl))) Via.refl e8 (Fld.other W8 (Fld.other W7 (Fld.other W6 (Fld.other W5 (Fld.other W4 F_body (Or.inr (slot_ne (Or.inr (hw _ (List.mem_of_getElem? (i := 33) rfl))) (Or.inr (hw _ (List.mem_of_getElem? (i := 23) rfl))) (by decide) (t := (.array .byte)) (t' := .int) (by decide) (by decide)))) (Or.inr (slot_ne (Or.inr (hw _ (List.mem_of_getElem? (i := 33) rfl))) (Or.inr (hw _ (List.mem_of_getElem? (i := 25) rfl))) (by decide) (t := (.array .byte)) (t' := .int) (by decide) (by decide)))) (Or.inr (slot_ne (Or.inr (hw _ (List.mem_of_getElem? (i := 33) rfl))) (Or.inr (hw _ (List.mem_of_getElem? (i := 27) rfl))) (by decide) (t := (.array .byte)) (t' := .int) (by decide) (by decide)))) (Or.inr (slot_ne (Or.inr (hw _ (List.mem_of_getElem? (i := 33) rfl))) (Or.inr (hw _ (List.mem_of_getElem? (i := 29) rfl))) (by decide) (t := (.array .byte)) (t' := (.object "java/lang/String")) (by decide) (by decide)))) (Or.inr (slot_ne (Or.inr (hw _ (List.mem_of_getElem? (i := 33) rfl))) (Or.inr (hw _ (List.mem_of_getElem? (i := 31) rfl))) (by decide) (t := (.array .byte)) (t' := (.object "java/util/Map")) (by decide) (by decide)))) (Exa.wr W8 (Exa.wr W7 (Exa.wr W6 (Exa.wr W5 (Exa.wr W4 E_a1))))) (Or.inr ⟨(hw _ (List.mem_of_getElem? (i := 33) rfl)), rfl, hnm⟩) (hw _ (List.mem_of_getElem? (i := 1) rfl)) (ty := (.array .byte)) (by decide) rfl rfl (g := (mkF m 67 #[.val (.ref a1), .val (.int p2), .val (.int p3), .val (.int p4), .val .null, .val (.ref wE), .val (.ref wB)] [(.ref wB), (.ref a1)])) rfl rfl (hb hby d1_67)
  refine own_st st9 ?_
  have N9 := Fr.snoc X9 N8 g_a1
  have K9 := K8.wr W9 (Or.inl (List.mem_of_getElem? (i := 0) rfl))
  have O9 := O8.wr W9 g_a1
  have Fw9 := Fld.same W9 (Fld.other W8 (Fld.other W7 (Fld.other W6 (Fld.other W5 (Fld.other W4 F_body (Or.inr (slot_ne (Or.inr (hw _ (List.mem_of_getElem? (i := 33) rfl))) (Or.inr (hw _ (List.mem_of_getElem? (i := 23) rfl))) (by decide) (t := (.array .byte)) (t' := .int) (by decide) (by decide)))) (Or.inr (slot_ne (Or.inr (hw _ (List.mem_of_getElem? (i := 33) rfl))) (Or.inr (hw _ (List.mem_of_getElem? (i := 25) rfl))) (by decide) (t := (.array .byte)) (t' := .int) (by decide) (by decide)))) (Or.inr (slot_ne (Or.inr (hw _ (List.mem_of_getElem? (i := 33) rfl))) (Or.inr (hw _ (List.mem_of_getElem? (i := 27) rfl))) (by decide) (t := (.array .byte)) (t' := .int) (by decide) (by decide)))) (Or.inr (slot_ne (Or.inr (hw _ (List.mem_of_getElem? (i := 33) rfl))) (Or.inr (hw _ (List.mem_of_getElem? (i := 29) rfl))) (by decide) (t := (.array .byte)) (t' := (.object "java/lang/String")) (by decide) (by decide)))) (Or.inr (slot_ne (Or.inr (hw _ (List.mem_of_getElem? (i := 33) rfl))) (Or.inr (hw _ (List.mem_of_getElem? (i := 31) rfl))) (by decide) (t := (.array .byte)) (t' := (.object "java/util/Map")) (by decide) (by decide))))
  show own_G p.tables e below _ (T9.setTop (mkF m 70 #[.val (.ref a1), .val (.int p2), .val (.int p3), .val (.int p4), .val .null, .val (.ref wE), .val (.ref wB)] []))
  exact own_retV X9 hx hlk hret (hb hby d1_70) (by decide) (by decide) (by rw [e9]; exact ⟨rfl, N9, K9, (Exa.wr W9 (Exa.wr W8 (Exa.wr W7 (Exa.wr W6 (Exa.wr W5 (Exa.wr W4 E_a1)))))), (Fld.other W9 (Fld.other W8 (Fld.other W7 (Fld.other W6 (Fld.other W5 Fw4 (Or.inr (slot_ne (Or.inr (hw _ (List.mem_of_getElem? (i := 23) rfl))) (Or.inr (hw _ (List.mem_of_getElem? (i := 25) rfl))) (by decide) (t := .int) (t' := .int) (by decide) (by decide)))) (Or.inr (slot_ne (Or.inr (hw _ (List.mem_of_getElem? (i := 23) rfl))) (Or.inr (hw _ (List.mem_of_getElem? (i := 27) rfl))) (by decide) (t := .int) (t' := .int) (by decide) (by decide)))) (Or.inr (slot_ne (Or.inr (hw _ (List.mem_of_getElem? (i := 23) rfl))) (Or.inr (hw _ (List.mem_of_getElem? (i := 29) rfl))) (by decide) (t := .int) (t' := (.object "java/lang/String")) (by decide) (by decide)))) (Or.inr (slot_ne (Or.inr (hw _ (List.mem_of_getElem? (i := 23) rfl))) (Or.inr (hw _ (List.mem_of_getElem? (i := 31) rfl))) (by decide) (t := .int) (t' := (.object "java/util/Map")) (by decide) (by decide)))) (Or.inr (slot_ne (Or.inr (hw _ (List.mem_of_getElem? (i := 23) rfl))) (Or.inr (hw _ (List.mem_of_getElem? (i := 33) rfl))) (by decide) (t := .int) (t' := (.array .byte)) (by decide) (by decide)))), (Fld.other W9 (Fld.other W8 (Fld.other W7 (Fld.other W6 Fw5 (Or.inr (slot_ne (Or.inr (hw _ (List.mem_of_getElem? (i := 25) rfl))) (Or.inr (hw _ (List.mem_of_getElem? (i := 27) rfl))) (by decide) (t := .int) (t' := .int) (by decide) (by decide)))) (Or.inr (slot_ne (Or.inr (hw _ (List.mem_of_getElem? (i := 25) rfl))) (Or.inr (hw _ (List.mem_of_getElem? (i := 29) rfl))) (by decide) (t := .int) (t' := (.object "java/lang/String")) (by decide) (by decide)))) (Or.inr (slot_ne (Or.inr (hw _ (List.mem_of_getElem? (i := 25) rfl))) (Or.inr (hw _ (List.mem_of_getElem? (i := 31) rfl))) (by decide) (t := .int) (t' := (.object "java/util/Map")) (by decide) (by decide)))) (Or.inr (slot_ne (Or.inr (hw _ (List.mem_of_getElem? (i := 25) rfl))) (Or.inr (hw _ (List.mem_of_getElem? (i := 33) rfl))) (by decide) (t := .int) (t' := (.array .byte)) (by decide) (by decide)))), (Fld.other W9 (Fld.other W8 (Fld.other W7 Fw6 (Or.inr (slot_ne (Or.inr (hw _ (List.mem_of_getElem? (i := 27) rfl))) (Or.inr (hw _ (List.mem_of_getElem? (i := 29) rfl))) (by decide) (t := .int) (t' := (.object "java/lang/String")) (by decide) (by decide)))) (Or.inr (slot_ne (Or.inr (hw _ (List.mem_of_getElem? (i := 27) rfl))) (Or.inr (hw _ (List.mem_of_getElem? (i := 31) rfl))) (by decide) (t := .int) (t' := (.object "java/util/Map")) (by decide) (by decide)))) (Or.inr (slot_ne (Or.inr (hw _ (List.mem_of_getElem? (i := 27) rfl))) (Or.inr (hw _ (List.mem_of_getElem? (i := 33) rfl))) (by decide) (t := .int) (t' := (.array .byte)) (by decide) (by decide)))), (Fld.other W9 (Fld.other W8 Fw7 (Or.inr (slot_ne (Or.inr (hw _ (List.mem_of_getElem? (i := 29) rfl))) (Or.inr (hw _ (List.mem_of_getElem? (i := 31) rfl))) (by decide) (t := (.object "java/lang/String")) (t' := (.object "java/util/Map")) (by decide) (by decide)))) (Or.inr (slot_ne (Or.inr (hw _ (List.mem_of_getElem? (i := 29) rfl))) (Or.inr (hw _ (List.mem_of_getElem? (i := 33) rfl))) (by decide) (t := (.object "java/lang/String")) (t' := (.array .byte)) (by decide) (by decide)))), (Fld.other W9 Fw8 (Or.inr (slot_ne (Or.inr (hw _ (List.mem_of_getElem? (i := 31) rfl))) (Or.inr (hw _ (List.mem_of_getElem? (i := 33) rfl))) (by decide) (t := (.object "java/util/Map")) (t' := (.array .byte)) (by decide) (by decide)))), Fw9⟩)
theorem d5_0 : decode prog_27_method_6_code 0 = .ok (.aload_n 0, 1) := by decide +kernel
theorem d5_1 : decode prog_27_method_6_code 1 = .ok (.getfield 27, 3) := by decide +kernel
theorem d5_4 : decode prog_27_method_6_code 4 = .ok (.iconst 1, 1) := by decide +kernel
theorem d5_5 : decode prog_27_method_6_code 5 = .ok (.iand, 1) := by decide +kernel
theorem d5_6 : decode prog_27_method_6_code 6 = .ok (.ifCond .eq 7, 3) := by decide +kernel
theorem d5_9 : decode prog_27_method_6_code 9 = .ok (.iconst 1, 1) := by decide +kernel
theorem d5_10 : decode prog_27_method_6_code 10 = .ok (.goto 4, 3) := by decide +kernel
theorem d5_13 : decode prog_27_method_6_code 13 = .ok (.iconst 0, 1) := by decide +kernel
theorem d5_14 : decode prog_27_method_6_code 14 = .ok (.ireturn, 1) := by decide +kernel
theorem pn_5 : plainName "com/example/memo3/memo3/protocol/Command" = true := by first | (simp [plainName, overriddenIn]; done) | decide +kernel
theorem ef_isRes0 (m : MethodId) (x0 : Addr) : entryFrame m #[(.ref x0)] 1 = mkF m 0 #[.val (.ref x0)] [] := by first | (simp [entryFrame, mkF, argsToLocals, Value.category]; done) | rfl
def Q_isRes0 (Z : State) (a1 : Addr) (w2 : Int32) (h0 : Heap) (n0 : Nat) (v : Option Value) (h : Heap) (L : List Loc) : Prop := v = some (.int (0 : Int32)) ∧ Fr n0 L ∧ h = h0
set_option maxRecDepth 65536 in
set_option maxHeartbeats 40000000 in
theorem rm_isRes0 (l : Launch) (Z : State) (a0 : Array Value) (hw : ∀ d ∈ tables_1, d.before a0 Z = true) (ws : List Jvm.Cond) (a1 : Addr) (w2 : Int32) (h0 : Heap) (n0 : Nat) (Z0 : n0 ≤ h0.size) (F : Fld Z h0 a1 "com/example/memo3/memo3/protocol/Command" "flag" "I" (.int w2)) (hy0 : (w2 &&& (1 : Int32)) = (0 : Int32)) :
    MetFree l (⟨"com/example/memo3/memo3/protocol/Command", "isResponse", "()Z"⟩ : MethodName) (head1 (Jvm.Cond.code (⟨"com/example/memo3/memo3/protocol/Command", "isResponse", "()Z"⟩ : MethodName) prog_27_method_6_code 1 (some .boolean) :: ws) ({ frames := 0, cells := 0, slots := 0, locals := 0 } : Room)) (fun a U => a = #[(.ref a1)] ∧ Z.Warmed39 U.vm ∧ U.heap = h0) (fun _ _ _ _ _ => True) (fun _ U o U' => ∃ v L, o = .returned v ∧ Q_isRes0 Z a1 w2 h0 n0 v U'.heap L ∧ FrameEnd U o U' L ({ frames := 0, cells := 0, slots := 0, locals := 0 } : Room).cells ({ frames := 0, cells := 0, slots := 0, locals := 0 } : Room).slots) := by
  refine MetFree.of_bodySF (plainFor_of_name pn_5) hisR ?_
  intro p e s m args below meth c s₁ Bd hml0 hP hK
  obtain ⟨rfl, hZ, hh⟩ := hP
  have hx := Bd.exec
  have hby := Bd.bytes
  have hml : c.maxLocals = 1 := hml0
  have hown : s.vm.findClass "com/example/memo3/memo3/protocol/Command" = some m.cls := findClass_of_methodNamed Bd.named
  have hnm := (name_of_methodNamed Bd.named Bd.method).1
  have hlk := Bd.notSynchronized
  have hret := Bd.returns
  have X0 : Stand p l e ({ frames := 0, cells := 0, slots := 0, locals := 0 } : Room) s m #[(.ref a1)] below meth c s₁ [] 0 0 := Stand.of_body Bd
  have e0 : s₁.heap = h0 := by rw [← hh, Bd.state]; rfl
  have N0 := Fr.nil n0
  refine own_in ({ frames := 0, cells := 0, slots := 0, locals := 0 } : Room).cells ({ frames := 0, cells := 0, slots := 0, locals := 0 } : Room).slots (Q_isRes0 Z a1 w2 h0 n0) (ef_isRes0 m a1) ?_
  show own_G p.tables e below _ (s₁.setTop (mkF m 0 #[.val (.ref a1)] []))
  refine own_st (fun _ kS => XS.aloadN X0.here hx rfl (hb hby d5_0) rfl rfl kS) ?_
  show own_G p.tables e below _ (s₁.setTop (mkF m 1 #[.val (.ref a1)] [(.ref a1)]))
  obtain ⟨T1, X1, e1, st1⟩ := getF X0 hx hZ hown (host := "") (Or.inl (hw _ (List.mem_of_getElem? (i := 24) rfl))) Via.refl e0 F (g := (mkF m 1 #[.val (.ref a1)] [(.ref a1)])) rfl rfl (hb hby d5_1)
  refine own_st st1 ?_
  show own_G p.tables e below _ (T1.setTop (mkF m 4 #[.val (.ref a1)] [(.int w2)]))
  refine own_st (fun _ kS => XS.iconst X1.here hx rfl (hb hby d5_4) kS) ?_
  show own_G p.tables e below _ (T1.setTop (mkF m 5 #[.val (.ref a1)] [(.int (1 : Int32)), (.int w2)]))
  refine own_st (fun _ kS => XS.iand X1.here hx rfl (hb hby d5_5) rfl kS) ?_
  show own_G p.tables e below _ (T1.setTop (mkF m 6 #[.val (.ref a1)] [(.int (w2 &&& (1 : Int32)))]))
  refine own_st (fun _ kS => XS.ifYes X1.here hx rfl (pc0 := 6) (pc' := 13) rfl (hb hby d5_6) rfl ((if0 _ _).trans (teq (hy0 : (w2 &&& (1 : Int32)) = (0 : Int32))).1) (by decide) (by decide) kS) ?_
  show own_G p.tables e below _ (T1.setTop (mkF m 13 #[.val (.ref a1)] []))
  refine own_st (fun _ kS => XS.iconst X1.here hx rfl (hb hby d5_13) kS) ?_
  show own_G p.tables e below _ (T1.setTop (mkF m 14 #[.val (.ref a1)] [(.int (0 : Int32))]))
  exact own_retN X1 hx hlk (t := .boolean) hret (by simp) (hb hby d5_14) (by decide) (by decide) (v' := (0 : Int32)) rfl (by rw [e1]; exact ⟨rfl, N0, rfl⟩)
theorem ef_isRes1 (m : MethodId) (x0 : Addr) : entryFrame m #[(.ref x0)] 1 = mkF m 0 #[.val (.ref x0)] [] := by first | (simp [entryFrame, mkF, argsToLocals, Value.category]; done) | rfl
def Q_isRes1 (Z : State) (a1 : Addr) (w2 : Int32) (h0 : Heap) (n0 : Nat) (v : Option Value) (h : Heap) (L : List Loc) : Prop := v = some (.int (1 : Int32)) ∧ Fr n0 L ∧ h = h0
set_option maxRecDepth 65536 in
set_option maxHeartbeats 40000000 in
theorem rm_isRes1 (l : Launch) (Z : State) (a0 : Array Value) (hw : ∀ d ∈ tables_1, d.before a0 Z = true) (ws : List Jvm.Cond) (a1 : Addr) (w2 : Int32) (h0 : Heap) (n0 : Nat) (Z0 : n0 ≤ h0.size) (F : Fld Z h0 a1 "com/example/memo3/memo3/protocol/Command" "flag" "I" (.int w2)) (hy0 : ¬ ((w2 &&& (1 : Int32)) = (0 : Int32))) :
    MetFree l (⟨"com/example/memo3/memo3/protocol/Command", "isResponse", "()Z"⟩ : MethodName) (head1 (Jvm.Cond.code (⟨"com/example/memo3/memo3/protocol/Command", "isResponse", "()Z"⟩ : MethodName) prog_27_method_6_code 1 (some .boolean) :: ws) ({ frames := 0, cells := 0, slots := 0, locals := 0 } : Room)) (fun a U => a = #[(.ref a1)] ∧ Z.Warmed39 U.vm ∧ U.heap = h0) (fun _ _ _ _ _ => True) (fun _ U o U' => ∃ v L, o = .returned v ∧ Q_isRes1 Z a1 w2 h0 n0 v U'.heap L ∧ FrameEnd U o U' L ({ frames := 0, cells := 0, slots := 0, locals := 0 } : Room).cells ({ frames := 0, cells := 0, slots := 0, locals := 0 } : Room).slots) := by
  refine MetFree.of_bodySF (plainFor_of_name pn_5) hisR ?_
  intro p e s m args below meth c s₁ Bd hml0 hP hK
  obtain ⟨rfl, hZ, hh⟩ := hP
  have hx := Bd.exec
  have hby := Bd.bytes
  have hml : c.maxLocals = 1 := hml0
  have hown : s.vm.findClass "com/example/memo3/memo3/protocol/Command" = some m.cls := findClass_of_methodNamed Bd.named
  have hnm := (name_of_methodNamed Bd.named Bd.method).1
  have hlk := Bd.notSynchronized
  have hret := Bd.returns
  have X0 : Stand p l e ({ frames := 0, cells := 0, slots := 0, locals := 0 } : Room) s m #[(.ref a1)] below meth c s₁ [] 0 0 := Stand.of_body Bd
  have e0 : s₁.heap = h0 := by rw [← hh, Bd.state]; rfl
  have N0 := Fr.nil n0
  refine own_in ({ frames := 0, cells := 0, slots := 0, locals := 0 } : Room).cells ({ frames := 0, cells := 0, slots := 0, locals := 0 } : Room).slots (Q_isRes1 Z a1 w2 h0 n0) (ef_isRes1 m a1) ?_
  show own_G p.tables e below _ (s₁.setTop (mkF m 0 #[.val (.ref a1)] []))
  refine own_st (fun _ kS => XS.aloadN X0.here hx rfl (hb hby d5_0) rfl rfl kS) ?_
  show own_G p.tables e below _ (s₁.setTop (mkF m 1 #[.val (.ref a1)] [(.ref a1)]))
  obtain ⟨T1, X1, e1, st1⟩ := getF X0 hx hZ hown (host := "") (Or.inl (hw _ (List.mem_of_getElem? (i := 24) rfl))) Via.refl e0 F (g := (mkF m 1 #[.val (.ref a1)] [(.ref a1)])) rfl rfl (hb hby d5_1)
  refine own_st st1 ?_
  show own_G p.tables e below _ (T1.setTop (mkF m 4 #[.val (.ref a1)] [(.int w2)]))
  refine own_st (fun _ kS => XS.iconst X1.here hx rfl (hb hby d5_4) kS) ?_
  show own_G p.tables e below _ (T1.setTop (mkF m 5 #[.val (.ref a1)] [(.int (1 : Int32)), (.int w2)]))
  refine own_st (fun _ kS => XS.iand X1.here hx rfl (hb hby d5_5) rfl kS) ?_
  show own_G p.tables e below _ (T1.setTop (mkF m 6 #[.val (.ref a1)] [(.int (w2 &&& (1 : Int32)))]))
  refine own_st (fun _ kS => XS.ifNo X1.here hx rfl (hb hby d5_6) rfl ((if0 _ _).trans (feq (hy0 : ¬ ((w2 &&& (1 : Int32)) = (0 : Int32)))).1) kS) ?_
  show own_G p.tables e below _ (T1.setTop (mkF m 9 #[.val (.ref a1)] []))
  refine own_st (fun _ kS => XS.iconst X1.here hx rfl (hb hby d5_9) kS) ?_
  show own_G p.tables e below _ (T1.setTop (mkF m 10 #[.val (.ref a1)] [(.int (1 : Int32))]))
  refine own_st (fun _ kS => XS.goto X1.here hx rfl (pc0 := 10) (pc' := 14) rfl (hb hby d5_10) (by decide) (by decide) kS) ?_
  show own_G p.tables e below _ (T1.setTop (mkF m 14 #[.val (.ref a1)] [(.int (1 : Int32))]))
  exact own_retN X1 hx hlk (t := .boolean) hret (by simp) (hb hby d5_14) (by decide) (by decide) (v' := (1 : Int32)) rfl (by rw [e1]; exact ⟨rfl, N0, rfl⟩)
theorem d10_0 : decode prog_27_method_20_code 0 = .ok (.aload_n 0, 1) := by decide +kernel
theorem d10_1 : decode prog_27_method_20_code 1 = .ok (.getfield 30, 3) := by decide +kernel
theorem d10_4 : decode prog_27_method_20_code 4 = .ok (.ireturn, 1) := by decide +kernel
theorem pn_10 : plainName "com/example/memo3/memo3/protocol/Command" = true := by first | (simp [plainName, overriddenIn]; done) | decide +kernel
theorem ef_opaque (m : MethodId) (x0 : Addr) : entryFrame m #[(.ref x0)] 1 = mkF m 0 #[.val (.ref x0)] [] := by first | (simp [entryFrame, mkF, argsToLocals, Value.category]; done) | rfl
def Q_opaque (Z : State) (a1 : Addr) (w2 : Int32) (h0 : Heap) (n0 : Nat) (v : Option Value) (h : Heap) (L : List Loc) : Prop := v = some (.int w2) ∧ Fr n0 L ∧ h = h0
set_option maxRecDepth 65536 in
set_option maxHeartbeats 40000000 in
theorem rm_opaque (l : Launch) (Z : State) (a0 : Array Value) (hw : ∀ d ∈ tables_1, d.before a0 Z = true) (ws : List Jvm.Cond) (a1 : Addr) (w2 : Int32) (h0 : Heap) (n0 : Nat) (Z0 : n0 ≤ h0.size) (F : Fld Z h0 a1 "com/example/memo3/memo3/protocol/Command" "opaque" "I" (.int w2)) :
    MetFree l (⟨"com/example/memo3/memo3/protocol/Command", "opaque", "()I"⟩ : MethodName) (head1 (Jvm.Cond.code (⟨"com/example/memo3/memo3/protocol/Command", "opaque", "()I"⟩ : MethodName) prog_27_method_20_code 1 (some .int) :: ws) ({ frames := 0, cells := 0, slots := 0, locals := 0 } : Room)) (fun a U => a = #[(.ref a1)] ∧ Z.Warmed39 U.vm ∧ U.heap = h0) (fun _ _ _ _ _ => True) (fun _ U o U' => ∃ v L, o = .returned v ∧ Q_opaque Z a1 w2 h0 n0 v U'.heap L ∧ FrameEnd U o U' L ({ frames := 0, cells := 0, slots := 0, locals := 0 } : Room).cells ({ frames := 0, cells := 0, slots := 0, locals := 0 } : Room).slots) := by
  refine MetFree.of_bodySF (plainFor_of_name pn_10) hisR ?_
  intro p e s m args below meth c s₁ Bd hml0 hP hK
  obtain ⟨rfl, hZ, hh⟩ := hP
  have hx := Bd.exec
  have hby := Bd.bytes
  have hml : c.maxLocals = 1 := hml0
  have hown : s.vm.findClass "com/example/memo3/memo3/protocol/Command" = some m.cls := findClass_of_methodNamed Bd.named
  have hnm := (name_of_methodNamed Bd.named Bd.method).1
  have hlk := Bd.notSynchronized
  have hret := Bd.returns
  have X0 : Stand p l e ({ frames := 0, cells := 0, slots := 0, locals := 0 } : Room) s m #[(.ref a1)] below meth c s₁ [] 0 0 := Stand.of_body Bd
  have e0 : s₁.heap = h0 := by rw [← hh, Bd.state]; rfl
  have N0 := Fr.nil n0
  refine own_in ({ frames := 0, cells := 0, slots := 0, locals := 0 } : Room).cells ({ frames := 0, cells := 0, slots := 0, locals := 0 } : Room).slots (Q_opaque Z a1 w2 h0 n0) (ef_opaque m a1) ?_
  show own_G p.tables e below _ (s₁.setTop (mkF m 0 #[.val (.ref a1)] []))
  refine own_st (fun _ kS => XS.aloadN X0.here hx rfl (hb hby d10_0) rfl rfl kS) ?_
  show own_G p.tables e below _ (s₁.setTop (mkF m 1 #[.val (.ref a1)] [(.ref a1)]))
  obtain ⟨T1, X1, e1, st1⟩ := getF X0 hx hZ hown (host := "") (Or.inl (hw _ (List.mem_of_getElem? (i := 26) rfl))) Via.refl e0 F (g := (mkF m 1 #[.val (.ref a1)] [(.ref a1)])) rfl rfl (hb hby d10_1)
  refine own_st st1 ?_
  show own_G p.tables e below _ (T1.setTop (mkF m 4 #[.val (.ref a1)] [(.int w2)]))
  exact own_retI X1 hx hlk hret (hb hby d10_4) (by decide) (by decide) (by rw [e1]; exact ⟨rfl, N0, rfl⟩)
theorem d11_0 : decode jdk_72_method_39_code 0 = .ok (.aload_n 0, 1) := by decide +kernel
theorem d11_1 : decode jdk_72_method_39_code 1 = .ok (.instanceof 101, 3) := by decide +kernel
theorem d11_4 : decode jdk_72_method_39_code 4 = .ok (.ifCond .eq 5, 3) := by decide +kernel
theorem d11_7 : decode jdk_72_method_39_code 7 = .ok (.aload_n 0, 1) := by decide +kernel
theorem d11_8 : decode jdk_72_method_39_code 8 = .ok (.areturn, 1) := by decide +kernel
theorem d11_9 : decode jdk_72_method_39_code 9 = .ok (.aload_n 0, 1) := by decide +kernel
theorem d11_10 : decode jdk_72_method_39_code 10 = .ok (.invokeinterface 103 1, 5) := by decide +kernel
theorem d11_15 : decode jdk_72_method_39_code 15 = .ok (.ifCond .eq 7, 3) := by decide +kernel
theorem d11_18 : decode jdk_72_method_39_code 18 = .ok (.invokestatic 106, 3) := by decide +kernel
theorem d11_21 : decode jdk_72_method_39_code 21 = .ok (.areturn, 1) := by decide +kernel
theorem d11_22 : decode jdk_72_method_39_code 22 = .ok (.aload_n 0, 1) := by decide +kernel
theorem d11_23 : decode jdk_72_method_39_code 23 = .ok (.invokeinterface 16 1, 5) := by decide +kernel
theorem d11_28 : decode jdk_72_method_39_code 28 = .ok (.iconst 0, 1) := by decide +kernel
theorem d11_29 : decode jdk_72_method_39_code 29 = .ok (.anewarray 36, 3) := by decide +kernel
theorem d11_32 : decode jdk_72_method_39_code 32 = .ok (.invokeinterface 110 2, 5) := by decide +kernel
theorem d11_37 : decode jdk_72_method_39_code 37 = .ok (.checkcast 114, 3) := by decide +kernel
theorem d11_40 : decode jdk_72_method_39_code 40 = .ok (.invokestatic 116, 3) := by decide +kernel
theorem d11_43 : decode jdk_72_method_39_code 43 = .ok (.areturn, 1) := by decide +kernel
theorem pn_11 : plainName "java/util/Map" = true := by first | (simp [plainName, overriddenIn]; done) | decide +kernel
theorem ef_copyOf (m : MethodId) (x0 : Addr) : entryFrame m #[(.ref x0)] 1 = mkF m 0 #[.val (.ref x0)] [] := by first | (simp [entryFrame, mkF, argsToLocals, Value.category]; done) | rfl
def Q_copyOf (Z : State) (wE : Addr) (h0 : Heap) (n0 : Nat) (v : Option Value) (h : Heap) (L : List Loc) : Prop := v = some (.ref wE) ∧ Fr n0 L ∧ h = h0
set_option maxRecDepth 65536 in
set_option maxHeartbeats 40000000 in
theorem rm_copyOf (l : Launch) (Z : State) (a0 : Array Value) (hw : ∀ d ∈ tables_1, d.before a0 Z = true) (ws : List Jvm.Cond) (wE : Addr) (h0 : Heap) (n0 : Nat) (Z0 : n0 ≤ h0.size) (O0 : Old Z n0 h0) (E_E : Exa Z Z.heap wE "java/util/ImmutableCollections$MapN") :
    MetFree l (⟨"java/util/Map", "copyOf", "(Ljava/util/Map;)Ljava/util/Map;"⟩ : MethodName) (head1 (Jvm.Cond.code (⟨"java/util/Map", "copyOf", "(Ljava/util/Map;)Ljava/util/Map;"⟩ : MethodName) jdk_72_method_39_code 1 (some (.object "java/util/Map")) :: ws) ({ frames := 0, cells := 0, slots := 0, locals := 0 } : Room)) (fun a U => a = #[(.ref wE)] ∧ Z.Warmed39 U.vm ∧ U.heap = h0) (fun _ _ _ _ _ => True) (fun _ U o U' => ∃ v L, o = .returned v ∧ Q_copyOf Z wE h0 n0 v U'.heap L ∧ FrameEnd U o U' L ({ frames := 0, cells := 0, slots := 0, locals := 0 } : Room).cells ({ frames := 0, cells := 0, slots := 0, locals := 0 } : Room).slots) := by
  refine MetFree.of_bodySF (plainFor_of_name pn_11) hisR ?_
  intro p e s m args below meth c s₁ Bd hml0 hP hK
  obtain ⟨rfl, hZ, hh⟩ := hP
  have hx := Bd.exec
  have hby := Bd.bytes
  have hml : c.maxLocals = 1 := hml0
  have hown : s.vm.findClass "java/util/Map" = some m.cls := findClass_of_methodNamed Bd.named
  have hnm := (name_of_methodNamed Bd.named Bd.method).1
  have hlk := Bd.notSynchronized
  have hret := Bd.returns
  have X0 : Stand p l e ({ frames := 0, cells := 0, slots := 0, locals := 0 } : Room) s m #[(.ref wE)] below meth c s₁ [] 0 0 := Stand.of_body Bd
  have e0 : s₁.heap = h0 := by rw [← hh, Bd.state]; rfl
  have N0 := Fr.nil n0
  refine own_in ({ frames := 0, cells := 0, slots := 0, locals := 0 } : Room).cells ({ frames := 0, cells := 0, slots := 0, locals := 0 } : Room).slots (Q_copyOf Z wE h0 n0) (ef_copyOf m wE) ?_
  show own_G p.tables e below _ (s₁.setTop (mkF m 0 #[.val (.ref wE)] []))
  refine own_st (fun _ kS => XS.aloadN X0.here hx rfl (hb hby d11_0) rfl rfl kS) ?_
  show own_G p.tables e below _ (s₁.setTop (mkF m 1 #[.val (.ref wE)] [(.ref wE)]))
  obtain ⟨T1, X1, e1, st1⟩ := instY X0 hx hZ hown (hw _ (List.mem_of_getElem? (i := 63) rfl)) e0 (Ins.of_exa (Exa.ext O0.2 E_E) (hw _ (List.mem_of_getElem? (i := 64) rfl))) (g := (mkF m 1 #[.val (.ref wE)] [(.ref wE)])) rfl rfl (hb hby d11_1)
  refine own_st st1 ?_
  show own_G p.tables e below _ (T1.setTop (mkF m 4 #[.val (.ref wE)] [(.int (1 : Int32))]))
  refine own_st (fun _ kS => XS.ifNo X1.here hx rfl (hb hby d11_4) rfl ((if0 _ _).trans (feq (by decide : ¬ ((1 : Int32) = (0 : Int32)))).1) kS) ?_
  show own_G p.tables e below _ (T1.setTop (mkF m 7 #[.val (.ref wE)] []))
  refine own_st (fun _ kS => XS.aloadN X1.here hx rfl (hb hby d11_7) rfl rfl kS) ?_
  show own_G p.tables e below _ (T1.setTop (mkF m 8 #[.val (.ref wE)] [(.ref wE)]))
  exact own_retA X1 hx hlk hret rfl rfl (hb hby d11_8) (by decide) (by decide) (by rw [e1]; exact ⟨rfl, N0, rfl⟩)
theorem own_pd2 : parseMethodDescriptor "(Ljava/util/Map;)Ljava/util/Map;" = some ⟨[(.object "java/util/Map")], some (.object "java/util/Map")⟩ := by decide +kernel
theorem ef_cmdInit1 (m : MethodId) (x0 : Addr) (x1 : Int32) (x2 : Int32) (x3 : Int32) (x4 : Addr) (x5 : Addr) : entryFrame m #[(.ref x0), (.int x1), (.int x2), (.int x3), .null, (.ref x4), (.ref x5)] 7 = mkF m 0 #[.val (.ref x0), .val (.int x1), .val (.int x2), .val (.int x3), .val .null, .val (.ref x4), .val (.ref x5)] [] := by first | (simp [entryFrame, mkF, argsToLocals, Value.category]; done) | rfl
def Q_cmdInit1 (Z : State) (a1 : Addr) (p2 : Int32) (p3 : Int32) (p4 : Int32) (wE : Addr) (wB : Addr) (h0 : Heap) (n0 : Nat) (v : Option Value) (h : Heap) (L : List Loc) : Prop := v = none ∧ Fr n0 L ∧ Keep h0 h [a1] ∧ Exa Z h a1 "com/example/memo3/memo3/protocol/Command" ∧ Fld Z h a1 "com/example/memo3/memo3/protocol/Command" "code" "I" (.int p2) ∧ Fld Z h a1 "com/example/memo3/memo3/protocol/Command" "flag" "I" (.int p3) ∧ Fld Z h a1 "com/example/memo3/memo3/protocol/Command" "opaque" "I" (.int p4) ∧ Fld Z h a1 "com/example/memo3/memo3/protocol/Command" "remark" "Ljava/lang/String;" .null ∧ Fld Z h a1 "com/example/memo3/memo3/protocol/Command" "extFields" "Ljava/util/Map;" (.ref wE) ∧ Fld Z h a1 "com/example/memo3/memo3/protocol/Command" "body" "[B" (.ref wB)
set_option maxRecDepth 65536 in
set_option maxHeartbeats 40000000 in
theorem rm_cmdInit1 (l : Launch) (Z : State) (a0 : Array Value) (hw : ∀ d ∈ tables_1, d.before a0 Z = true) (ws : List Jvm.Cond) (a1 : Addr) (p2 : Int32) (p3 : Int32) (p4 : Int32) (wE : Addr) (wB : Addr) (h0 : Heap) (n0 : Nat) (Z0 : n0 ≤ h0.size) (O0 : Old Z n0 h0) (E_a1 : Exa Z h0 a1 "com/example/memo3/memo3/protocol/Command") (g_a1 : n0 ≤ a1) (F_code : Fld Z h0 a1 "com/example/memo3/memo3/protocol/Command" "code" "I" (.int (0 : Int32))) (F_flag : Fld Z h0 a1 "com/example/memo3/memo3/protocol/Command" "flag" "I" (.int (0 : Int32))) (F_opaque : Fld Z h0 a1 "com/example/memo3/memo3/protocol/Command" "opaque" "I" (.int (0 : Int32))) (F_remark : Fld Z h0 a1 "com/example/memo3/memo3/protocol/Command" "remark" "Ljava/lang/String;" .null) (F_extFields : Fld Z h0 a1 "com/example/memo3/memo3/protocol/Command" "extFields" "Ljava/util/Map;" .null) (F_body : Fld Z h0 a1 "com/example/memo3/memo3/protocol/Command" "body" "[B" .null) (E_E : Exa Z Z.heap wE "java/util/ImmutableCollections$MapN") :
    MetFree l (⟨"com/example/memo3/memo3/protocol/Command", "<init>", "(IIILjava/lang/String;Ljava/util/Map;[B)V"⟩ : MethodName) (head1 (Jvm.Cond.code (⟨"com/example/memo3/memo3/protocol/Command", "<init>", "(IIILjava/lang/String;Ljava/util/Map;[B)V"⟩ : MethodName) prog_27_method_1_code 7 none :: ws) ({ frames := 2, cells := 0, slots := 0, locals := 24 } : Room)) (fun a U => a = #[(.ref a1), (.int p2), (.int p3), (.int p4), .null, (.ref wE), (.ref wB)] ∧ Z.Warmed39 U.vm ∧ U.heap = h0) (fun _ _ _ _ _ => True) (fun _ U o U' => ∃ v L, o = .returned v ∧ Q_cmdInit1 Z a1 p2 p3 p4 wE wB h0 n0 v U'.heap L ∧ FrameEnd U o U' L ({ frames := 2, cells := 0, slots := 0, locals := 24 } : Room).cells ({ frames := 2, cells := 0, slots := 0, locals := 24 } : Room).slots) := by
  refine MetFree.of_bodySF (plainFor_of_name pn_1) hisR ?_
  intro p e s m args below meth c s₁ Bd hml0 hP hK
  obtain ⟨rfl, hZ, hh⟩ := hP
  have hx := Bd.exec
  have hby := Bd.bytes
  have hml : c.maxLocals = 7 := hml0
  have hown : s.vm.findClass "com/example/memo3/memo3/protocol/Command" = some m.cls := findClass_of_methodNamed Bd.named
  have hnm := (name_of_methodNamed Bd.named Bd.method).1
  have hlk := Bd.notSynchronized
  have hret := Bd.returns
  have X0 : Stand p l e ({ frames := 2, cells := 0, slots := 0, locals := 24 } : Room) s m #[(.ref a1), (.int p2), (.int p3), (.int p4), .null, (.ref wE), (.ref wB)] below meth c s₁ [] 0 0 := Stand.of_body Bd
  have e0 : s₁.heap = h0 := by rw [← hh, Bd.state]; rfl
  have N0 := Fr.nil n0
  have K0 := Keep.refl h0 [a1]
  refine own_in ({ frames := 2, cells := 0, slots := 0, locals := 24 } : Room).cells ({ frames := 2, cells := 0, slots := 0, locals := 24 } : Room).slots (Q_cmdInit1 Z a1 p2 p3 p4 wE wB h0 n0) (ef_cmdInit1 m a1 p2 p3 p4 wE wB) ?_
  show own_G p.tables e below _ (s₁.setTop (mkF m 0 #[.val (.ref a1), .val (.int p2), .val (.int p3), .val (.int p4), .val .null, .val (.ref wE), .val (.ref wB)] []))
  refine own_st (fun _ kS => XS.aloadN X0.here hx rfl (hb hby d1_0) rfl rfl kS) ?_
  show own_G p.tables e below _ (s₁.setTop (mkF m 1 #[.val (.ref a1), .val (.int p2), .val (.int p3), .val (.int p4), .val .null, .val (.ref wE), .val (.ref wB)] [(.ref a1)]))
  obtain ⟨_, _, ⟨T1, L1, k1, n1⟩, -, X1, ⟨Lc1, hQ1, l1, y1, z1⟩, st1⟩ := X0.specialBack hx (y := (⟨"java/lang/Record", "<init>", "()V"⟩ : MethodName)) rfl hown (mvT hZ (hw _ (List.mem_of_getElem? (i := 6) rfl))) (mvT hZ (hw _ (List.mem_of_getElem? (i := 7) rfl))) (mvT hZ (hw _ (List.mem_of_getElem? (i := 10) rfl))) (by decide) (backOf (W := 0) (rm_recInit l Z a0 hw [] a1 h0 n0 Z0  ) hZ (hw _ (List.mem_of_getElem? (i := 10) rfl)) (hw _ (List.mem_of_getElem? (i := 9) rfl)) (by decide) (by decide)) (g := (mkF m 1 #[.val (.ref a1), .val (.int p2), .val (.int p3), .val (.int p4), .val .null, .val (.ref wE), .val (.ref wB)] [(.ref a1)])) rfl (by rw [hml]; rfl) (Steps.refl _) (a := a1) (argsL := []) (rest := []) (lenOf own_pd0 rfl) rfl (by show 2 * 0 + _ ≤ _; exact Nat.le_of_eq rfl) (hb hby d1_1) (fun _ _ => ⟨rfl, e0, (by decide : 0 + 0 ≤ _), (by decide : 0 + 0 ≤ _)⟩)
  dsimp only [Pt.U, Pt.locs, Pt.cells, Pt.slots] at X1 l1 y1 z1 st1 hQ1
  subst l1 y1 z1
  obtain ⟨rfl, Nq1, eq1⟩ := hQ1
  have N1 := Fr.app N0 Nq1
  refine own_tr st1 ?_
  show own_G p.tables e below _ (T1.setTop (mkF m 4 #[.val (.ref a1), .val (.int p2), .val (.int p3), .val (.int p4), .val .null, .val (.ref wE), .val (.ref wB)] []))
  refine own_st (fun _ kS => XS.aload X1.here hx rfl (hb hby d1_4) rfl rfl kS) ?_
  show own_G p.tables e below _ (T1.setTop (mkF m 6 #[.val (.ref a1), .val (.int p2), .val (.int p3), .val (.int p4), .val .null, .val (.ref wE), .val (.ref wB)] [(.ref wE)]))
  refine own_st (fun _ kS => XT.ifnonnullYes X1.here hx rfl (pc0 := 6) (pc' := 15) rfl (hb hby d1_6) rfl (by decide) (by decide) kS) ?_
  show own_G p.tables e below _ (T1.setTop (mkF m 15 #[.val (.ref a1), .val (.int p2), .val (.int p3), .val (.int p4), .val .null, .val (.ref wE), .val (.ref wB)] []))
  refine own_st (fun _ kS => XS.aload X1.here hx rfl (hb hby d1_15) rfl rfl kS) ?_
  show own_G p.tables e below _ (T1.setTop (mkF m 17 #[.val (.ref a1), .val (.int p2), .val (.int p3), .val (.int p4), .val .null, .val (.ref wE), .val (.ref wB)] [(.ref wE)]))
  obtain ⟨_, _, ⟨T2, L2, k2, n2⟩, -, X2, ⟨Lc2, hQ2, l2, y2, z2⟩, st2⟩ := Jvm.LawKit.callS X1 hx (y := (⟨"java/util/Map", "copyOf", "(Ljava/util/Map;)Ljava/util/Map;"⟩ : MethodName)) hown (mvT hZ (hw _ (List.mem_of_getElem? (i := 60) rfl))) (mvT hZ (hw _ (List.mem_of_getElem? (i := 61) rfl))) (mvT hZ (hw _ (List.mem_of_getElem? (i := 16) rfl))) (mvT hZ (hw _ (List.mem_of_getElem? (i := 62) rfl))) (by decide) (backOf (W := 0) (rm_copyOf l Z a0 hw [] wE h0 n0 Z0 O0 E_E) hZ (hw _ (List.mem_of_getElem? (i := 62) rfl)) (hw _ (List.mem_of_getElem? (i := 16) rfl)) (by decide) (by decide)) (g := (mkF m 17 #[.val (.ref a1), .val (.int p2), .val (.int p3), .val (.int p4), .val .null, .val (.ref wE), .val (.ref wB)] [(.ref wE)])) rfl (by rw [hml]; rfl) (argsL := [(.ref wE)]) (rest := []) (lenOf own_pd2 rfl) rfl (by show 2 * 0 + _ ≤ _; exact Nat.le_of_eq rfl) (hb hby d1_17) (fun _ _ => ⟨rfl, eq1, (by decide : 0 + 0 ≤ _), (by decide : 0 + 0 ≤ _)⟩)
  dsimp only [Pt.U, Pt.locs, Pt.cells, Pt.slots] at X2 l2 y2 z2 st2 hQ2
  subst l2 y2 z2
  obtain ⟨rfl, Nq2, eq2⟩ := hQ2
  have N2 := Fr.app N1 Nq2
  refine own_st st2 ?_
  show own_G p.tables e below _ (T2.setTop (mkF m 20 #[.val (.ref a1), .val (.int p2), .val (.int p3), .val (.int p4), .val .null, .val (.ref wE), .val (.ref wB)] [(.ref wE)]))
  refine own_st (fun _ kS => XS.astore X2.here hx rfl (hb hby d1_20) rfl rfl (l' := #[.val (.ref a1), .val (.int p2), .val (.int p3), .val (.int p4), .val .null, .val (.ref wE), .val (.ref wB)]) rfl kS) ?_
  show own_G p.tables e below _ (T2.setTop (mkF m 22 #[.val (.ref a1), .val (.int p2), .val (.int p3), .val (.int p4), .val .null, .val (.ref wE), .val (.ref wB)] []))
  refine own_st (fun _ kS => XS.aload X2.here hx rfl (hb hby d1_22) rfl rfl kS) ?_
  show own_G p.tables e below _ (T2.setTop (mkF m 24 #[.val (.ref a1), .val (.int p2), .val (.int p3), .val (.int p4), .val .null, .val (.ref wE), .val (.ref wB)] [(.ref wB)]))
  refine own_st (fun _ kS => XT.ifnonnullYes X2.here hx rfl (pc0 := 24) (pc' := 33) rfl (hb hby d1_24) rfl (by decide) (by decide) kS) ?_
  show own_G p.tables e below _ (T2.setTop (mkF m 33 #[.val (.ref a1), .val (.int p2), .val (.int p3), .val (.int p4), .val .null, .val (.ref wE), .val (.ref wB)] []))
  refine own_st (fun _ kS => XS.aload X2.here hx rfl (hb hby d1_33) rfl rfl kS) ?_
  show own_G p.tables e below _ (T2.setTop (mkF m 35 #[.val (.ref a1), .val (.int p2), .val (.int p3), .val (.int p4), .val .null, .val (.ref wE), .val (.ref wB)] [(.ref wB)]))
  refine own_st (fun _ kS => XS.astore X2.here hx rfl (hb hby d1_35) rfl rfl (l' := #[.val (.ref a1), .val (.int p2), .val (.int p3), .val (.int p4), .val .null, .val (.ref wE), .val (.ref wB)]) rfl kS) ?_
  show own_G p.tables e below _ (T2.setTop (mkF m 37 #[.val (.ref a1), .val (.int p2), .val (.int p3), .val (.int p4), .val .null, .val (.ref wE), .val (.ref wB)] []))
  refine own_st (fun _ kS => XS.aloadN X2.here hx rfl (hb hby d1_37) rfl rfl kS) ?_
  show own_G p.tables e below _ (T2.setTop (mkF m 38 #[.val (.ref a1), .val (.int p2), .val (.int p3), .val (.int p4), .val .null, .val (.ref wE), .val (.ref wB)] [(.ref a1)]))
  refine own_st (fun _ kS => XS.iloadN X2.here hx rfl (hb hby d1_38) rfl kS) ?_
  show own_G p.tables e below _ (T2.setTop (mkF m 39 #[.val (.ref a1), .val (.int p2), .val (.int p3), .val (.int p4), .val .null, .val (.ref wE), .val (.ref wB)] [(.int p2), (.ref a1)]))
  obtain ⟨T3, h3, X3, e3, W3, st3⟩ := putF X2 hx hZ hown (host := "") (Or.inl (hw _ (List.mem_of_getElem? (i := 22) rfl))) Via.refl eq2 F_code E_a1 (Or.inr ⟨(hw _ (List.mem_of_getElem? (i := 23) rfl)), rfl, hnm⟩) (hw _ (List.mem_of_getElem? (i := 1) rfl)) (ty := .int) (by decide) rfl rfl (g := (mkF m 39 #[.val (.ref a1), .val (.int p2), .val (.int p3), .val (.int p4), .val .null, .val (.ref wE), .val (.ref wB)] [(.int p2), (.ref a1)])) rfl rfl (hb hby d1_39)
  refine own_st st3 ?_
  have N3 := Fr.snoc X3 N2 g_a1
  have K3 := K0.wr W3 (Or.inl (List.mem_of_getElem? (i := 0) rfl))
  have O3 := O0.wr W3 g_a1
  have Fw3 := Fld.same W3 F_code
  show own_G p.tables e below _ (T3.setTop (mkF m 42 #[.val (.ref a1), .val (.int p2), .val (.int p3), .val (.int p4), .val .null, .val (.ref wE), .val (.ref wB)] []))
  refine own_st (fun _ kS => XS.aloadN X3.here hx rfl (hb hby d1_42) rfl rfl kS) ?_
  show own_G p.tables e below _ (T3.setTop (mkF m 43 #[.val (.ref a1), .val (.int p2), .val (.int p3), .val (.int p4), .val .null, .val (.ref wE), .val (.ref wB)] [(.ref a1)]))
  refine own_st (fun _ kS => XS.iloadN X3.here hx rfl (hb hby d1_43) rfl kS) ?_
  show own_G p.tables e below _ (T3.setTop (mkF m 44 #[.val (.ref a1), .val (.int p2), .val (.int p3), .val (.int p4), .val .null, .val (.ref wE), .val (.ref wB)] [(.int p3), (.ref a1)]))
  obtain ⟨T4, h4, X4, e4, W4, st4⟩ := putF X3 hx hZ hown (host := "") (Or.inl (hw _ (List.mem_of_getElem? (i := 24) rfl))) Via.refl e3 (Fld.other W3 F_flag (Or.inr (slot_ne (Or.inr (hw _ (List.mem_of_getElem? (i := 25) rfl))) (Or.inr (hw _ (List.mem_of_getElem? (i := 23) rfl))) (by decide) (t := .int) (t' := .int) (by decide) (by decide)))) (Exa.wr W3 E_a1) (Or.inr ⟨(hw _ (List.mem_of_getElem? (i := 25) rfl)), rfl, hnm⟩) (hw _ (List.mem_of_getElem? (i := 1) rfl)) (ty := .int) (by decide) rfl rfl (g := (mkF m 44 #[.val (.ref a1), .val (.int p2), .val (.int p3), .val (.int p4), .val .null, .val (.ref wE), .val (.ref wB)] [(.int p3), (.ref a1)])) rfl rfl (hb hby d1_44)
  refine own_st st4 ?_
  have N4 := Fr.snoc X4 N3 g_a1
  have K4 := K3.wr W4 (Or.inl (List.mem_of_getElem? (i := 0) rfl))
  have O4 := O3.wr W4 g_a1
  have Fw4 := Fld.same W4 (Fld.other W3 F_flag (Or.inr (slot_ne (Or.inr (hw _ (List.mem_of_getElem? (i := 25) rfl))) (Or.inr (hw _ (List.mem_of_getElem? (i := 23) rfl))) (by decide) (t := .int) (t' := .int) (by decide) (by decide))))
  show own_G p.tables e below _ (T4.setTop (mkF m 47 #[.val (.ref a1), .val (.int p2), .val (.int p3), .val (.int p4), .val .null, .val (.ref wE), .val (.ref wB)] []))
  refine own_st (fun _ kS => XS.aloadN X4.here hx rfl (hb hby d1_47) rfl rfl kS) ?_
  show own_G p.tables e below _ (T4.setTop (mkF m 48 #[.val (.ref a1), .val (.int p2), .val (.int p3), .val (.int p4), .val .null, .val (.ref wE), .val (.ref wB)] [(.ref a1)]))
  refine own_st (fun _ kS => XS.iloadN X4.here hx rfl (hb hby d1_48) rfl kS) ?_
  show own_G p.tables e below _ (T4.setTop (mkF m 49 #[.val (.ref a1), .val (.int p2), .val (.int p3), .val (.int p4), .val .null, .val (.ref wE), .val (.ref wB)] [(.int p4), (.ref a1)]))
  obtain ⟨T5, h5, X5, e5, W5, st5⟩ := putF X4 hx hZ hown (host := "") (Or.inl (hw _ (List.mem_of_getElem? (i := 26) rfl))) Via.refl e4 (Fld.other W4 (Fld.other W3 F_opaque (Or.inr (slot_ne (Or.inr (hw _ (List.mem_of_getElem? (i := 27) rfl))) (Or.inr (hw _ (List.mem_of_getElem? (i := 23) rfl))) (by decide) (t := .int) (t' := .int) (by decide) (by decide)))) (Or.inr (slot_ne (Or.inr (hw _ (List.mem_of_getElem? (i := 27) rfl))) (Or.inr (hw _ (List.mem_of_getElem? (i := 25) rfl))) (by decide) (t := .int) (t' := .int) (by decide) (by decide)))) (Exa.wr W4 (Exa.wr W3 E_a1)) (Or.inr ⟨(hw _ (List.mem_of_getElem? (i := 27) rfl)), rfl, hnm⟩) (hw _ (List.mem_of_getElem? (i := 1) rfl)) (ty := .int) (by decide) rfl rfl (g := (mkF m 49 #[.val (.ref a1), .val (.int p2), .val (.int p3), .val (.int p4), .val .null, .val (.ref wE), .val (.ref wB)] [(.int p4), (.ref a1)])) rfl rfl (hb hby d1_49)
  refine own_st st5 ?_
  have N5 := Fr.snoc X5 N4 g_a1
  have K5 := K4.wr W5 (Or.inl (List.mem_of_getElem? (i := 0) rfl))
  have O5 := O4.wr W5 g_a1
  have Fw5 := Fld.same W5 (Fld.other W4 (Fld.other W3 F_opaque (Or.inr (slot_ne (Or.inr (hw _ (List.mem_of_getElem? (i := 27) rfl))) (Or.inr (hw _ (List.mem_of_getElem? (i := 23) rfl))) (by decide) (t := .int) (t' := .int) (by decide) (by decide)))) (Or.inr (slot_ne (Or.inr (hw _ (List.mem_of_getElem? (i := 27) rfl))) (Or.inr (hw _ (List.mem_of_getElem? (i := 25) rfl))) (by decide) (t := .int) (t' := .int) (by decide) (by decide))))
  show own_G p.tables e below _ (T5.setTop (mkF m 52 #[.val (.ref a1), .val (.int p2), .val (.int p3), .val (.int p4), .val .null, .val (.ref wE), .val (.ref wB)] []))
  refine own_st (fun _ kS => XS.aloadN X5.here hx rfl (hb hby d1_52) rfl rfl kS) ?_
  show own_G p.tables e below _ (T5.setTop (mkF m 53 #[.val (.ref a1), .val (.int p2), .val (.int p3), .val (.int p4), .val .null, .val (.ref wE), .val (.ref wB)] [(.ref a1)]))
  refine own_st (fun _ kS => XS.aload X5.here hx rfl (hb hby d1_53) rfl rfl kS) ?_
  show own_G p.tables e below _ (T5.setTop (mkF m 55 #[.val (.ref a1), .val (.int p2), .val (.int p3), .val (.int p4), .val .null, .val (.ref wE), .val (.ref wB)] [.null, (.ref a1)]))
  obtain ⟨T6, h6, X6, e6, W6, st6⟩ := putF X5 hx hZ hown (host := "") (Or.inl (hw _ (List.mem_of_getElem? (i := 28) rfl))) Via.refl e5 (Fld.other W5 (Fld.other W4 (Fld.other W3 F_remark (Or.inr (slot_ne (Or.inr (hw _ (List.mem_of_getElem? (i := 29) rfl))) (Or.inr (hw _ (List.mem_of_getElem? (i := 23) rfl))) (by decide) (t := (.object "java/lang/String")) (t' := .int) (by decide) (by decide)))) (Or.inr (slot_ne (Or.inr (hw _ (List.mem_of_getElem? (i := 29) rfl))) (Or.inr (hw _ (List.mem_of_getElem? (i := 25) rfl))) (by decide) (t := (.object "java/lang/String")) (t' := .int) (by decide) (by decide)))) (Or.inr (slot_ne (Or.inr (hw _ (List.mem_of_getElem? (i := 29) rfl))) (Or.inr (hw _ (List.mem_of_getElem? (i := 27) rfl))) (by decide) (t := (.object "java/lang/String")) (t' := .int) (by decide) (by decide)))) (Exa.wr W5 (Exa.wr W4 (Exa.wr W3 E_a1))) (Or.inr ⟨(hw _ (List.mem_of_getElem? (i := 29) rfl)), rfl, hnm⟩) (hw _ (List.mem_of_getElem? (i := 1) rfl)) (ty := (.object "java/lang/String")) (by decide) rfl rfl (g := (mkF m 55 #[.val (.ref a1), .val (.int p2), .val (.int p3), .val (.int p4), .val .null, .val (.ref wE), .val (.ref wB)] [.null, (.ref a1)])) rfl rfl (hb hby d1_55)
  refine own_st st6 ?_
  have N6 := Fr.snoc X6 N5 g_a1
  have K6 := K5.wr W6 (Or.inl (List.mem_of_getElem? (i := 0) rfl))
  have O6 := O5.wr W6 g_a1
  have Fw6 := Fld.same W6 (Fld.other W5 (Fld.other W4 (Fld.other W3 F_remark (Or.inr (slot_ne (Or.inr (hw _ (List.mem_of_getElem? (i := 29) rfl))) (Or.inr (hw _ (List.mem_of_getElem? (i := 23) rfl))) (by decide) (t := (.object "java/lang/String")) (t' := .int) (by decide) (by decide)))) (Or.inr (slot_ne (Or.inr (hw _ (List.mem_of_getElem? (i := 29) rfl))) (Or.inr (hw _ (List.mem_of_getElem? (i := 25) rfl))) (by decide) (t := (.object "java/lang/String")) (t' := .int) (by decide) (by decide)))) (Or.inr (slot_ne (Or.inr (hw _ (List.mem_of_getElem? (i := 29) rfl))) (Or.inr (hw _ (List.mem_of_getElem? (i := 27) rfl))) (by decide) (t := (.object "java/lang/String")) (t' := .int) (by decide) (by decide))))
  show own_G p.tables e below _ (T6.setTop (mkF m 58 #[.val (.ref a1), .val (.int p2), .val (.int p3), .val (.int p4), .val .null, .val (.ref wE), .val (.ref wB)] []))
  refine own_st (fun _ kS => XS.aloadN X6.here hx rfl (hb hby d1_58) rfl rfl kS) ?_
  show own_G p.tables e below _ (T6.setTop (mkF m 59 #[.val (.ref a1), .val (.int p2), .val (.int p3), .val (.int p4), .val .null, .val (.ref wE), .val (.ref wB)] [(.ref a1)]))
  refine own_st (fun _ kS => XS.aload X6.here hx rfl (hb hby d1_59) rfl rfl kS) ?_
  show own_G p.tables e below _ (T6.setTop (mkF m 61 #[.val (.ref a1), .val (.int p2), .val (.int p3), .val (.int p4), .val .null, .val (.ref wE), .val (.ref wB)] [(.ref wE), (.ref a1)]))
  obtain ⟨T7, h7, X7, e7, W7, st7⟩ := putF X6 hx hZ hown (host := "") (Or.inl (hw _ (List.mem_of_getElem? (i := 30) rfl))) Via.refl e6 (Fld.other W6 (Fld.other W5 (Fld.other W4 (Fld.other W3 F_extFields (Or.inr (slot_ne (Or.inr (hw _ (List.mem_of_getElem? (i := 31) rfl))) (Or.inr (hw _ (List.mem_of_getElem? (i := 23) rfl))) (by decide) (t := (.object "java/util/Map")) (t' := .int) (by decide) (by decide)))) (Or.inr (slot_ne (Or.inr (hw _ (List.mem_of_getElem? (i := 31) rfl))) (Or.inr (hw _ (List.mem_of_getElem? (i := 25) rfl))) (by decide) (t := (.object "java/util/Map")) (t' := .int) (by decide) (by decide)))) (Or.inr (slot_ne (Or.inr (hw _ (List.mem_of_getElem? (i := 31) rfl))) (Or.inr (hw _ (List.mem_of_getElem? (i := 27) rfl))) (by decide) (t := (.object "java/util/Map")) (t' := .int) (by decide) (by decide)))) (Or.inr (slot_ne (Or.inr (hw _ (List.mem_of_getElem? (i := 31) rfl))) (Or.inr (hw _ (List.mem_of_getElem? (i := 29) rfl))) (by decide) (t := (.object "java/util/Map")) (t' := (.object "java/lang/String")) (by decide) (by decide)))) (Exa.wr W6 (Exa.wr W5 (Exa.wr W4 (Exa.wr W3 E_a1)))) (Or.inr ⟨(hw _ (List.mem_of_getElem? (i := 31) rfl)), rfl, hnm⟩) (hw _ (List.mem_of_getElem? (i := 1) rfl)) (ty := (.object "java/util/Map")) (by decide) rfl rfl (g := (mkF m 61 #[.val (.ref a1), .val (.int p2), .val (.int p3), .val (.int p4), .val .null, .val (.ref wE), .val (.ref wB)] [(.ref wE), (.ref a1)])) rfl rfl (hb hby d1_61)
  refine own_st st7 ?_
  have N7 := Fr.snoc X7 N6 g_a1
  have K7 := K6.wr W7 (Or.inl (List.mem_of_getElem? (i := 0) rfl))
  have O7 := O6.wr W7 g_a1
  have Fw7 := Fld.same W7 (Fld.other W6 (Fld.other W5 (Fld.other W4 (Fld.other W3 F_extFields (Or.inr (slot_ne (Or.inr (hw _ (List.mem_of_getElem? (i := 31) rfl))) (Or.inr (hw _ (List.mem_of_getElem? (i := 23) rfl))) (by decide) (t := (.object "java/util/Map")) (t' := .int) (by decide) (by decide)))) (Or.inr (slot_ne (Or.inr (hw _ (List.mem_of_getElem? (i := 31) rfl))) (Or.inr (hw _ (List.mem_of_getElem? (i := 25) rfl))) (by decide) (t := (.object "java/util/Map")) (t' := .int) (by decide) (by decide)))) (Or.inr (slot_ne (Or.inr (hw _ (List.mem_of_getElem? (i := 31) rfl))) (Or.inr (hw _ (List.mem_of_getElem? (i := 27) rfl))) (by decide) (t := (.object "java/util/Map")) (t' := .int) (by decide) (by decide)))) (Or.inr (slot_ne (Or.inr (hw _ (List.mem_of_getElem? (i := 31) rfl))) (Or.inr (hw _ (List.mem_of_getElem? (i := 29) rfl))) (by decide) (t := (.object "java/util/Map")) (t' := (.object "java/lang/String")) (by decide) (by decide))))
  show own_G p.tables e below _ (T7.setTop (mkF m 64 #[.val (.ref a1), .val (.int p2), .val (.int p3), .val (.int p4), .val .null, .val (.ref wE), .val (.ref wB)] []))
  refine own_st (fun _ kS => XS.aloadN X7.here hx rfl (hb hby d1_64) rfl rfl kS) ?_
  show own_G p.tables e below _ (T7.setTop (mkF m 65 #[.val (.ref a1), .val (.int p2), .val (.int p3), .val (.int p4), .val .null, .val (.ref wE), .val (.ref wB)] [(.ref a1)]))
  refine own_st (fun _ kS => XS.aload X7.here hx rfl (hb hby d1_65) rfl rfl kS) ?_
  show own_G p.tables e below _ (T7.setTop (mkF m 67 #[.val (.ref a1), .val (.int p2), .val (.int p3), .val (.int p4), .val .null, .val (.ref wE), .val (.ref wB)] [(.ref wB), (.ref a1)]))
  obtain ⟨T8, h8, X8, e8, W8, st8⟩ := putF X7 hx hZ hown (host := "") (Or.inl (hw _ (List.mem_of_getElem? (i := 32) rfl))) Via.refl e7 (Fld.other W7 (Fld.other W6 (Fld.other W5 (Fld.other W4 (Fld.other W3 F_body (Or.inr (slot_ne (Or.inr (hw _ (List.mem_of_getElem? (i := 33) rfl))) (Or.inr (hw _ (List.mem_of_getElem? (i := 23) rfl))) (by decide) (t := (.array .byte)) (t' := .int) (by decide) (by decide)))) (Or.inr (slot_ne (Or.inr (hw _ (List.mem_of_getElem? (i := 33) rfl))) (Or.inr (hw _ (List.mem_of_getElem? (i := 25) rfl))) (by decide) (t := (.array .byte)) (t' := .int) (by decide) (by decide)))) (Or.inr (slot_ne (Or.inr (hw _ (List.mem_of_getElem? (i := 33) rfl))) (Or.inr (hw _ (List.mem_of_getElem? (i := 27) rfl))) (by decide) (t := (.array .byte)) (t' := .int) (by decide) (by decide)))) (Or.inr (slot_ne (Or.inr (hw _ (List.mem_of_getElem? (i := 33) rfl))) (Or.inr (hw _ (List.mem_of_getElem? (i := 29) rfl))) (by decide) (t := (.array .byte)) (t' := (.object "java/lang/String")) (by decide) (by decide)))) (Or.inr (slot_ne (Or.inr (hw _ (List.mem_of_getElem? (i := 33) rfl))) (Or.inr (hw _ (List.mem_of_getElem? (i := 31) rfl))) (by decide) (t := (.array .byte)) (t' := (.object "java/util/Map")) (by decide) (by decide)))) (Exa.wr W7 (Exa.wr W6 (Exa.wr W5 (Exa.wr W4 (Exa.wr W3 E_a1))))) (Or.inr ⟨(hw _ (List.mem_of_getElem? (i := 33) rfl)), rfl, hnm⟩) (hw _ (List.mem_of_getElem? (i := 1) rfl)) (ty := (.array .byte)) (by decide) rfl rfl (g := (mkF m 67 #[.val (.ref a1), .val (.int p2), .val (.int p3), .val (.int p4), .val .null, .val (.ref wE), .val (.ref wB)] [(.ref wB), (.ref a1)])) rfl rfl (hb hby d1_67)
  refine own_st st8 ?_
  have N8 := Fr.snoc X8 N7 g_a1
  have K8 := K7.wr W8 (Or.inl (List.mem_of_getElem? (i := 0) rfl))
  have O8 := O7.wr W8 g_a1
  have Fw8 := Fld.same W8 (Fld.other W7 (Fld.other W6 (Fld.other W5 (Fld.other W4 (Fld.other W3 F_body (Or.inr (slot_ne (Or.inr (hw _ (List.mem_of_getElem? (i := 33) rfl))) (Or.inr (hw _ (List.mem_of_getElem? (i := 23) rfl))) (by decide) (t := (.array .byte)) (t' := .int) (by decide) (by decide)))) (Or.inr (slot_ne (Or.inr (hw _ (List.mem_of_getElem? (i := 33) rfl))) (Or.inr (hw _ (List.mem_of_getElem? (i := 25) rfl))) (by decide) (t := (.array .byte)) (t' := .int) (by decide) (by decide)))) (Or.inr (slot_ne (Or.inr (hw _ (List.mem_of_getElem? (i := 33) rfl))) (Or.inr (hw _ (List.mem_of_getElem? (i := 27) rfl))) (by decide) (t := (.array .byte)) (t' := .int) (by decide) (by decide)))) (Or.inr (slot_ne (Or.inr (hw _ (List.mem_of_getElem? (i := 33) rfl))) (Or.inr (hw _ (List.mem_of_getElem? (i := 29) rfl))) (by decide) (t := (.array .byte)) (t' := (.object "java/lang/String")) (by decide) (by decide)))) (Or.inr (slot_ne (Or.inr (hw _ (List.mem_of_getElem? (i := 33) rfl))) (Or.inr (hw _ (List.mem_of_getElem? (i := 31) rfl))) (by decide) (t := (.array .byte)) (t' := (.object "java/util/Map")) (by decide) (by decide))))
  show own_G p.tables e below _ (T8.setTop (mkF m 70 #[.val (.ref a1), .val (.int p2), .val (.int p3), .val (.int p4), .val .null, .val (.ref wE), .val (.ref wB)] []))
  exact own_retV X8 hx hlk hret (hb hby d1_70) (by decide) (by decide) (by rw [e8]; exact ⟨rfl, N8, K8, (Exa.wr W8 (Exa.wr W7 (Exa.wr W6 (Exa.wr W5 (Exa.wr W4 (Exa.wr W3 E_a1)))))), (Fld.other W8 (Fld.other W7 (Fld.other W6 (Fld.other W5 (Fld.other W4 Fw3 (Or.inr (slot_ne (Or.inr (hw _ (List.mem_of_getElem? (i := 23) rfl))) (Or.inr (hw _ (List.mem_of_getElem? (i := 25) rfl))) (by decide) (t := .int) (t' := .int) (by decide) (by decide)))) (Or.inr (slot_ne (Or.inr (hw _ (List.mem_of_getElem? (i := 23) rfl))) (Or.inr (hw _ (List.mem_of_getElem? (i := 27) rfl))) (by decide) (t := .int) (t' := .int) (by decide) (by decide)))) (Or.inr (slot_ne (Or.inr (hw _ (List.mem_of_getElem? (i := 23) rfl))) (Or.inr (hw _ (List.mem_of_getElem? (i := 29) rfl))) (by decide) (t := .int) (t' := (.object "java/lang/String")) (by decide) (by decide)))) (Or.inr (slot_ne (Or.inr (hw _ (List.mem_of_getElem? (i := 23) rfl))) (Or.inr (hw _ (List.mem_of_getElem? (i := 31) rfl))) (by decide) (t := .int) (t' := (.object "java/util/Map")) (by decide) (by decide)))) (Or.inr (slot_ne (Or.inr (hw _ (List.mem_of_getElem? (i := 23) rfl))) (Or.inr (hw _ (List.mem_of_getElem? (i := 33) rfl))) (by decide) (t := .int) (t' := (.array .byte)) (by decide) (by decide)))), (Fld.other W8 (Fld.other W7 (Fld.other W6 (Fld.other W5 Fw4 (Or.inr (slot_ne (Or.inr (hw _ (List.mem_of_getElem? (i := 25) rfl))) (Or.inr (hw _ (List.mem_of_getElem? (i := 27) rfl))) (by decide) (t := .int) (t' := .int) (by decide) (by decide)))) (Or.inr (slot_ne (Or.inr (hw _ (List.mem_of_getElem? (i := 25) rfl))) (Or.inr (hw _ (List.mem_of_getElem? (i := 29) rfl))) (by decide) (t := .int) (t' := (.object "java/lang/String")) (by decide) (by decide)))) (Or.inr (slot_ne (Or.inr (hw _ (List.mem_of_getElem? (i := 25) rfl))) (Or.inr (hw _ (List.mem_of_getElem? (i := 31) rfl))) (by decide) (t := .int) (t' := (.object "java/util/Map")) (by decide) (by decide)))) (Or.inr (slot_ne (Or.inr (hw _ (List.mem_of_getElem? (i := 25) rfl))) (Or.inr (hw _ (List.mem_of_getElem? (i := 33) rfl))) (by decide) (t := .int) (t' := (.array .byte)) (by decide) (by decide)))), (Fld.other W8 (Fld.other W7 (Fld.other W6 Fw5 (Or.inr (slot_ne (Or.inr (hw _ (List.mem_of_getElem? (i := 27) rfl))) (Or.inr (hw _ (List.mem_of_getElem? (i := 29) rfl))) (by decide) (t := .int) (t' := (.object "java/lang/String")) (by decide) (by decide)))) (Or.inr (slot_ne (Or.inr (hw _ (List.mem_of_getElem? (i := 27) rfl))) (Or.inr (hw _ (List.mem_of_getElem? (i := 31) rfl))) (by decide) (t := .int) (t' := (.object "java/util/Map")) (by decide) (by decide)))) (Or.inr (slot_ne (Or.inr (hw _ (List.mem_of_getElem? (i := 27) rfl))) (Or.inr (hw _ (List.mem_of_getElem? (i := 33) rfl))) (by decide) (t := .int) (t' := (.array .byte)) (by decide) (by decide)))), (Fld.other W8 (Fld.other W7 Fw6 (Or.inr (slot_ne (Or.inr (hw _ (List.mem_of_getElem? (i := 29) rfl))) (Or.inr (hw _ (List.mem_of_getElem? (i := 31) rfl))) (by decide) (t := (.object "java/lang/String")) (t' := (.object "java/util/Map")) (by decide) (by decide)))) (Or.inr (slot_ne (Or.inr (hw _ (List.mem_of_getElem? (i := 29) rfl))) (Or.inr (hw _ (List.mem_of_getElem? (i := 33) rfl))) (by decide) (t := (.object "java/lang/String")) (t' := (.array .byte)) (by decide) (by decide)))), (Fld.other W8 Fw7 (Or.inr (slot_ne (Or.inr (hw _ (List.mem_of_getElem? (i := 31) rfl))) (Or.inr (hw _ (List.mem_of_getElem? (i := 33) rfl))) (by decide) (t := (.object "java/util/Map")) (t' := (.array .byte)) (by decide) (by decide)))), Fw8⟩)
theorem d7_0 : decode prog_27_method_3_code 0 = .ok (.new 18, 3) := by decide +kernel
theorem d7_3 : decode prog_27_method_3_code 3 = .ok (.dup, 1) := by decide +kernel
theorem d7_4 : decode prog_27_method_3_code 4 = .ok (.iload_n 0, 1) := by decide +kernel
theorem d7_5 : decode prog_27_method_3_code 5 = .ok (.iconst 0, 1) := by decide +kernel
theorem d7_6 : decode prog_27_method_3_code 6 = .ok (.iconst 0, 1) := by decide +kernel
theorem d7_7 : decode prog_27_method_3_code 7 = .ok (.aconst_null, 1) := by decide +kernel
theorem d7_8 : decode prog_27_method_3_code 8 = .ok (.aload_n 1, 1) := by decide +kernel
theorem d7_9 : decode prog_27_method_3_code 9 = .ok (.aload_n 2, 1) := by decide +kernel
theorem d7_10 : decode prog_27_method_3_code 10 = .ok (.invokespecial 48, 3) := by decide +kernel
theorem d7_13 : decode prog_27_method_3_code 13 = .ok (.areturn, 1) := by decide +kernel
theorem pn_7 : plainName "com/example/memo3/memo3/protocol/Command" = true := by first | (simp [plainName, overriddenIn]; done) | decide +kernel
theorem own_pd3 : parseMethodDescriptor "(IIILjava/lang/String;Ljava/util/Map;[B)V" = some ⟨[.int, .int, .int, (.object "java/lang/String"), (.object "java/util/Map"), (.array .byte)], none⟩ := by decide +kernel
theorem ef_request3 (m : MethodId) (x0 : Int32) : entryFrame m #[(.int x0), .null, .null] 3 = mkF m 0 #[.val (.int x0), .val .null, .val .null] [] := by first | (simp [entryFrame, mkF, argsToLocals, Value.category]; done) | rfl
def Q_request3 (Z : State) (p1 : Int32) (wE : Addr) (wB : Addr) (h0 : Heap) (n0 : Nat) (v : Option Value) (h : Heap) (L : List Loc) : Prop := ∃ b : Addr, v = some (.ref b) ∧ Fr n0 L ∧ Keep h0 h [] ∧ h0.size ≤ b ∧ Exa Z h b "com/example/memo3/memo3/protocol/Command" ∧ Fld Z h b "com/example/memo3/memo3/protocol/Command" "code" "I" (.int p1) ∧ Fld Z h b "com/example/memo3/memo3/protocol/Command" "flag" "I" (.int (0 : Int32)) ∧ Fld Z h b "com/example/memo3/memo3/protocol/Command" "opaque" "I" (.int (0 : Int32)) ∧ Fld Z h b "com/example/memo3/memo3/protocol/Command" "remark" "Ljava/lang/String;" .null ∧ Fld Z h b "com/example/memo3/memo3/protocol/Command" "extFields" "Ljava/util/Map;" (.ref wE) ∧ Fld Z h b "com/example/memo3/memo3/protocol/Command" "body" "[B" (.ref wB)
set_option maxRecDepth 65536 in
set_option maxHeartbeats 40000000 in
theorem rm_request3 (l : Launch) (Z : State) (a0 : Array Value) (hw : ∀ d ∈ tables_1, d.before a0 Z = true) (ws : List Jvm.Cond) (p1 : Int32) (wE : Addr) (wB : Addr) (h0 : Heap) (n0 : Nat) (Z0 : n0 ≤ h0.size) (O0 : Old Z n0 h0) (S_E : Sta Z Z.heap "java/util/ImmutableCollections" "EMPTY_MAP" "Ljava/util/ImmutableCollections$MapN;" (.ref wE)) (S_B : Sta Z Z.heap "com/example/memo3/memo3/protocol/Command" "NO_BODY" "[B" (.ref wB)) :
    MetFree l (⟨"com/example/memo3/memo3/protocol/Command", "request", "(ILjava/util/Map;[B)Lcom/example/memo3/memo3/protocol/Command;"⟩ : MethodName) (head1 (Jvm.Cond.code (⟨"com/example/memo3/memo3/protocol/Command", "request", "(ILjava/util/Map;[B)Lcom/example/memo3/memo3/protocol/Command;"⟩ : MethodName) prog_27_method_3_code 3 (some (.object "com/example/memo3/memo3/protocol/Command")) :: ws) ({ frames := 3, cells := 1, slots := 6, locals := 43 } : Room)) (fun a U => a = #[(.int p1), .null, .null] ∧ Z.Warmed39 U.vm ∧ U.heap = h0) (fun _ _ _ _ _ => True) (fun _ U o U' => ∃ v L, o = .returned v ∧ Q_request3 Z p1 wE wB h0 n0 v U'.heap L ∧ FrameEnd U o U' L ({ frames := 3, cells := 1, slots := 6, locals := 43 } : Room).cells ({ frames := 3, cells := 1, slots := 6, locals := 43 } : Room).slots) := by
  refine MetFree.of_bodySF (plainFor_of_name pn_7) hisR ?_
  intro p e s m args below meth c s₁ Bd hml0 hP hK
  obtain ⟨rfl, hZ, hh⟩ := hP
  have hx := Bd.exec
  have hby := Bd.bytes
  have hml : c.maxLocals = 3 := hml0
  have hown : s.vm.findClass "com/example/memo3/memo3/protocol/Command" = some m.cls := findClass_of_methodNamed Bd.named
  have hnm := (name_of_methodNamed Bd.named Bd.method).1
  have hlk := Bd.notSynchronized
  have hret := Bd.returns
  have X0 : Stand p l e ({ frames := 3, cells := 1, slots := 6, locals := 43 } : Room) s m #[(.int p1), .null, .null] below meth c s₁ [] 0 0 := Stand.of_body Bd
  have e0 : s₁.heap = h0 := by rw [← hh, Bd.state]; rfl
  have N0 := Fr.nil n0
  have K0 := Keep.refl h0 []
  refine own_in ({ frames := 3, cells := 1, slots := 6, locals := 43 } : Room).cells ({ frames := 3, cells := 1, slots := 6, locals := 43 } : Room).slots (Q_request3 Z p1 wE wB h0 n0) (ef_request3 m p1) ?_
  show own_G p.tables e below _ (s₁.setTop (mkF m 0 #[.val (.int p1), .val .null, .val .null] []))
  obtain ⟨T1, h1, X1, e1, E1, A1, D1, -, st1⟩ := newO X0 hx hZ hown (hw _ (List.mem_of_getElem? (i := 45) rfl)) (hw _ (List.mem_of_getElem? (i := 1) rfl)) (hw _ (List.mem_of_getElem? (i := 2) rfl)) e0 (g := (mkF m 0 #[.val (.int p1), .val .null, .val .null] [])) rfl (hb hby d7_0) (by decide) (by decide)
  obtain ⟨b1, g1⟩ : ∃ z, z = h0.size := ⟨_, rfl⟩
  have ge_b1 : n0 ≤ b1 := Nat.le_trans Z0 (Nat.le_of_eq g1.symm)
  have sz_b1 : h0.size ≤ b1 := Nat.le_trans K0.1 (Nat.le_of_eq g1.symm)
  rw [← g1] at A1 D1 st1
  have K1 := K0.ext E1
  have O1 := O0.ext E1
  have F1_code : Fld Z h1 b1 "com/example/memo3/memo3/protocol/Command" "code" "I" (.int (0 : Int32)) := D1 (Or.inr (hw _ (List.mem_of_getElem? (i := 23) rfl))) (ty := .int) (by decide)
  have F1_flag : Fld Z h1 b1 "com/example/memo3/memo3/protocol/Command" "flag" "I" (.int (0 : Int32)) := D1 (Or.inr (hw _ (List.mem_of_getElem? (i := 25) rfl))) (ty := .int) (by decide)
  have F1_opaque : Fld Z h1 b1 "com/example/memo3/memo3/protocol/Command" "opaque" "I" (.int (0 : Int32)) := D1 (Or.inr (hw _ (List.mem_of_getElem? (i := 27) rfl))) (ty := .int) (by decide)
  have F1_remark : Fld Z h1 b1 "com/example/memo3/memo3/protocol/Command" "remark" "Ljava/lang/String;" .null := D1 (Or.inr (hw _ (List.mem_of_getElem? (i := 29) rfl))) (ty := (.object "java/lang/String")) (by decide)
  have F1_extFields : Fld Z h1 b1 "com/example/memo3/memo3/protocol/Command" "extFields" "Ljava/util/Map;" .null := D1 (Or.inr (hw _ (List.mem_of_getElem? (i := 31) rfl))) (ty := (.object "java/util/Map")) (by decide)
  have F1_body : Fld Z h1 b1 "com/example/memo3/memo3/protocol/Command" "body" "[B" .null := D1 (Or.inr (hw _ (List.mem_of_getElem? (i := 33) rfl))) (ty := (.array .byte)) (by decide)
  refine own_st st1 ?_
  show own_G p.tables e below _ (T1.setTop (mkF m 3 #[.val (.int p1), .val .null, .val .null] [(.ref b1)]))
  refine own_st (fun _ kS => XS.dup X1.here hx rfl (hb hby d7_3) rfl rfl kS) ?_
  show own_G p.tables e below _ (T1.setTop (mkF m 4 #[.val (.int p1), .val .null, .val .null] [(.ref b1), (.ref b1)]))
  refine own_st (fun _ kS => XS.iloadN X1.here hx rfl (hb hby d7_4) rfl kS) ?_
  show own_G p.tables e below _ (T1.setTop (mkF m 5 #[.val (.int p1), .val .null, .val .null] [(.int p1), (.ref b1), (.ref b1)]))
  refine own_st (fun _ kS => XS.iconst X1.here hx rfl (hb hby d7_5) kS) ?_
  show own_G p.tables e below _ (T1.setTop (mkF m 6 #[.val (.int p1), .val .null, .val .null] [(.int (0 : Int32)), (.int p1), (.ref b1), (.ref b1)]))
  refine own_st (fun _ kS => XS.iconst X1.here hx rfl (hb hby d7_6) kS) ?_
  show own_G p.tables e below _ (T1.setTop (mkF m 7 #[.val (.int p1), .val .null, .val .null] [(.int (0 : Int32)), (.int (0 : Int32)), (.int p1), (.ref b1), (.ref b1)]))
  refine own_st (fun _ kS => XS.aconstNull X1.here hx rfl (hb hby d7_7) kS) ?_
  show own_G p.tables e below _ (T1.setTop (mkF m 8 #[.val (.int p1), .val .null, .val .null] [.null, (.int (0 : Int32)), (.int (0 : Int32)), (.int p1), (.ref b1), (.ref b1)]))
  refine own_st (fun _ kS => XS.aloadN X1.here hx rfl (hb hby d7_8) rfl rfl kS) ?_
  show own_G p.tables e below _ (T1.setTop (mkF m 9 #[.val (.int p1), .val .null, .val .null] [.null, .null, (.int (0 : Int32)), (.int (0 : Int32)), (.int p1), (.ref b1), (.ref b1)]))
  refine own_st (fun _ kS => XS.aloadN X1.here hx rfl (hb hby d7_9) rfl rfl kS) ?_
  show own_G p.tables e below _ (T1.setTop (mkF m 10 #[.val (.int p1), .val .null, .val .null] [.null, .null, .null, (.int (0 : Int32)), (.int (0 : Int32)), (.int p1), (.ref b1), (.ref b1)]))
  obtain ⟨_, _, ⟨T2, L2, k2, n2⟩, -, X2, ⟨Lc2, hQ2, l2, y2, z2⟩, st2⟩ := X1.specialBack hx (y := (⟨"com/example/memo3/memo3/protocol/Command", "<init>", "(IIILjava/lang/String;Ljava/util/Map;[B)V"⟩ : MethodName)) rfl hown (mvT hZ (hw _ (List.mem_of_getElem? (i := 46) rfl))) (mvT hZ (hw _ (List.mem_of_getElem? (i := 4) rfl))) (mvT hZ (hw _ (List.mem_of_getElem? (i := 5) rfl))) (by decide) (backOf (W := 1) (rm_cmdInit0 l Z a0 hw [] b1 p1 (0 : Int32) (0 : Int32) wE wB h1 n0 (Nat.le_trans Z0 E1.1) O1 A1 ge_b1 F1_code F1_flag F1_opaque F1_remark F1_extFields F1_body S_E S_B) hZ (hw _ (List.mem_of_getElem? (i := 5) rfl)) (hw _ (List.mem_of_getElem? (i := 2) rfl)) (by decide) (by decide)) (g := (mkF m 10 #[.val (.int p1), .val .null, .val .null] [.null, .null, .null, (.int (0 : Int32)), (.int (0 : Int32)), (.int p1), (.ref b1), (.ref b1)])) rfl (by rw [hml]; rfl) (Steps.refl _) (a := b1) (argsL := [(.int p1), (.int (0 : Int32)), (.int (0 : Int32)), .null, .null, .null]) (rest := [(.ref b1)]) (lenOf own_pd3 rfl) rfl (by show 2 * 0 + _ ≤ _; exact Nat.le_of_eq rfl) (hb hby d7_10) (fun _ _ => ⟨rfl, e1, (by decide : 1 + 0 ≤ _), (by decide : 6 + 0 ≤ _)⟩)
  dsimp only [Pt.U, Pt.locs, Pt.cells, Pt.slots] at X2 l2 y2 z2 st2 hQ2
  subst l2 y2 z2
  obtain ⟨rfl, Nq2, Kc2, P2_0, P2_1, P2_2, P2_3, P2_4, P2_5, P2_6⟩ := hQ2
  have N2 := Fr.app N0 Nq2
  have K2 := K1.trans Kc2 (allS (Or.inr sz_b1) all0)
  have O2 := O1.keep Kc2 (allS ge_b1 all0)
  refine own_tr st2 ?_
  show own_G p.tables e below _ (T2.setTop (mkF m 13 #[.val (.int p1), .val .null, .val .null] [(.ref b1)]))
  exact own_retA X2 hx hlk hret rfl rfl (hb hby d7_13) (by decide) (by decide) (show Q_request3 Z p1 wE wB h0 n0 _ _ _ from ⟨b1, ⟨rfl, N2, K2, sz_b1, P2_0, P2_1, P2_2, P2_3, P2_4, P2_5, P2_6⟩⟩)
theorem d6_0 : decode prog_27_method_2_code 0 = .ok (.iload_n 0, 1) := by decide +kernel
theorem d6_1 : decode prog_27_method_2_code 1 = .ok (.aload_n 1, 1) := by decide +kernel
theorem d6_2 : decode prog_27_method_2_code 2 = .ok (.aconst_null, 1) := by decide +kernel
theorem d6_3 : decode prog_27_method_2_code 3 = .ok (.invokestatic 44, 3) := by decide +kernel
theorem d6_6 : decode prog_27_method_2_code 6 = .ok (.areturn, 1) := by decide +kernel
theorem pn_6 : plainName "com/example/memo3/memo3/protocol/Command" = true := by first | (simp [plainName, overriddenIn]; done) | decide +kernel
theorem own_pd4 : parseMethodDescriptor "(ILjava/util/Map;[B)Lcom/example/memo3/memo3/protocol/Command;" = some ⟨[.int, (.object "java/util/Map"), (.array .byte)], some (.object "com/example/memo3/memo3/protocol/Command")⟩ := by decide +kernel
theorem ef_request2 (m : MethodId) (x0 : Int32) : entryFrame m #[(.int x0), .null] 2 = mkF m 0 #[.val (.int x0), .val .null] [] := by first | (simp [entryFrame, mkF, argsToLocals, Value.category]; done) | rfl
def Q_request2 (Z : State) (p1 : Int32) (wE : Addr) (wB : Addr) (h0 : Heap) (n0 : Nat) (v : Option Value) (h : Heap) (L : List Loc) : Prop := ∃ b : Addr, v = some (.ref b) ∧ Fr n0 L ∧ Keep h0 h [] ∧ h0.size ≤ b ∧ Exa Z h b "com/example/memo3/memo3/protocol/Command" ∧ Fld Z h b "com/example/memo3/memo3/protocol/Command" "code" "I" (.int p1) ∧ Fld Z h b "com/example/memo3/memo3/protocol/Command" "flag" "I" (.int (0 : Int32)) ∧ Fld Z h b "com/example/memo3/memo3/protocol/Command" "opaque" "I" (.int (0 : Int32)) ∧ Fld Z h b "com/example/memo3/memo3/protocol/Command" "remark" "Ljava/lang/String;" .null ∧ Fld Z h b "com/example/memo3/memo3/protocol/Command" "extFields" "Ljava/util/Map;" (.ref wE) ∧ Fld Z h b "com/example/memo3/memo3/protocol/Command" "body" "[B" (.ref wB)
set_option maxRecDepth 65536 in
set_option maxHeartbeats 40000000 in
theorem rm_request2 (l : Launch) (Z : State) (a0 : Array Value) (hw : ∀ d ∈ tables_1, d.before a0 Z = true) (ws : List Jvm.Cond) (p1 : Int32) (wE : Addr) (wB : Addr) (h0 : Heap) (n0 : Nat) (Z0 : n0 ≤ h0.size) (O0 : Old Z n0 h0) (S_E : Sta Z Z.heap "java/util/ImmutableCollections" "EMPTY_MAP" "Ljava/util/ImmutableCollections$MapN;" (.ref wE)) (S_B : Sta Z Z.heap "com/example/memo3/memo3/protocol/Command" "NO_BODY" "[B" (.ref wB)) :
    MetFree l (⟨"com/example/memo3/memo3/protocol/Command", "request", "(ILjava/util/Map;)Lcom/example/memo3/memo3/protocol/Command;"⟩ : MethodName) (head1 (Jvm.Cond.code (⟨"com/example/memo3/memo3/protocol/Command", "request", "(ILjava/util/Map;)Lcom/example/memo3/memo3/protocol/Command;"⟩ : MethodName) prog_27_method_2_code 2 (some (.object "com/example/memo3/memo3/protocol/Command")) :: ws) ({ frames := 4, cells := 1, slots := 6, locals := 57 } : Room)) (fun a U => a = #[(.int p1), .null] ∧ Z.Warmed39 U.vm ∧ U.heap = h0) (fun _ _ _ _ _ => True) (fun _ U o U' => ∃ v L, o = .returned v ∧ Q_request2 Z p1 wE wB h0 n0 v U'.heap L ∧ FrameEnd U o U' L ({ frames := 4, cells := 1, slots := 6, locals := 57 } : Room).cells ({ frames := 4, cells := 1, slots := 6, locals := 57 } : Room).slots) := by
  refine MetFree.of_bodySF (plainFor_of_name pn_6) hisR ?_
  intro p e s m args below meth c s₁ Bd hml0 hP hK
  obtain ⟨rfl, hZ, hh⟩ := hP
  have hx := Bd.exec
  have hby := Bd.bytes
  have hml : c.maxLocals = 2 := hml0
  have hown : s.vm.findClass "com/example/memo3/memo3/protocol/Command" = some m.cls := findClass_of_methodNamed Bd.named
  have hnm := (name_of_methodNamed Bd.named Bd.method).1
  have hlk := Bd.notSynchronized
  have hret := Bd.returns
  have X0 : Stand p l e ({ frames := 4, cells := 1, slots := 6, locals := 57 } : Room) s m #[(.int p1), .null] below meth c s₁ [] 0 0 := Stand.of_body Bd
  have e0 : s₁.heap = h0 := by rw [← hh, Bd.state]; rfl
  have N0 := Fr.nil n0
  have K0 := Keep.refl h0 []
  refine own_in ({ frames := 4, cells := 1, slots := 6, locals := 57 } : Room).cells ({ frames := 4, cells := 1, slots := 6, locals := 57 } : Room).slots (Q_request2 Z p1 wE wB h0 n0) (ef_request2 m p1) ?_
  show own_G p.tables e below _ (s₁.setTop (mkF m 0 #[.val (.int p1), .val .null] []))
  refine own_st (fun _ kS => XS.iloadN X0.here hx rfl (hb hby d6_0) rfl kS) ?_
  show own_G p.tables e below _ (s₁.setTop (mkF m 1 #[.val (.int p1), .val .null] [(.int p1)]))
  refine own_st (fun _ kS => XS.aloadN X0.here hx rfl (hb hby d6_1) rfl rfl kS) ?_
  show own_G p.tables e below _ (s₁.setTop (mkF m 2 #[.val (.int p1), .val .null] [.null, (.int p1)]))
  refine own_st (fun _ kS => XS.aconstNull X0.here hx rfl (hb hby d6_2) kS) ?_
  show own_G p.tables e below _ (s₁.setTop (mkF m 3 #[.val (.int p1), .val .null] [.null, .null, (.int p1)]))
  obtain ⟨_, _, ⟨T1, L1, k1, n1⟩, -, X1, ⟨Lc1, hQ1, l1, y1, z1⟩, st1⟩ := Jvm.LawKit.callS X0 hx (y := (⟨"com/example/memo3/memo3/protocol/Command", "request", "(ILjava/util/Map;[B)Lcom/example/memo3/memo3/protocol/Command;"⟩ : MethodName)) hown (mvT hZ (hw _ (List.mem_of_getElem? (i := 42) rfl))) (mvT hZ (hw _ (List.mem_of_getElem? (i := 43) rfl))) (mvT hZ (hw _ (List.mem_of_getElem? (i := 2) rfl))) (mvT hZ (hw _ (List.mem_of_getElem? (i := 44) rfl))) (by decide) (backOf (W := 0) (rm_request3 l Z a0 hw [] p1 wE wB h0 n0 Z0 O0 S_E S_B) hZ (hw _ (List.mem_of_getElem? (i := 44) rfl)) (hw _ (List.mem_of_getElem? (i := 2) rfl)) (by decide) (by decide)) (g := (mkF m 3 #[.val (.int p1), .val .null] [.null, .null, (.int p1)])) rfl (by rw [hml]; rfl) (argsL := [(.int p1), .null, .null]) (rest := []) (lenOf own_pd4 rfl) rfl (by show 2 * 0 + _ ≤ _; exact Nat.le_of_eq rfl) (hb hby d6_3) (fun _ _ => ⟨rfl, e0, (by decide : 0 + 1 ≤ _), (by decide : 0 + 6 ≤ _)⟩)
  dsimp only [Pt.U, Pt.locs, Pt.cells, Pt.slots] at X1 l1 y1 z1 st1 hQ1
  subst l1 y1 z1
  obtain ⟨b_1, rfl, Nq1, Kc1, P1_0, P1_1, P1_2, P1_3, P1_4, P1_5, P1_6, P1_7⟩ := hQ1
  have N1 := Fr.app N0 Nq1
  have ge_b_1 : n0 ≤ b_1 := Nat.le_trans Z0 P1_0
  have sz_b_1 : h0.size ≤ b_1 := Nat.le_trans K0.1 P1_0
  have K1 := K0.trans Kc1 all0
  have O1 := O0.keep Kc1 all0
  refine own_st st1 ?_
  show own_G p.tables e below _ (T1.setTop (mkF m 6 #[.val (.int p1), .val .null] [(.ref b_1)]))
  exact own_retA X1 hx hlk hret rfl rfl (hb hby d6_6) (by decide) (by decide) (show Q_request2 Z p1 wE wB h0 n0 _ _ _ from ⟨b_1, ⟨rfl, N1, K1, sz_b_1, P1_1, P1_2, P1_3, P1_4, P1_5, P1_6, P1_7⟩⟩)
theorem d8_0 : decode prog_27_method_4_code 0 = .ok (.new 18, 3) := by decide +kernel
theorem d8_3 : decode prog_27_method_4_code 3 = .ok (.dup, 1) := by decide +kernel
theorem d8_4 : decode prog_27_method_4_code 4 = .ok (.iload_n 0, 1) := by decide +kernel
theorem d8_5 : decode prog_27_method_4_code 5 = .ok (.iconst 1, 1) := by decide +kernel
theorem d8_6 : decode prog_27_method_4_code 6 = .ok (.iconst 0, 1) := by decide +kernel
theorem d8_7 : decode prog_27_method_4_code 7 = .ok (.aload_n 1, 1) := by decide +kernel
theorem d8_8 : decode prog_27_method_4_code 8 = .ok (.aconst_null, 1) := by decide +kernel
theorem d8_9 : decode prog_27_method_4_code 9 = .ok (.aconst_null, 1) := by decide +kernel
theorem d8_10 : decode prog_27_method_4_code 10 = .ok (.invokespecial 48, 3) := by decide +kernel
theorem d8_13 : decode prog_27_method_4_code 13 = .ok (.areturn, 1) := by decide +kernel
theorem pn_8 : plainName "com/example/memo3/memo3/protocol/Command" = true := by first | (simp [plainName, overriddenIn]; done) | decide +kernel
theorem ef_response (m : MethodId) (x0 : Int32) : entryFrame m #[(.int x0), .null] 2 = mkF m 0 #[.val (.int x0), .val .null] [] := by first | (simp [entryFrame, mkF, argsToLocals, Value.category]; done) | rfl
def Q_response (Z : State) (p1 : Int32) (wE : Addr) (wB : Addr) (h0 : Heap) (n0 : Nat) (v : Option Value) (h : Heap) (L : List Loc) : Prop := ∃ b : Addr, v = some (.ref b) ∧ Fr n0 L ∧ Keep h0 h [] ∧ h0.size ≤ b ∧ Exa Z h b "com/example/memo3/memo3/protocol/Command" ∧ Fld Z h b "com/example/memo3/memo3/protocol/Command" "code" "I" (.int p1) ∧ Fld Z h b "com/example/memo3/memo3/protocol/Command" "flag" "I" (.int (1 : Int32)) ∧ Fld Z h b "com/example/memo3/memo3/protocol/Command" "opaque" "I" (.int (0 : Int32)) ∧ Fld Z h b "com/example/memo3/memo3/protocol/Command" "remark" "Ljava/lang/String;" .null ∧ Fld Z h b "com/example/memo3/memo3/protocol/Command" "extFields" "Ljava/util/Map;" (.ref wE) ∧ Fld Z h b "com/example/memo3/memo3/protocol/Command" "body" "[B" (.ref wB)
set_option maxRecDepth 65536 in
set_option maxHeartbeats 40000000 in
theorem rm_response (l : Launch) (Z : State) (a0 : Array Value) (hw : ∀ d ∈ tables_1, d.before a0 Z = true) (ws : List Jvm.Cond) (p1 : Int32) (wE : Addr) (wB : Addr) (h0 : Heap) (n0 : Nat) (Z0 : n0 ≤ h0.size) (O0 : Old Z n0 h0) (S_E : Sta Z Z.heap "java/util/ImmutableCollections" "EMPTY_MAP" "Ljava/util/ImmutableCollections$MapN;" (.ref wE)) (S_B : Sta Z Z.heap "com/example/memo3/memo3/protocol/Command" "NO_BODY" "[B" (.ref wB)) :
    MetFree l (⟨"com/example/memo3/memo3/protocol/Command", "response", "(ILjava/lang/String;)Lcom/example/memo3/memo3/protocol/Command;"⟩ : MethodName) (head1 (Jvm.Cond.code (⟨"com/example/memo3/memo3/protocol/Command", "response", "(ILjava/lang/String;)Lcom/example/memo3/memo3/protocol/Command;"⟩ : MethodName) prog_27_method_4_code 2 (some (.object "com/example/memo3/memo3/protocol/Command")) :: ws) ({ frames := 3, cells := 1, slots := 6, locals := 43 } : Room)) (fun a U => a = #[(.int p1), .null] ∧ Z.Warmed39 U.vm ∧ U.heap = h0) (fun _ _ _ _ _ => True) (fun _ U o U' => ∃ v L, o = .returned v ∧ Q_response Z p1 wE wB h0 n0 v U'.heap L ∧ FrameEnd U o U' L ({ frames := 3, cells := 1, slots := 6, locals := 43 } : Room).cells ({ frames := 3, cells := 1, slots := 6, locals := 43 } : Room).slots) := by
  refine MetFree.of_bodySF (plainFor_of_name pn_8) hisR ?_
  intro p e s m args below meth c s₁ Bd hml0 hP hK
  obtain ⟨rfl, hZ, hh⟩ := hP
  have hx := Bd.exec
  have hby := Bd.bytes
  have hml : c.maxLocals = 2 := hml0
  have hown : s.vm.findClass "com/example/memo3/memo3/protocol/Command" = some m.cls := findClass_of_methodNamed Bd.named
  have hnm := (name_of_methodNamed Bd.named Bd.method).1
  have hlk := Bd.notSynchronized
  have hret := Bd.returns
  have X0 : Stand p l e ({ frames := 3, cells := 1, slots := 6, locals := 43 } : Room) s m #[(.int p1), .null] below meth c s₁ [] 0 0 := Stand.of_body Bd
  have e0 : s₁.heap = h0 := by rw [← hh, Bd.state]; rfl
  have N0 := Fr.nil n0
  have K0 := Keep.refl h0 []
  refine own_in ({ frames := 3, cells := 1, slots := 6, locals := 43 } : Room).cells ({ frames := 3, cells := 1, slots := 6, locals := 43 } : Room).slots (Q_response Z p1 wE wB h0 n0) (ef_response m p1) ?_
  show own_G p.tables e below _ (s₁.setTop (mkF m 0 #[.val (.int p1), .val .null] []))
  obtain ⟨T1, h1, X1, e1, E1, A1, D1, -, st1⟩ := newO X0 hx hZ hown (hw _ (List.mem_of_getElem? (i := 45) rfl)) (hw _ (List.mem_of_getElem? (i := 1) rfl)) (hw _ (List.mem_of_getElem? (i := 2) rfl)) e0 (g := (mkF m 0 #[.val (.int p1), .val .null] [])) rfl (hb hby d8_0) (by decide) (by decide)
  obtain ⟨b1, g1⟩ : ∃ z, z = h0.size := ⟨_, rfl⟩
  have ge_b1 : n0 ≤ b1 := Nat.le_trans Z0 (Nat.le_of_eq g1.symm)
  have sz_b1 : h0.size ≤ b1 := Nat.le_trans K0.1 (Nat.le_of_eq g1.symm)
  rw [← g1] at A1 D1 st1
  have K1 := K0.ext E1
  have O1 := O0.ext E1
  have F1_code : Fld Z h1 b1 "com/example/memo3/memo3/protocol/Command" "code" "I" (.int (0 : Int32)) := D1 (Or.inr (hw _ (List.mem_of_getElem? (i := 23) rfl))) (ty := .int) (by decide)
  have F1_flag : Fld Z h1 b1 "com/example/memo3/memo3/protocol/Command" "flag" "I" (.int (0 : Int32)) := D1 (Or.inr (hw _ (List.mem_of_getElem? (i := 25) rfl))) (ty := .int) (by decide)
  have F1_opaque : Fld Z h1 b1 "com/example/memo3/memo3/protocol/Command" "opaque" "I" (.int (0 : Int32)) := D1 (Or.inr (hw _ (List.mem_of_getElem? (i := 27) rfl))) (ty := .int) (by decide)
  have F1_remark : Fld Z h1 b1 "com/example/memo3/memo3/protocol/Command" "remark" "Ljava/lang/String;" .null := D1 (Or.inr (hw _ (List.mem_of_getElem? (i := 29) rfl))) (ty := (.object "java/lang/String")) (by decide)
  have F1_extFields : Fld Z h1 b1 "com/example/memo3/memo3/protocol/Command" "extFields" "Ljava/util/Map;" .null := D1 (Or.inr (hw _ (List.mem_of_getElem? (i := 31) rfl))) (ty := (.object "java/util/Map")) (by decide)
  have F1_body : Fld Z h1 b1 "com/example/memo3/memo3/protocol/Command" "body" "[B" .null := D1 (Or.inr (hw _ (List.mem_of_getElem? (i := 33) rfl))) (ty := (.array .byte)) (by decide)
  refine own_st st1 ?_
  show own_G p.tables e below _ (T1.setTop (mkF m 3 #[.val (.int p1), .val .null] [(.ref b1)]))
  refine own_st (fun _ kS => XS.dup X1.here hx rfl (hb hby d8_3) rfl rfl kS) ?_
  show own_G p.tables e below _ (T1.setTop (mkF m 4 #[.val (.int p1), .val .null] [(.ref b1), (.ref b1)]))
  refine own_st (fun _ kS => XS.iloadN X1.here hx rfl (hb hby d8_4) rfl kS) ?_
  show own_G p.tables e below _ (T1.setTop (mkF m 5 #[.val (.int p1), .val .null] [(.int p1), (.ref b1), (.ref b1)]))
  refine own_st (fun _ kS => XS.iconst X1.here hx rfl (hb hby d8_5) kS) ?_
  show own_G p.tables e below _ (T1.setTop (mkF m 6 #[.val (.int p1), .val .null] [(.int (1 : Int32)), (.int p1), (.ref b1), (.ref b1)]))
  refine own_st (fun _ kS => XS.iconst X1.here hx rfl (hb hby d8_6) kS) ?_
  show own_G p.tables e below _ (T1.setTop (mkF m 7 #[.val (.int p1), .val .null] [(.int (0 : Int32)), (.int (1 : Int32)), (.int p1), (.ref b1), (.ref b1)]))
  refine own_st (fun _ kS => XS.aloadN X1.here hx rfl (hb hby d8_7) rfl rfl kS) ?_
  show own_G p.tables e below _ (T1.setTop (mkF m 8 #[.val (.int p1), .val .null] [.null, (.int (0 : Int32)), (.int (1 : Int32)), (.int p1), (.ref b1), (.ref b1)]))
  refine own_st (fun _ kS => XS.aconstNull X1.here hx rfl (hb hby d8_8) kS) ?_
  show own_G p.tables e below _ (T1.setTop (mkF m 9 #[.val (.int p1), .val .null] [.null, .null, (.int (0 : Int32)), (.int (1 : Int32)), (.int p1), (.ref b1), (.ref b1)]))
  refine own_st (fun _ kS => XS.aconstNull X1.here hx rfl (hb hby d8_9) kS) ?_
  show own_G p.tables e below _ (T1.setTop (mkF m 10 #[.val (.int p1), .val .null] [.null, .null, .null, (.int (0 : Int32)), (.int (1 : Int32)), (.int p1), (.ref b1), (.ref b1)]))
  obtain ⟨_, _, ⟨T2, L2, k2, n2⟩, -, X2, ⟨Lc2, hQ2, l2, y2, z2⟩, st2⟩ := X1.specialBack hx (y := (⟨"com/example/memo3/memo3/protocol/Command", "<init>", "(IIILjava/lang/String;Ljava/util/Map;[B)V"⟩ : MethodName)) rfl hown (mvT hZ (hw _ (List.mem_of_getElem? (i := 46) rfl))) (mvT hZ (hw _ (List.mem_of_getElem? (i := 4) rfl))) (mvT hZ (hw _ (List.mem_of_getElem? (i := 5) rfl))) (by decide) (backOf (W := 1) (rm_cmdInit0 l Z a0 hw [] b1 p1 (1 : Int32) (0 : Int32) wE wB h1 n0 (Nat.le_trans Z0 E1.1) O1 A1 ge_b1 F1_code F1_flag F1_opaque F1_remark F1_extFields F1_body S_E S_B) hZ (hw _ (List.mem_of_getElem? (i := 5) rfl)) (hw _ (List.mem_of_getElem? (i := 2) rfl)) (by decide) (by decide)) (g := (mkF m 10 #[.val (.int p1), .val .null] [.null, .null, .null, (.int (0 : Int32)), (.int (1 : Int32)), (.int p1), (.ref b1), (.ref b1)])) rfl (by rw [hml]; rfl) (Steps.refl _) (a := b1) (argsL := [(.int p1), (.int (1 : Int32)), (.int (0 : Int32)), .null, .null, .null]) (rest := [(.ref b1)]) (lenOf own_pd3 rfl) rfl (by show 2 * 0 + _ ≤ _; exact Nat.le_of_eq rfl) (hb hby d8_10) (fun _ _ => ⟨rfl, e1, (by decide : 1 + 0 ≤ _), (by decide : 6 + 0 ≤ _)⟩)
  dsimp only [Pt.U, Pt.locs, Pt.cells, Pt.slots] at X2 l2 y2 z2 st2 hQ2
  subst l2 y2 z2
  obtain ⟨rfl, Nq2, Kc2, P2_0, P2_1, P2_2, P2_3, P2_4, P2_5, P2_6⟩ := hQ2
  have N2 := Fr.app N0 Nq2
  have K2 := K1.trans Kc2 (allS (Or.inr sz_b1) all0)
  have O2 := O1.keep Kc2 (allS ge_b1 all0)
  refine own_tr st2 ?_
  show own_G p.tables e below _ (T2.setTop (mkF m 13 #[.val (.int p1), .val .null] [(.ref b1)]))
  exact own_retA X2 hx hlk hret rfl rfl (hb hby d8_13) (by decide) (by decide) (show Q_response Z p1 wE wB h0 n0 _ _ _ from ⟨b1, ⟨rfl, N2, K2, sz_b1, P2_0, P2_1, P2_2, P2_3, P2_4, P2_5, P2_6⟩⟩)
theorem d9_0 : decode prog_27_method_8_code 0 = .ok (.new 18, 3) := by decide +kernel
theorem d9_3 : decode prog_27_method_8_code 3 = .ok (.dup, 1) := by decide +kernel
theorem d9_4 : decode prog_27_method_8_code 4 = .ok (.aload_n 0, 1) := by decide +kernel
theorem d9_5 : decode prog_27_method_8_code 5 = .ok (.getfield 23, 3) := by decide +kernel
theorem d9_8 : decode prog_27_method_8_code 8 = .ok (.aload_n 0, 1) := by decide +kernel
theorem d9_9 : decode prog_27_method_8_code 9 = .ok (.getfield 27, 3) := by decide +kernel
theorem d9_12 : decode prog_27_method_8_code 12 = .ok (.iconst 1, 1) := by decide +kernel
theorem d9_13 : decode prog_27_method_8_code 13 = .ok (.ior, 1) := by decide +kernel
theorem d9_14 : decode prog_27_method_8_code 14 = .ok (.aload_n 1, 1) := by decide +kernel
theorem d9_15 : decode prog_27_method_8_code 15 = .ok (.invokevirtual 51, 3) := by decide +kernel
theorem d9_18 : decode prog_27_method_8_code 18 = .ok (.aload_n 0, 1) := by decide +kernel
theorem d9_19 : decode prog_27_method_8_code 19 = .ok (.getfield 33, 3) := by decide +kernel
theorem d9_22 : decode prog_27_method_8_code 22 = .ok (.aload_n 0, 1) := by decide +kernel
theorem d9_23 : decode prog_27_method_8_code 23 = .ok (.getfield 37, 3) := by decide +kernel
theorem d9_26 : decode prog_27_method_8_code 26 = .ok (.aload_n 0, 1) := by decide +kernel
theorem d9_27 : decode prog_27_method_8_code 27 = .ok (.getfield 41, 3) := by decide +kernel
theorem d9_30 : decode prog_27_method_8_code 30 = .ok (.invokespecial 48, 3) := by decide +kernel
theorem d9_33 : decode prog_27_method_8_code 33 = .ok (.areturn, 1) := by decide +kernel
theorem pn_9 : plainName "com/example/memo3/memo3/protocol/Command" = true := by first | (simp [plainName, overriddenIn]; done) | decide +kernel
theorem own_pd5 : parseMethodDescriptor "()I" = some ⟨[], some .int⟩ := by decide +kernel
theorem ef_answering (m : MethodId) (x0 : Addr) (x1 : Addr) : entryFrame m #[(.ref x0), (.ref x1)] 2 = mkF m 0 #[.val (.ref x0), .val (.ref x1)] [] := by first | (simp [entryFrame, mkF, argsToLocals, Value.category]; done) | rfl
def Q_answering (Z : State) (a1 : Addr) (a2 : Addr) (p2 : Int32) (p3 : Int32) (p4 : Int32) (wE : Addr) (wB : Addr) (h0 : Heap) (n0 : Nat) (v : Option Value) (h : Heap) (L : List Loc) : Prop := ∃ b : Addr, v = some (.ref b) ∧ Fr n0 L ∧ Keep h0 h [] ∧ h0.size ≤ b ∧ Exa Z h b "com/example/memo3/memo3/protocol/Command" ∧ Fld Z h b "com/example/memo3/memo3/protocol/Command" "code" "I" (.int p2) ∧ Fld Z h b "com/example/memo3/memo3/protocol/Command" "flag" "I" (.int (p3 ||| (1 : Int32))) ∧ Fld Z h b "com/example/memo3/memo3/protocol/Command" "opaque" "I" (.int p4) ∧ Fld Z h b "com/example/memo3/memo3/protocol/Command" "remark" "Ljava/lang/String;" .null ∧ Fld Z h b "com/example/memo3/memo3/protocol/Command" "extFields" "Ljava/util/Map;" (.ref wE) ∧ Fld Z h b "com/example/memo3/memo3/protocol/Command" "body" "[B" (.ref wB)
set_option maxRecDepth 65536 in
set_option maxHeartbeats 40000000 in
theorem rm_answering (l : Launch) (Z : State) (a0 : Array Value) (hw : ∀ d ∈ tables_1, d.before a0 Z = true) (ws : List Jvm.Cond) (a1 : Addr) (a2 : Addr) (p2 : Int32) (p3 : Int32) (p4 : Int32) (wE : Addr) (wB : Addr) (h0 : Heap) (n0 : Nat) (Z0 : n0 ≤ h0.size) (O0 : Old Z n0 h0) (E_1 : Exa Z h0 a1 "com/example/memo3/memo3/protocol/Command") (E_2 : Exa Z h0 a2 "com/example/memo3/memo3/protocol/Command") (F_1 : Fld Z h0 a1 "com/example/memo3/memo3/protocol/Command" "code" "I" (.int p2)) (F_2 : Fld Z h0 a1 "com/example/memo3/memo3/protocol/Command" "flag" "I" (.int p3)) (F_3 : Fld Z h0 a1 "com/example/memo3/memo3/protocol/Command" "remark" "Ljava/lang/String;" .null) (F_4 : Fld Z h0 a1 "com/example/memo3/memo3/protocol/Command" "extFields" "Ljava/util/Map;" (.ref wE)) (F_5 : Fld Z h0 a1 "com/example/memo3/memo3/protocol/Command" "body" "[B" (.ref wB)) (F_6 : Fld Z h0 a2 "com/example/memo3/memo3/protocol/Command" "opaque" "I" (.int p4)) (E_E : Exa Z Z.heap wE "java/util/ImmutableCollections$MapN") :
    MetFree l (⟨"com/example/memo3/memo3/protocol/Command", "answering", "(Lcom/example/memo3/memo3/protocol/Command;)Lcom/example/memo3/memo3/protocol/Command;"⟩ : MethodName) (head1 (Jvm.Cond.code (⟨"com/example/memo3/memo3/protocol/Command", "answering", "(Lcom/example/memo3/memo3/protocol/Command;)Lcom/example/memo3/memo3/protocol/Command;"⟩ : MethodName) prog_27_method_8_code 2 (some (.object "com/example/memo3/memo3/protocol/Command")) :: ws) ({ frames := 3, cells := 1, slots := 6, locals := 43 } : Room)) (fun a U => a = #[(.ref a1), (.ref a2)] ∧ Z.Warmed39 U.vm ∧ U.heap = h0) (fun _ _ _ _ _ => True) (fun _ U o U' => ∃ v L, o = .returned v ∧ Q_answering Z a1 a2 p2 p3 p4 wE wB h0 n0 v U'.heap L ∧ FrameEnd U o U' L ({ frames := 3, cells := 1, slots := 6, locals := 43 } : Room).cells ({ frames := 3, cells := 1, slots := 6, locals := 43 } : Room).slots) := by
  refine MetFree.of_bodySF (plainFor_of_name pn_9) hisR ?_
  intro p e s m args below meth c s₁ Bd hml0 hP hK
  obtain ⟨rfl, hZ, hh⟩ := hP
  have hx := Bd.exec
  have hby := Bd.bytes
  have hml : c.maxLocals = 2 := hml0
  have hown : s.vm.findClass "com/example/memo3/memo3/protocol/Command" = some m.cls := findClass_of_methodNamed Bd.named
  have hnm := (name_of_methodNamed Bd.named Bd.method).1
  have hlk := Bd.notSynchronized
  have hret := Bd.returns
  have X0 : Stand p l e ({ frames := 3, cells := 1, slots := 6, locals := 43 } : Room) s m #[(.ref a1), (.ref a2)] below meth c s₁ [] 0 0 := Stand.of_body Bd
  have e0 : s₁.heap = h0 := by rw [← hh, Bd.state]; rfl
  have N0 := Fr.nil n0
  have K0 := Keep.refl h0 []
  refine own_in ({ frames := 3, cells := 1, slots := 6, locals := 43 } : Room).cells ({ frames := 3, cells := 1, slots := 6, locals := 43 } : Room).slots (Q_answering Z a1 a2 p2 p3 p4 wE wB h0 n0) (ef_answering m a1 a2) ?_
  show own_G p.tables e below _ (s₁.setTop (mkF m 0 #[.val (.ref a1), .val (.ref a2)] []))
  obtain ⟨T1, h1, X1, e1, E1, A1, D1, -, st1⟩ := newO X0 hx hZ hown (hw _ (List.mem_of_getElem? (i := 45) rfl)) (hw _ (List.mem_of_getElem? (i := 1) rfl)) (hw _ (List.mem_of_getElem? (i := 2) rfl)) e0 (g := (mkF m 0 #[.val (.ref a1), .val (.ref a2)] [])) rfl (hb hby d9_0) (by decide) (by decide)
  obtain ⟨b1, g1⟩ : ∃ z, z = h0.size := ⟨_, rfl⟩
  have ne_a1_b1 : a1 ≠ b1 := Nat.ne_of_lt (Nat.lt_of_lt_of_eq E_1.lt g1.symm)
  have ne_a2_b1 : a2 ≠ b1 := Nat.ne_of_lt (Nat.lt_of_lt_of_eq E_2.lt g1.symm)
  have ge_b1 : n0 ≤ b1 := Nat.le_trans Z0 (Nat.le_of_eq g1.symm)
  have sz_b1 : h0.size ≤ b1 := Nat.le_trans K0.1 (Nat.le_of_eq g1.symm)
  rw [← g1] at A1 D1 st1
  have K1 := K0.ext E1
  have O1 := O0.ext E1
  have F1_code : Fld Z h1 b1 "com/example/memo3/memo3/protocol/Command" "code" "I" (.int (0 : Int32)) := D1 (Or.inr (hw _ (List.mem_of_getElem? (i := 23) rfl))) (ty := .int) (by decide)
  have F1_flag : Fld Z h1 b1 "com/example/memo3/memo3/protocol/Command" "flag" "I" (.int (0 : Int32)) := D1 (Or.inr (hw _ (List.mem_of_getElem? (i := 25) rfl))) (ty := .int) (by decide)
  have F1_opaque : Fld Z h1 b1 "com/example/memo3/memo3/protocol/Command" "opaque" "I" (.int (0 : Int32)) := D1 (Or.inr (hw _ (List.mem_of_getElem? (i := 27) rfl))) (ty := .int) (by decide)
  have F1_remark : Fld Z h1 b1 "com/example/memo3/memo3/protocol/Command" "remark" "Ljava/lang/String;" .null := D1 (Or.inr (hw _ (List.mem_of_getElem? (i := 29) rfl))) (ty := (.object "java/lang/String")) (by decide)
  have F1_extFields : Fld Z h1 b1 "com/example/memo3/memo3/protocol/Command" "extFields" "Ljava/util/Map;" .null := D1 (Or.inr (hw _ (List.mem_of_getElem? (i := 31) rfl))) (ty := (.object "java/util/Map")) (by decide)
  have F1_body : Fld Z h1 b1 "com/example/memo3/memo3/protocol/Command" "body" "[B" .null := D1 (Or.inr (hw _ (List.mem_of_getElem? (i := 33) rfl))) (ty := (.array .byte)) (by decide)
  refine own_st st1 ?_
  show own_G p.tables e below _ (T1.setTop (mkF m 3 #[.val (.ref a1), .val (.ref a2)] [(.ref b1)]))
  refine own_st (fun _ kS => XS.dup X1.here hx rfl (hb hby d9_3) rfl rfl kS) ?_
  show own_G p.tables e below _ (T1.setTop (mkF m 4 #[.val (.ref a1), .val (.ref a2)] [(.ref b1), (.ref b1)]))
  refine own_st (fun _ kS => XS.aloadN X1.here hx rfl (hb hby d9_4) rfl rfl kS) ?_
  show own_G p.tables e below _ (T1.setTop (mkF m 5 #[.val (.ref a1), .val (.ref a2)] [(.ref a1), (.ref b1), (.ref b1)]))
  obtain ⟨T2, X2, e2, st2⟩ := getF X1 hx hZ hown (host := "") (Or.inl (hw _ (List.mem_of_getElem? (i := 22) rfl))) Via.refl e1 (Fld.ext E1 F_1) (g := (mkF m 5 #[.val (.ref a1), .val (.ref a2)] [(.ref a1), (.ref b1), (.ref b1)])) rfl rfl (hb hby d9_5)
  refine own_st st2 ?_
  show own_G p.tables e below _ (T2.setTop (mkF m 8 #[.val (.ref a1), .val (.ref a2)] [(.int p2), (.ref b1), (.ref b1)]))
  refine own_st (fun _ kS => XS.aloadN X2.here hx rfl (hb hby d9_8) rfl rfl kS) ?_
  show own_G p.tables e below _ (T2.setTop (mkF m 9 #[.val (.ref a1), .val (.ref a2)] [(.ref a1), (.int p2), (.ref b1), (.ref b1)]))
  obtain ⟨T3, X3, e3, st3⟩ := getF X2 hx hZ hown (host := "") (Or.inl (hw _ (List.mem_of_getElem? (i := 24) rfl))) Via.refl e2 (Fld.ext E1 F_2) (g := (mkF m 9 #[.val (.ref a1), .val (.ref a2)] [(.ref a1), (.int p2), (.ref b1), (.ref b1)])) rfl rfl (hb hby d9_9)
  refine own_st st3 ?_
  show own_G p.tables e below _ (T3.setTop (mkF m 12 #[.val (.ref a1), .val (.ref a2)] [(.int p3), (.int p2), (.ref b1), (.ref b1)]))
  refine own_st (fun _ kS => XS.iconst X3.here hx rfl (hb hby d9_12) kS) ?_
  show own_G p.tables e below _ (T3.setTop (mkF m 13 #[.val (.ref a1), .val (.ref a2)] [(.int (1 : Int32)), (.int p3), (.int p2), (.ref b1), (.ref b1)]))
  refine own_st (fun _ kS => XT.ior X3.here hx rfl (hb hby d9_13) rfl kS) ?_
  show own_G p.tables e below _ (T3.setTop (mkF m 14 #[.val (.ref a1), .val (.ref a2)] [(.int (p3 ||| (1 : Int32))), (.int p2), (.ref b1), (.ref b1)]))
  refine own_st (fun _ kS => XS.aloadN X3.here hx rfl (hb hby d9_14) rfl rfl kS) ?_
  show own_G p.tables e below _ (T3.setTop (mkF m 15 #[.val (.ref a1), .val (.ref a2)] [(.ref a2), (.int (p3 ||| (1 : Int32))), (.int p2), (.ref b1), (.ref b1)]))
  obtain ⟨cq4, kq4, q4a, q4b, q4c⟩ := isOf hZ e3 (Exa.ext E1 E_2)
  obtain ⟨_, _, ⟨T4, L4, k4, n4⟩, -, X4, ⟨Lc4, hQ4, l4, y4, z4⟩, st4⟩ := X3.virtualBack hx (y := (⟨"com/example/memo3/memo3/protocol/Command", "opaque", "()I"⟩ : MethodName)) (z := (⟨"com/example/memo3/memo3/protocol/Command", "opaque", "()I"⟩ : MethodName)) hown (mvT hZ (hw _ (List.mem_of_getElem? (i := 55) rfl))) (mvT hZ (hw _ (List.mem_of_getElem? (i := 56) rfl))) (notFace_of_selects (args := #[]) (mvT hZ (hw _ (List.mem_of_getElem? (i := 58) rfl)))) (mvT hZ (hw _ (List.mem_of_getElem? (i := 58) rfl))) (mvT hZ (hw _ (List.mem_of_getElem? (i := 57) rfl))) (by decide) (backOf (W := 4) (rm_opaque l Z a0 hw [] a2 p4 h1 n0 (Nat.le_trans Z0 E1.1)  (Fld.ext E1 F_6)) hZ (hw _ (List.mem_of_getElem? (i := 59) rfl)) (hw _ (List.mem_of_getElem? (i := 2) rfl)) (by decide) (by decide)) q4a q4c (g := (mkF m 15 #[.val (.ref a1), .val (.ref a2)] [(.ref a2), (.int (p3 ||| (1 : Int32))), (.int p2), (.ref b1), (.ref b1)])) rfl (by rw [hml]; rfl) (Steps.refl _) (argsL := []) (rest := [(.int (p3 ||| (1 : Int32))), (.int p2), (.ref b1), (.ref b1)]) (lenOf own_pd5 rfl) rfl (by show 2 * 0 + _ ≤ _; exact Nat.le_of_eq rfl) (hb hby d9_15) (fun _ _ => ⟨rfl, e3, (by decide : 1 + 0 ≤ _), (by decide : 6 + 0 ≤ _)⟩)
  dsimp only [Pt.U, Pt.locs, Pt.cells, Pt.slots] at X4 l4 y4 z4 st4 hQ4
  subst l4 y4 z4
  obtain ⟨rfl, Nq4, eq4⟩ := hQ4
  have N4 := Fr.app N0 Nq4
  refine own_tr st4 ?_
  show own_G p.tables e below _ (T4.setTop (mkF m 18 #[.val (.ref a1), .val (.ref a2)] [(.int p4), (.int (p3 ||| (1 : Int32))), (.int p2), (.ref b1), (.ref b1)]))
  refine own_st (fun _ kS => XS.aloadN X4.here hx rfl (hb hby d9_18) rfl rfl kS) ?_
  show own_G p.tables e below _ (T4.setTop (mkF m 19 #[.val (.ref a1), .val (.ref a2)] [(.ref a1), (.int p4), (.int (p3 ||| (1 : Int32))), (.int p2), (.ref b1), (.ref b1)]))
  obtain ⟨T5, X5, e5, st5⟩ := getF X4 hx hZ hown (host := "") (Or.inl (hw _ (List.mem_of_getElem? (i := 28) rfl))) Via.refl eq4 (Fld.ext E1 F_3) (g := (mkF m 19 #[.val (.ref a1), .val (.ref a2)] [(.ref a1), (.int p4), (.int (p3 ||| (1 : Int32))), (.int p2), (.ref b1), (.ref b1)])) rfl rfl (hb hby d9_19)
  refine own_st st5 ?_
  show own_G p.tables e below _ (T5.setTop (mkF m 22 #[.val (.ref a1), .val (.ref a2)] [.null, (.int p4), (.int (p3 ||| (1 : Int32))), (.int p2), (.ref b1), (.ref b1)]))
  refine own_st (fun _ kS => XS.aloadN X5.here hx rfl (hb hby d9_22) rfl rfl kS) ?_
  show own_G p.tables e below _ (T5.setTop (mkF m 23 #[.val (.ref a1), .val (.ref a2)] [(.ref a1), .null, (.int p4), (.int (p3 ||| (1 : Int32))), (.int p2), (.ref b1), (.ref b1)]))
  obtain ⟨T6, X6, e6, st6⟩ := getF X5 hx hZ hown (host := "") (Or.inl (hw _ (List.mem_of_getElem? (i := 30) rfl))) Via.refl e5 (Fld.ext E1 F_4) (g := (mkF m 23 #[.val (.ref a1), .val (.ref a2)] [(.ref a1), .null, (.int p4), (.int (p3 ||| (1 : Int32))), (.int p2), (.ref b1), (.ref b1)])) rfl rfl (hb hby d9_23)
  refine own_st st6 ?_
  show own_G p.tables e below _ (T6.setTop (mkF m 26 #[.val (.ref a1), .val (.ref a2)] [(.ref wE), .null, (.int p4), (.int (p3 ||| (1 : Int32))), (.int p2), (.ref b1), (.ref b1)]))
  refine own_st (fun _ kS => XS.aloadN X6.here hx rfl (hb hby d9_26) rfl rfl kS) ?_
  show own_G p.tables e below _ (T6.setTop (mkF m 27 #[.val (.ref a1), .val (.ref a2)] [(.ref a1), (.ref wE), .null, (.int p4), (.int (p3 ||| (1 : Int32))), (.int p2), (.ref b1), (.ref b1)]))
  obtain ⟨T7, X7, e7, st7⟩ := getF X6 hx hZ hown (host := "") (Or.inl (hw _ (List.mem_of_getElem? (i := 32) rfl))) Via.refl e6 (Fld.ext E1 F_5) (g := (mkF m 27 #[.val (.ref a1), .val (.ref a2)] [(.ref a1), (.ref wE), .null, (.int p4), (.int (p3 ||| (1 : Int32))), (.int p2), (.ref b1), (.ref b1)])) rfl rfl (hb hby d9_27)
  refine own_st st7 ?_
  show own_G p.tables e below _ (T7.setTop (mkF m 30 #[.val (.ref a1), .val (.ref a2)] [(.ref wB), (.ref wE), .null, (.int p4), (.int (p3 ||| (1 : Int32))), (.int p2), (.ref b1), (.ref b1)]))
  obtain ⟨_, _, ⟨T8, L8, k8, n8⟩, -, X8, ⟨Lc8, hQ8, l8, y8, z8⟩, st8⟩ := X7.specialBack hx (y := (⟨"com/example/memo3/memo3/protocol/Command", "<init>", "(IIILjava/lang/String;Ljava/util/Map;[B)V"⟩ : MethodName)) rfl hown (mvT hZ (hw _ (List.mem_of_getElem? (i := 46) rfl))) (mvT hZ (hw _ (List.mem_of_getElem? (i := 4) rfl))) (mvT hZ (hw _ (List.mem_of_getElem? (i := 5) rfl))) (by decide) (backOf (W := 1) (rm_cmdInit1 l Z a0 hw [] b1 p2 (p3 ||| (1 : Int32)) p4 wE wB h1 n0 (Nat.le_trans Z0 E1.1) O1 A1 ge_b1 F1_code F1_flag F1_opaque F1_remark F1_extFields F1_body E_E) hZ (hw _ (List.mem_of_getElem? (i := 5) rfl)) (hw _ (List.mem_of_getElem? (i := 2) rfl)) (by decide) (by decide)) (g := (mkF m 30 #[.val (.ref a1), .val (.ref a2)] [(.ref wB), (.ref wE), .null, (.int p4), (.int (p3 ||| (1 : Int32))), (.int p2), (.ref b1), (.ref b1)])) rfl (by rw [hml]; rfl) (Steps.refl _) (a := b1) (argsL := [(.int p2), (.int (p3 ||| (1 : Int32))), (.int p4), .null, (.ref wE), (.ref wB)]) (rest := [(.ref b1)]) (lenOf own_pd3 rfl) rfl (by show 2 * 0 + _ ≤ _; exact Nat.le_of_eq rfl) (hb hby d9_30) (fun _ _ => ⟨rfl, e7, (by decide : 1 + 0 ≤ _), (by decide : 6 + 0 ≤ _)⟩)
  dsimp only [Pt.U, Pt.locs, Pt.cells, Pt.slots] at X8 l8 y8 z8 st8 hQ8
  subst l8 y8 z8
  obtain ⟨rfl, Nq8, Kc8, P8_0, P8_1, P8_2, P8_3, P8_4, P8_5, P8_6⟩ := hQ8
  have N8 := Fr.app N4 Nq8
  have K8 := K1.trans Kc8 (allS (Or.inr sz_b1) all0)
  have O8 := O1.keep Kc8 (allS ge_b1 all0)
  refine own_tr st8 ?_
  show own_G p.tables e below _ (T8.setTop (mkF m 33 #[.val (.ref a1), .val (.ref a2)] [(.ref b1)]))
  exact own_retA X8 hx hlk hret rfl rfl (hb hby d9_33) (by decide) (by decide) (show Q_answering Z a1 a2 p2 p3 p4 wE wB h0 n0 _ _ _ from ⟨b1, ⟨rfl, N8, K8, sz_b1, P8_0, P8_1, P8_2, P8_3, P8_4, P8_5, P8_6⟩⟩)
theorem pn_0 : plainName "com/example/memo3/memo3/protocol/CommandIsResponsePinLaw" = true := by first | (simp [plainName, overriddenIn]; done) | decide +kernel
def Q_law (n0 : Nat) (v : Option Value) (h : Heap) (L : List Loc) : Prop := v = some (.int (1 : Int32)) ∧ Fr n0 L
theorem own_pd6 : parseMethodDescriptor "()Z" = some ⟨[], some .boolean⟩ := by decide +kernel
theorem own_pd7 : parseMethodDescriptor "(ILjava/util/Map;)Lcom/example/memo3/memo3/protocol/Command;" = some ⟨[.int, (.object "java/util/Map")], some (.object "com/example/memo3/memo3/protocol/Command")⟩ := by decide +kernel
theorem own_pd8 : parseMethodDescriptor "(ILjava/lang/String;)Lcom/example/memo3/memo3/protocol/Command;" = some ⟨[.int, (.object "java/lang/String")], some (.object "com/example/memo3/memo3/protocol/Command")⟩ := by decide +kernel
theorem own_pd9 : parseMethodDescriptor "(Lcom/example/memo3/memo3/protocol/Command;)Lcom/example/memo3/memo3/protocol/Command;" = some ⟨[(.object "com/example/memo3/memo3/protocol/Command")], some (.object "com/example/memo3/memo3/protocol/Command")⟩ := by decide +kernel
theorem ef_law (m : MethodId) (x0 : Int32) (x1 : Int32) (x2 : Int32) : entryFrame m #[(.int x0), (.int x1), (.int x2)] maxLocals = mkF m 0 #[.val (.int x0), .val (.int x1), .val (.int x2), .unset, .unset, .unset, .unset] [] := by first | (simp [entryFrame, mkF, argsToLocals, Value.category, maxLocals]; done) | rfl
set_option maxRecDepth 65536 in
set_option maxHeartbeats 40000000 in
theorem rm_law (l : Launch) (Z : State) (a0 : Array Value) (hw : ∀ d ∈ tables_1, d.before a0 Z = true) (ws : List Jvm.Cond) (p1 : Int32) (p2 : Int32) (p3 : Int32) (wE : Addr) (wB : Addr) (h0 : Heap) (n0 : Nat) (Z0 : n0 ≤ h0.size) (O0 : Old Z n0 h0) (S_E : Sta Z Z.heap "java/util/ImmutableCollections" "EMPTY_MAP" "Ljava/util/ImmutableCollections$MapN;" (.ref wE)) (S_B : Sta Z Z.heap "com/example/memo3/memo3/protocol/Command" "NO_BODY" "[B" (.ref wB)) (E_E : Exa Z Z.heap wE "java/util/ImmutableCollections$MapN") :
    MetFree l x (head1 (Jvm.Cond.code x code maxLocals ret :: ws) room_1) (fun a U => a = #[(.int p1), (.int p2), (.int p3)] ∧ Z.Warmed39 U.vm ∧ U.heap = h0) (fun _ _ _ _ _ => True) (fun _ U o U' => ∃ v L, o = .returned v ∧ Q_law n0 v U'.heap L ∧ FrameEnd U o U' L room_1.cells room_1.slots) := by
  refine MetFree.of_bodySF (plainFor_of_name pn_0) hisR ?_
  intro p e s m args below meth c s₁ Bd hml0 hP hK
  obtain ⟨rfl, hZ, hh⟩ := hP
  have hx := Bd.exec
  have hby := Bd.bytes
  have hml : c.maxLocals = 7 := hml0
  have hown : s.vm.findClass "com/example/memo3/memo3/protocol/CommandIsResponsePinLaw" = some m.cls := findClass_of_methodNamed Bd.named
  have hnm := (name_of_methodNamed Bd.named Bd.method).1
  have hlk := Bd.notSynchronized
  have hret := Bd.returns
  have X0 : Stand p l e room_1 s m #[(.int p1), (.int p2), (.int p3)] below meth c s₁ [] 0 0 := Stand.of_body Bd
  have e0 : s₁.heap = h0 := by rw [← hh, Bd.state]; rfl
  have N0 := Fr.nil n0
  refine own_in room_1.cells room_1.slots (Q_law n0) (ef_law m p1 p2 p3) ?_
  show own_G p.tables e below _ (s₁.setTop (mkF m 0 #[.val (.int p1), .val (.int p2), .val (.int p3), .unset, .unset, .unset, .unset] []))
  obtain ⟨T1, h1, X1, e1, E1, A1, D1, -, st1⟩ := newO X0 hx hZ hown (hw _ (List.mem_of_getElem? (i := 0) rfl)) (hw _ (List.mem_of_getElem? (i := 1) rfl)) (hw _ (List.mem_of_getElem? (i := 2) rfl)) e0 (g := (mkF m 0 #[.val (.int p1), .val (.int p2), .val (.int p3), .unset, .unset, .unset, .unset] [])) rfl (hb hby at_0) (by decide) (by decide)
  obtain ⟨b1, g1⟩ : ∃ z, z = h0.size := ⟨_, rfl⟩
  have ge_b1 : n0 ≤ b1 := Nat.le_trans Z0 (Nat.le_of_eq g1.symm)
  rw [← g1] at A1 D1 st1
  have O1 := O0.ext E1
  have F1_code : Fld Z h1 b1 "com/example/memo3/memo3/protocol/Command" "code" "I" (.int (0 : Int32)) := D1 (Or.inr (hw _ (List.mem_of_getElem? (i := 23) rfl))) (ty := .int) (by decide)
  have F1_flag : Fld Z h1 b1 "com/example/memo3/memo3/protocol/Command" "flag" "I" (.int (0 : Int32)) := D1 (Or.inr (hw _ (List.mem_of_getElem? (i := 25) rfl))) (ty := .int) (by decide)
  have F1_opaque : Fld Z h1 b1 "com/example/memo3/memo3/protocol/Command" "opaque" "I" (.int (0 : Int32)) := D1 (Or.inr (hw _ (List.mem_of_getElem? (i := 27) rfl))) (ty := .int) (by decide)
  have F1_remark : Fld Z h1 b1 "com/example/memo3/memo3/protocol/Command" "remark" "Ljava/lang/String;" .null := D1 (Or.inr (hw _ (List.mem_of_getElem? (i := 29) rfl))) (ty := (.object "java/lang/String")) (by decide)
  have F1_extFields : Fld Z h1 b1 "com/example/memo3/memo3/protocol/Command" "extFields" "Ljava/util/Map;" .null := D1 (Or.inr (hw _ (List.mem_of_getElem? (i := 31) rfl))) (ty := (.object "java/util/Map")) (by decide)
  have F1_body : Fld Z h1 b1 "com/example/memo3/memo3/protocol/Command" "body" "[B" .null := D1 (Or.inr (hw _ (List.mem_of_getElem? (i := 33) rfl))) (ty := (.array .byte)) (by decide)
  refine own_st st1 ?_
  show own_G p.tables e below _ (T1.setTop (mkF m 3 #[.val (.int p1), .val (.int p2), .val (.int p3), .unset, .unset, .unset, .unset] [(.ref b1)]))
  refine own_st (fun _ kS => XS.dup X1.here hx rfl (hb hby at_3) rfl rfl kS) ?_
  show own_G p.tables e below _ (T1.setTop (mkF m 4 #[.val (.int p1), .val (.int p2), .val (.int p3), .unset, .unset, .unset, .unset] [(.ref b1), (.ref b1)]))
  refine own_st (fun _ kS => XS.iloadN X1.here hx rfl (hb hby at_4) rfl kS) ?_
  show own_G p.tables e below _ (T1.setTop (mkF m 5 #[.val (.int p1), .val (.int p2), .val (.int p3), .unset, .unset, .unset, .unset] [(.int p1), (.ref b1), (.ref b1)]))
  refine own_st (fun _ kS => XS.iloadN X1.here hx rfl (hb hby at_5) rfl kS) ?_
  show own_G p.tables e below _ (T1.setTop (mkF m 6 #[.val (.int p1), .val (.int p2), .val (.int p3), .unset, .unset, .unset, .unset] [(.int p2), (.int p1), (.ref b1), (.ref b1)]))
  refine own_st (fun _ kS => XS.iloadN X1.here hx rfl (hb hby at_6) rfl kS) ?_
  show own_G p.tables e below _ (T1.setTop (mkF m 7 #[.val (.int p1), .val (.int p2), .val (.int p3), .unset, .unset, .unset, .unset] [(.int p3), (.int p2), (.int p1), (.ref b1), (.ref b1)]))
  refine own_st (fun _ kS => XS.aconstNull X1.here hx rfl (hb hby at_7) kS) ?_
  show own_G p.tables e below _ (T1.setTop (mkF m 8 #[.val (.int p1), .val (.int p2), .val (.int p3), .unset, .unset, .unset, .unset] [.null, (.int p3), (.int p2), (.int p1), (.ref b1), (.ref b1)]))
  refine own_st (fun _ kS => XS.aconstNull X1.here hx rfl (hb hby at_8) kS) ?_
  show own_G p.tables e below _ (T1.setTop (mkF m 9 #[.val (.int p1), .val (.int p2), .val (.int p3), .unset, .unset, .unset, .unset] [.null, .null, (.int p3), (.int p2), (.int p1), (.ref b1), (.ref b1)]))
  refine own_st (fun _ kS => XS.aconstNull X1.here hx rfl (hb hby at_9) kS) ?_
  show own_G p.tables e below _ (T1.setTop (mkF m 10 #[.val (.int p1), .val (.int p2), .val (.int p3), .unset, .unset, .unset, .unset] [.null, .null, .null, (.int p3), (.int p2), (.int p1), (.ref b1), (.ref b1)]))
  obtain ⟨_, _, ⟨T2, L2, k2, n2⟩, -, X2, ⟨Lc2, hQ2, l2, y2, z2⟩, st2⟩ := X1.specialBack hx (y := (⟨"com/example/memo3/memo3/protocol/Command", "<init>", "(IIILjava/lang/String;Ljava/util/Map;[B)V"⟩ : MethodName)) rfl hown (mvT hZ (hw _ (List.mem_of_getElem? (i := 3) rfl))) (mvT hZ (hw _ (List.mem_of_getElem? (i := 4) rfl))) (mvT hZ (hw _ (List.mem_of_getElem? (i := 5) rfl))) (by decide) (backOf (W := 1) (rm_cmdInit0 l Z a0 hw [] b1 p1 p2 p3 wE wB h1 n0 (Nat.le_trans Z0 E1.1) O1 A1 ge_b1 F1_code F1_flag F1_opaque F1_remark F1_extFields F1_body S_E S_B) hZ (hw _ (List.mem_of_getElem? (i := 5) rfl)) (hw _ (List.mem_of_getElem? (i := 2) rfl)) (by decide) (by decide)) (g := (mkF m 10 #[.val (.int p1), .val (.int p2), .val (.int p3), .unset, .unset, .unset, .unset] [.null, .null, .null, (.int p3), (.int p2), (.int p1), (.ref b1), (.ref b1)])) rfl (by rw [hml]; rfl) (Steps.refl _) (a := b1) (argsL := [(.int p1), (.int p2), (.int p3), .null, .null, .null]) (rest := [(.ref b1)]) (lenOf own_pd3 rfl) rfl (by show 2 * 0 + _ ≤ _; exact Nat.le_of_eq rfl) (hb hby at_10) (fun _ _ => ⟨rfl, e1, (by decide : 1 + 0 ≤ _), (by decide : 6 + 0 ≤ _)⟩)
  dsimp only [Pt.U, Pt.locs, Pt.cells, Pt.slots] at X2 l2 y2 z2 st2 hQ2
  subst l2 y2 z2
  obtain ⟨rfl, Nq2, Kc2, P2_0, P2_1, P2_2, P2_3, P2_4, P2_5, P2_6⟩ := hQ2
  have N2 := Fr.app N0 Nq2
  have O2 := O1.keep Kc2 (allS ge_b1 all0)
  refine own_tr st2 ?_
  show own_G p.tables e below _ (T2.setTop (mkF m 13 #[.val (.int p1), .val (.int p2), .val (.int p3), .unset, .unset, .unset, .unset] [(.ref b1)]))
  refine own_st (fun _ kS => XS.astoreN X2.here hx rfl (hb hby at_13) rfl rfl (l' := #[.val (.int p1), .val (.int p2), .val (.int p3), .val (.ref b1), .unset, .unset, .unset]) rfl kS) ?_
  show own_G p.tables e below _ (T2.setTop (mkF m 14 #[.val (.int p1), .val (.int p2), .val (.int p3), .val (.ref b1), .unset, .unset, .unset] []))
  refine own_st (fun _ kS => XS.iloadN X2.here hx rfl (hb hby at_14) rfl kS) ?_
  show own_G p.tables e below _ (T2.setTop (mkF m 15 #[.val (.int p1), .val (.int p2), .val (.int p3), .val (.ref b1), .unset, .unset, .unset] [(.int p2)]))
  refine own_st (fun _ kS => XS.iconst X2.here hx rfl (hb hby at_15) kS) ?_
  show own_G p.tables e below _ (T2.setTop (mkF m 16 #[.val (.int p1), .val (.int p2), .val (.int p3), .val (.ref b1), .unset, .unset, .unset] [(.int (2 : Int32)), (.int p2)]))
  refine own_st (fun _ kS => iremM (g := (mkF m 16 #[.val (.int p1), .val (.int p2), .val (.int p3), .val (.ref b1), .unset, .unset, .unset] [(.int (2 : Int32)), (.int p2)])) X2 hx rfl (hb hby at_16) rfl (by decide) kS) ?_
  show own_G p.tables e below _ (T2.setTop (mkF m 17 #[.val (.int p1), .val (.int p2), .val (.int p3), .val (.ref b1), .unset, .unset, .unset] [(.int (p2 % (2 : Int32)))]))
  by_cases hc17_3 : (p2 % (2 : Int32)) = (0 : Int32)
  · skip
    refine own_st (fun _ kS => XS.ifYes X2.here hx rfl (pc0 := 17) (pc' := 24) rfl (hb hby at_17) rfl ((if0 _ _).trans (teq hc17_3).1) (by decide) (by decide) kS) ?_
    show own_G p.tables e below _ (T2.setTop (mkF m 24 #[.val (.int p1), .val (.int p2), .val (.int p3), .val (.ref b1), .unset, .unset, .unset] []))
    refine own_st (fun _ kS => XS.iconst X2.here hx rfl (hb hby at_24) kS) ?_
    show own_G p.tables e below _ (T2.setTop (mkF m 25 #[.val (.int p1), .val (.int p2), .val (.int p3), .val (.ref b1), .unset, .unset, .unset] [(.int (0 : Int32))]))
    refine own_st (fun _ kS => XS.istore X2.here hx rfl (hb hby at_25) rfl (l' := #[.val (.int p1), .val (.int p2), .val (.int p3), .val (.ref b1), .val (.int (0 : Int32)), .unset, .unset]) rfl kS) ?_
    show own_G p.tables e below _ (T2.setTop (mkF m 27 #[.val (.int p1), .val (.int p2), .val (.int p3), .val (.ref b1), .val (.int (0 : Int32)), .unset, .unset] []))
    refine own_st (fun _ kS => XS.aloadN X2.here hx rfl (hb hby at_27) rfl rfl kS) ?_
    show own_G p.tables e below _ (T2.setTop (mkF m 28 #[.val (.int p1), .val (.int p2), .val (.int p3), .val (.ref b1), .val (.int (0 : Int32)), .unset, .unset] [(.ref b1)]))
    obtain ⟨cq4, kq4, q4a, q4b, q4c⟩ := isOf hZ rfl P2_0
    obtain ⟨_, _, ⟨T4, L4, k4, n4⟩, -, X4, ⟨Lc4, hQ4, l4, y4, z4⟩, st4⟩ := X2.virtualBack hx (y := (⟨"com/example/memo3/memo3/protocol/Command", "isResponse", "()Z"⟩ : MethodName)) (z := (⟨"com/example/memo3/memo3/protocol/Command", "isResponse", "()Z"⟩ : MethodName)) hown (mvT hZ (hw _ (List.mem_of_getElem? (i := 34) rfl))) (mvT hZ (hw _ (List.mem_of_getElem? (i := 35) rfl))) (notFace_of_selects (args := #[]) (mvT hZ (hw _ (List.mem_of_getElem? (i := 37) rfl)))) (mvT hZ (hw _ (List.mem_of_getElem? (i := 37) rfl))) (mvT hZ (hw _ (List.mem_of_getElem? (i := 36) rfl))) (by decide) (backOf (W := 0) (rm_isRes0 l Z a0 hw [] b1 p2 T2.heap n0 (Nat.le_trans (Nat.le_trans Z0 E1.1) Kc2.1)  P2_2 ((own_par p2).1 hc17_3)) hZ (hw _ (List.mem_of_getElem? (i := 38) rfl)) (hw _ (List.mem_of_getElem? (i := 2) rfl)) (by decide) (by decide)) q4a q4c (g := (mkF m 28 #[.val (.int p1), .val (.int p2), .val (.int p3), .val (.ref b1), .val (.int (0 : Int32)), .unset, .unset] [(.ref b1)])) rfl (by rw [hml]; rfl) (Steps.refl _) (argsL := []) (rest := []) (lenOf own_pd6 rfl) rfl (by show 2 * 0 + _ ≤ _; exact Nat.le_of_eq rfl) (hb hby at_28) (fun _ _ => ⟨rfl, rfl, (by decide : 1 + 0 ≤ _), (by decide : 6 + 0 ≤ _)⟩)
    dsimp only [Pt.U, Pt.locs, Pt.cells, Pt.slots] at X4 l4 y4 z4 st4 hQ4
    subst l4 y4 z4
    obtain ⟨rfl, Nq4, eq4⟩ := hQ4
    have N4 := Fr.app N2 Nq4
    refine own_tr st4 ?_
    show own_G p.tables e below _ (T4.setTop (mkF m 31 #[.val (.int p1), .val (.int p2), .val (.int p3), .val (.ref b1), .val (.int (0 : Int32)), .unset, .unset] [(.int (0 : Int32))]))
    refine own_st (fun _ kS => XS.iload X4.here hx rfl (hb hby at_31) rfl kS) ?_
    show own_G p.tables e below _ (T4.setTop (mkF m 33 #[.val (.int p1), .val (.int p2), .val (.int p3), .val (.ref b1), .val (.int (0 : Int32)), .unset, .unset] [(.int (0 : Int32)), (.int (0 : Int32))]))
    refine own_st (fun _ kS => XS.icmpYes X4.here hx rfl (pc0 := 33) (pc' := 38) rfl (hb hby at_33) rfl (teq (by decide : (0 : Int32) = (0 : Int32))).1 (by decide) (by decide) kS) ?_
    show own_G p.tables e below _ (T4.setTop (mkF m 38 #[.val (.int p1), .val (.int p2), .val (.int p3), .val (.ref b1), .val (.int (0 : Int32)), .unset, .unset] []))
    refine own_st (fun _ kS => XS.iloadN X4.here hx rfl (hb hby at_38) rfl kS) ?_
    show own_G p.tables e below _ (T4.setTop (mkF m 39 #[.val (.int p1), .val (.int p2), .val (.int p3), .val (.ref b1), .val (.int (0 : Int32)), .unset, .unset] [(.int p1)]))
    refine own_st (fun _ kS => XS.aconstNull X4.here hx rfl (hb hby at_39) kS) ?_
    show own_G p.tables e below _ (T4.setTop (mkF m 40 #[.val (.int p1), .val (.int p2), .val (.int p3), .val (.ref b1), .val (.int (0 : Int32)), .unset, .unset] [.null, (.int p1)]))
    obtain ⟨_, _, ⟨T5, L5, k5, n5⟩, -, X5, ⟨Lc5, hQ5, l5, y5, z5⟩, st5⟩ := Jvm.LawKit.callS X4 hx (y := (⟨"com/example/memo3/memo3/protocol/Command", "request", "(ILjava/util/Map;)Lcom/example/memo3/memo3/protocol/Command;"⟩ : MethodName)) hown (mvT hZ (hw _ (List.mem_of_getElem? (i := 39) rfl))) (mvT hZ (hw _ (List.mem_of_getElem? (i := 40) rfl))) (mvT hZ (hw _ (List.mem_of_getElem? (i := 2) rfl))) (mvT hZ (hw _ (List.mem_of_getElem? (i := 41) rfl))) (by decide) (backOf (W := 0) (rm_request2 l Z a0 hw [] p1 wE wB T2.heap n0 (Nat.le_trans (Nat.le_trans Z0 E1.1) Kc2.1) O2 S_E S_B) hZ (hw _ (List.mem_of_getElem? (i := 41) rfl)) (hw _ (List.mem_of_getElem? (i := 2) rfl)) (by decide) (by decide)) (g := (mkF m 40 #[.val (.int p1), .val (.int p2), .val (.int p3), .val (.ref b1), .val (.int (0 : Int32)), .unset, .unset] [.null, (.int p1)])) rfl (by rw [hml]; rfl) (argsL := [(.int p1), .null]) (rest := []) (lenOf own_pd7 rfl) rfl (by show 2 * 0 + _ ≤ _; exact Nat.le_of_eq rfl) (hb hby at_40) (fun _ _ => ⟨rfl, eq4, (by decide : 1 + 1 ≤ _), (by decide : 6 + 6 ≤ _)⟩)
    dsimp only [Pt.U, Pt.locs, Pt.cells, Pt.slots] at X5 l5 y5 z5 st5 hQ5
    subst l5 y5 z5
    obtain ⟨b_5, rfl, Nq5, Kc5, P5_0, P5_1, P5_2, P5_3, P5_4, P5_5, P5_6, P5_7⟩ := hQ5
    have N5 := Fr.app N4 Nq5
    have ne_b1_b_5 : b1 ≠ b_5 := Nat.ne_of_lt (Nat.lt_of_lt_of_le P2_0.lt P5_0)
    have ge_b_5 : n0 ≤ b_5 := Nat.le_trans (Nat.le_trans (Nat.le_trans Z0 E1.1) Kc2.1) P5_0
    have O5 := O2.keep Kc5 all0
    refine own_st st5 ?_
    show own_G p.tables e below _ (T5.setTop (mkF m 43 #[.val (.int p1), .val (.int p2), .val (.int p3), .val (.ref b1), .val (.int (0 : Int32)), .unset, .unset] [(.ref b_5)]))
    refine own_st (fun _ kS => XS.astore X5.here hx rfl (hb hby at_43) rfl rfl (l' := #[.val (.int p1), .val (.int p2), .val (.int p3), .val (.ref b1), .val (.int (0 : Int32)), .val (.ref b_5), .unset]) rfl kS) ?_
    show own_G p.tables e below _ (T5.setTop (mkF m 45 #[.val (.int p1), .val (.int p2), .val (.int p3), .val (.ref b1), .val (.int (0 : Int32)), .val (.ref b_5), .unset] []))
    refine own_st (fun _ kS => XS.aload X5.here hx rfl (hb hby at_45) rfl rfl kS) ?_
    show own_G p.tables e below _ (T5.setTop (mkF m 47 #[.val (.int p1), .val (.int p2), .val (.int p3), .val (.ref b1), .val (.int (0 : Int32)), .val (.ref b_5), .unset] [(.ref b_5)]))
    obtain ⟨cq6, kq6, q6a, q6b, q6c⟩ := isOf hZ rfl P5_1
    obtain ⟨_, _, ⟨T6, L6, k6, n6⟩, -, X6, ⟨Lc6, hQ6, l6, y6, z6⟩, st6⟩ := X5.virtualBack hx (y := (⟨"com/example/memo3/memo3/protocol/Command", "isResponse", "()Z"⟩ : MethodName)) (z := (⟨"com/example/memo3/memo3/protocol/Command", "isResponse", "()Z"⟩ : MethodName)) hown (mvT hZ (hw _ (List.mem_of_getElem? (i := 34) rfl))) (mvT hZ (hw _ (List.mem_of_getElem? (i := 35) rfl))) (notFace_of_selects (args := #[]) (mvT hZ (hw _ (List.mem_of_getElem? (i := 37) rfl)))) (mvT hZ (hw _ (List.mem_of_getElem? (i := 37) rfl))) (mvT hZ (hw _ (List.mem_of_getElem? (i := 36) rfl))) (by decide) (backOf (W := 0) (rm_isRes0 l Z a0 hw [] b_5 (0 : Int32) T5.heap n0 (Nat.le_trans (Nat.le_trans (Nat.le_trans Z0 E1.1) Kc2.1) Kc5.1)  P5_3 (by decide : ((0 : Int32) &&& (1 : Int32)) = (0 : Int32))) hZ (hw _ (List.mem_of_getElem? (i := 38) rfl)) (hw _ (List.mem_of_getElem? (i := 2) rfl)) (by decide) (by decide)) q6a q6c (g := (mkF m 47 #[.val (.int p1), .val (.int p2), .val (.int p3), .val (.ref b1), .val (.int (0 : Int32)), .val (.ref b_5), .unset] [(.ref b_5)])) rfl (by rw [hml]; rfl) (Steps.refl _) (argsL := []) (rest := []) (lenOf own_pd6 rfl) rfl (by show 2 * 0 + _ ≤ _; exact Nat.le_of_eq rfl) (hb hby at_47) (fun _ _ => ⟨rfl, rfl, (by decide : 2 + 0 ≤ _), (by decide : 12 + 0 ≤ _)⟩)
    dsimp only [Pt.U, Pt.locs, Pt.cells, Pt.slots] at X6 l6 y6 z6 st6 hQ6
    subst l6 y6 z6
    obtain ⟨rfl, Nq6, eq6⟩ := hQ6
    have N6 := Fr.app N5 Nq6
    refine own_tr st6 ?_
    show own_G p.tables e below _ (T6.setTop (mkF m 50 #[.val (.int p1), .val (.int p2), .val (.int p3), .val (.ref b1), .val (.int (0 : Int32)), .val (.ref b_5), .unset] [(.int (0 : Int32))]))
    refine own_st (fun _ kS => XS.ifYes X6.here hx rfl (pc0 := 50) (pc' := 55) rfl (hb hby at_50) rfl ((if0 _ _).trans (teq (by decide : (0 : Int32) = (0 : Int32))).1) (by decide) (by decide) kS) ?_
    show own_G p.tables e below _ (T6.setTop (mkF m 55 #[.val (.int p1), .val (.int p2), .val (.int p3), .val (.ref b1), .val (.int (0 : Int32)), .val (.ref b_5), .unset] []))
    refine own_st (fun _ kS => XS.iloadN X6.here hx rfl (hb hby at_55) rfl kS) ?_
    show own_G p.tables e below _ (T6.setTop (mkF m 56 #[.val (.int p1), .val (.int p2), .val (.int p3), .val (.ref b1), .val (.int (0 : Int32)), .val (.ref b_5), .unset] [(.int p1)]))
    refine own_st (fun _ kS => XS.aconstNull X6.here hx rfl (hb hby at_56) kS) ?_
    show own_G p.tables e below _ (T6.setTop (mkF m 57 #[.val (.int p1), .val (.int p2), .val (.int p3), .val (.ref b1), .val (.int (0 : Int32)), .val (.ref b_5), .unset] [.null, (.int p1)]))
    obtain ⟨_, _, ⟨T7, L7, k7, n7⟩, -, X7, ⟨Lc7, hQ7, l7, y7, z7⟩, st7⟩ := Jvm.LawKit.callS X6 hx (y := (⟨"com/example/memo3/memo3/protocol/Command", "response", "(ILjava/lang/String;)Lcom/example/memo3/memo3/protocol/Command;"⟩ : MethodName)) hown (mvT hZ (hw _ (List.mem_of_getElem? (i := 47) rfl))) (mvT hZ (hw _ (List.mem_of_getElem? (i := 48) rfl))) (mvT hZ (hw _ (List.mem_of_getElem? (i := 2) rfl))) (mvT hZ (hw _ (List.mem_of_getElem? (i := 49) rfl))) (by decide) (backOf (W := 0) (rm_response l Z a0 hw [] p1 wE wB T5.heap n0 (Nat.le_trans (Nat.le_trans (Nat.le_trans Z0 E1.1) Kc2.1) Kc5.1) O5 S_E S_B) hZ (hw _ (List.mem_of_getElem? (i := 49) rfl)) (hw _ (List.mem_of_getElem? (i := 2) rfl)) (by decide) (by decide)) (g := (mkF m 57 #[.val (.int p1), .val (.int p2), .val (.int p3), .val (.ref b1), .val (.int (0 : Int32)), .val (.ref b_5), .unset] [.null, (.int p1)])) rfl (by rw [hml]; rfl) (argsL := [(.int p1), .null]) (rest := []) (lenOf own_pd8 rfl) rfl (by show 2 * 0 + _ ≤ _; exact Nat.le_of_eq rfl) (hb hby at_57) (fun _ _ => ⟨rfl, eq6, (by decide : 2 + 1 ≤ _), (by decide : 12 + 6 ≤ _)⟩)
    dsimp only [Pt.U, Pt.locs, Pt.cells, Pt.slots] at X7 l7 y7 z7 st7 hQ7
    subst l7 y7 z7
    obtain ⟨b_7, rfl, Nq7, Kc7, P7_0, P7_1, P7_2, P7_3, P7_4, P7_5, P7_6, P7_7⟩ := hQ7
    have N7 := Fr.app N6 Nq7
    have ne_b1_b_7 : b1 ≠ b_7 := Nat.ne_of_lt (Nat.lt_of_lt_of_le (P2_0.keep Kc5).lt P7_0)
    have ne_b_5_b_7 : b_5 ≠ b_7 := Nat.ne_of_lt (Nat.lt_of_lt_of_le P5_1.lt P7_0)
    have ge_b_7 : n0 ≤ b_7 := Nat.le_trans (Nat.le_trans (Nat.le_trans (Nat.le_trans Z0 E1.1) Kc2.1) Kc5.1) P7_0
    have O7 := O5.keep Kc7 all0
    refine own_st st7 ?_
    show own_G p.tables e below _ (T7.setTop (mkF m 60 #[.val (.int p1), .val (.int p2), .val (.int p3), .val (.ref b1), .val (.int (0 : Int32)), .val (.ref b_5), .unset] [(.ref b_7)]))
    refine own_st (fun _ kS => XS.astore X7.here hx rfl (hb hby at_60) rfl rfl (l' := #[.val (.int p1), .val (.int p2), .val (.int p3), .val (.ref b1), .val (.int (0 : Int32)), .val (.ref b_5), .val (.ref b_7)]) rfl kS) ?_
    show own_G p.tables e below _ (T7.setTop (mkF m 62 #[.val (.int p1), .val (.int p2), .val (.int p3), .val (.ref b1), .val (.int (0 : Int32)), .val (.ref b_5), .val (.ref b_7)] []))
    refine own_st (fun _ kS => XS.aload X7.here hx rfl (hb hby at_62) rfl rfl kS) ?_
    show own_G p.tables e below _ (T7.setTop (mkF m 64 #[.val (.int p1), .val (.int p2), .val (.int p3), .val (.ref b1), .val (.int (0 : Int32)), .val (.ref b_5), .val (.ref b_7)] [(.ref b_7)]))
    obtain ⟨cq8, kq8, q8a, q8b, q8c⟩ := isOf hZ rfl P7_1
    obtain ⟨_, _, ⟨T8, L8, k8, n8⟩, -, X8, ⟨Lc8, hQ8, l8, y8, z8⟩, st8⟩ := X7.virtualBack hx (y := (⟨"com/example/memo3/memo3/protocol/Command", "isResponse", "()Z"⟩ : MethodName)) (z := (⟨"com/example/memo3/memo3/protocol/Command", "isResponse", "()Z"⟩ : MethodName)) hown (mvT hZ (hw _ (List.mem_of_getElem? (i := 34) rfl))) (mvT hZ (hw _ (List.mem_of_getElem? (i := 35) rfl))) (notFace_of_selects (args := #[]) (mvT hZ (hw _ (List.mem_of_getElem? (i := 37) rfl)))) (mvT hZ (hw _ (List.mem_of_getElem? (i := 37) rfl))) (mvT hZ (hw _ (List.mem_of_getElem? (i := 36) rfl))) (by decide) (backOf (W := 0) (rm_isRes1 l Z a0 hw [] b_7 (1 : Int32) T7.heap n0 (Nat.le_trans (Nat.le_trans (Nat.le_trans (Nat.le_trans Z0 E1.1) Kc2.1) Kc5.1) Kc7.1)  P7_3 (by decide : ¬ (((1 : Int32) &&& (1 : Int32)) = (0 : Int32)))) hZ (hw _ (List.mem_of_getElem? (i := 38) rfl)) (hw _ (List.mem_of_getElem? (i := 2) rfl)) (by decide) (by decide)) q8a q8c (g := (mkF m 64 #[.val (.int p1), .val (.int p2), .val (.int p3), .val (.ref b1), .val (.int (0 : Int32)), .val (.ref b_5), .val (.ref b_7)] [(.ref b_7)])) rfl (by rw [hml]; rfl) (Steps.refl _) (argsL := []) (rest := []) (lenOf own_pd6 rfl) rfl (by show 2 * 0 + _ ≤ _; exact Nat.le_of_eq rfl) (hb hby at_64) (fun _ _ => ⟨rfl, rfl, (by decide : 3 + 0 ≤ _), (by decide : 18 + 0 ≤ _)⟩)
    dsimp only [Pt.U, Pt.locs, Pt.cells, Pt.slots] at X8 l8 y8 z8 st8 hQ8
    subst l8 y8 z8
    obtain ⟨rfl, Nq8, eq8⟩ := hQ8
    have N8 := Fr.app N7 Nq8
    refine own_tr st8 ?_
    show own_G p.tables e below _ (T8.setTop (mkF m 67 #[.val (.int p1), .val (.int p2), .val (.int p3), .val (.ref b1), .val (.int (0 : Int32)), .val (.ref b_5), .val (.ref b_7)] [(.int (1 : Int32))]))
    refine own_st (fun _ kS => XS.ifYes X8.here hx rfl (pc0 := 67) (pc' := 72) rfl (hb hby at_67) rfl ((if0 _ _).trans (feq (by decide : ¬ ((1 : Int32) = (0 : Int32)))).2) (by decide) (by decide) kS) ?_
    show own_G p.tables e below _ (T8.setTop (mkF m 72 #[.val (.int p1), .val (.int p2), .val (.int p3), .val (.ref b1), .val (.int (0 : Int32)), .val (.ref b_5), .val (.ref b_7)] []))
    refine own_st (fun _ kS => XS.aloadN X8.here hx rfl (hb hby at_72) rfl rfl kS) ?_
    show own_G p.tables e below _ (T8.setTop (mkF m 73 #[.val (.int p1), .val (.int p2), .val (.int p3), .val (.ref b1), .val (.int (0 : Int32)), .val (.ref b_5), .val (.ref b_7)] [(.ref b1)]))
    refine own_st (fun _ kS => XS.aload X8.here hx rfl (hb hby at_73) rfl rfl kS) ?_
    show own_G p.tables e below _ (T8.setTop (mkF m 75 #[.val (.int p1), .val (.int p2), .val (.int p3), .val (.ref b1), .val (.int (0 : Int32)), .val (.ref b_5), .val (.ref b_7)] [(.ref b_5), (.ref b1)]))
    obtain ⟨cq9, kq9, q9a, q9b, q9c⟩ := isOf hZ eq8 ((P2_0.keep Kc5).keep Kc7)
    obtain ⟨_, _, ⟨T9, L9, k9, n9⟩, -, X9, ⟨Lc9, hQ9, l9, y9, z9⟩, st9⟩ := X8.virtualBack hx (y := (⟨"com/example/memo3/memo3/protocol/Command", "answering", "(Lcom/example/memo3/memo3/protocol/Command;)Lcom/example/memo3/memo3/protocol/Command;"⟩ : MethodName)) (z := (⟨"com/example/memo3/memo3/protocol/Command", "answering", "(Lcom/example/memo3/memo3/protocol/Command;)Lcom/example/memo3/memo3/protocol/Command;"⟩ : MethodName)) hown (mvT hZ (hw _ (List.mem_of_getElem? (i := 50) rfl))) (mvT hZ (hw _ (List.mem_of_getElem? (i := 51) rfl))) (notFace_of_selects (args := #[]) (mvT hZ (hw _ (List.mem_of_getElem? (i := 53) rfl)))) (mvT hZ (hw _ (List.mem_of_getElem? (i := 53) rfl))) (mvT hZ (hw _ (List.mem_of_getElem? (i := 52) rfl))) (by decide) (backOf (W := 0) (rm_answering l Z a0 hw [] b1 b_5 p1 p2 (0 : Int32) wE wB T7.heap n0 (Nat.le_trans (Nat.le_trans (Nat.le_trans (Nat.le_trans Z0 E1.1) Kc2.1) Kc5.1) Kc7.1) O7 ((P2_0.keep Kc5).keep Kc7) (P5_1.keep Kc7) ((P2_1.keep Kc5 nin0).keep Kc7 nin0) ((P2_2.keep Kc5 nin0).keep Kc7 nin0) ((P2_4.keep Kc5 nin0).keep Kc7 nin0) ((P2_5.keep Kc5 nin0).keep Kc7 nin0) ((P2_6.keep Kc5 nin0).keep Kc7 nin0) (P5_4.keep Kc7 nin0) E_E) hZ (hw _ (List.mem_of_getElem? (i := 54) rfl)) (hw _ (List.mem_of_getElem? (i := 2) rfl)) (by decide) (by decide)) q9a q9c (g := (mkF m 75 #[.val (.int p1), .val (.int p2), .val (.int p3), .val (.ref b1), .val (.int (0 : Int32)), .val (.ref b_5), .val (.ref b_7)] [(.ref b_5), (.ref b1)])) rfl (by rw [hml]; rfl) (Steps.refl _) (argsL := [(.ref b_5)]) (rest := []) (lenOf own_pd9 rfl) rfl (by show 2 * 0 + _ ≤ _; exact Nat.le_of_eq rfl) (hb hby at_75) (fun _ _ => ⟨rfl, eq8, (by decide : 3 + 1 ≤ _), (by decide : 18 + 6 ≤ _)⟩)
    dsimp only [Pt.U, Pt.locs, Pt.cells, Pt.slots] at X9 l9 y9 z9 st9 hQ9
    subst l9 y9 z9
    obtain ⟨b_9, rfl, Nq9, Kc9, P9_0, P9_1, P9_2, P9_3, P9_4, P9_5, P9_6, P9_7⟩ := hQ9
    have N9 := Fr.app N8 Nq9
    have ne_b1_b_9 : b1 ≠ b_9 := Nat.ne_of_lt (Nat.lt_of_lt_of_le ((P2_0.keep Kc5).keep Kc7).lt P9_0)
    have ne_b_5_b_9 : b_5 ≠ b_9 := Nat.ne_of_lt (Nat.lt_of_lt_of_le (P5_1.keep Kc7).lt P9_0)
    have ne_b_7_b_9 : b_7 ≠ b_9 := Nat.ne_of_lt (Nat.lt_of_lt_of_le P7_1.lt P9_0)
    have ge_b_9 : n0 ≤ b_9 := Nat.le_trans (Nat.le_trans (Nat.le_trans (Nat.le_trans (Nat.le_trans Z0 E1.1) Kc2.1) Kc5.1) Kc7.1) P9_0
    have O9 := O7.keep Kc9 all0
    refine own_tr st9 ?_
    show own_G p.tables e below _ (T9.setTop (mkF m 78 #[.val (.int p1), .val (.int p2), .val (.int p3), .val (.ref b1), .val (.int (0 : Int32)), .val (.ref b_5), .val (.ref b_7)] [(.ref b_9)]))
    obtain ⟨cq10, kq10, q10a, q10b, q10c⟩ := isOf hZ rfl P9_1
    obtain ⟨_, _, ⟨T10, L10, k10, n10⟩, -, X10, ⟨Lc10, hQ10, l10, y10, z10⟩, st10⟩ := X9.virtualBack hx (y := (⟨"com/example/memo3/memo3/protocol/Command", "isResponse", "()Z"⟩ : MethodName)) (z := (⟨"com/example/memo3/memo3/protocol/Command", "isResponse", "()Z"⟩ : MethodName)) hown (mvT hZ (hw _ (List.mem_of_getElem? (i := 34) rfl))) (mvT hZ (hw _ (List.mem_of_getElem? (i := 35) rfl))) (notFace_of_selects (args := #[]) (mvT hZ (hw _ (List.mem_of_getElem? (i := 37) rfl)))) (mvT hZ (hw _ (List.mem_of_getElem? (i := 37) rfl))) (mvT hZ (hw _ (List.mem_of_getElem? (i := 36) rfl))) (by decide) (backOf (W := 0) (rm_isRes1 l Z a0 hw [] b_9 (p2 ||| (1 : Int32)) T9.heap n0 (Nat.le_trans (Nat.le_trans (Nat.le_trans (Nat.le_trans (Nat.le_trans Z0 E1.1) Kc2.1) Kc5.1) Kc7.1) Kc9.1)  P9_3 (own_or1 p2)) hZ (hw _ (List.mem_of_getElem? (i := 38) rfl)) (hw _ (List.mem_of_getElem? (i := 2) rfl)) (by decide) (by decide)) q10a q10c (g := (mkF m 78 #[.val (.int p1), .val (.int p2), .val (.int p3), .val (.ref b1), .val (.int (0 : Int32)), .val (.ref b_5), .val (.ref b_7)] [(.ref b_9)])) rfl (by rw [hml]; rfl) (Steps.refl _) (argsL := []) (rest := []) (lenOf own_pd6 rfl) rfl (by show 2 * 0 + _ ≤ _; exact Nat.le_of_eq rfl) (hb hby at_78) (fun _ _ => ⟨rfl, rfl, (by decide : 4 + 0 ≤ _), (by decide : 24 + 0 ≤ _)⟩)
    dsimp only [Pt.U, Pt.locs, Pt.cells, Pt.slots] at X10 l10 y10 z10 st10 hQ10
    subst l10 y10 z10
    obtain ⟨rfl, Nq10, eq10⟩ := hQ10
    have N10 := Fr.app N9 Nq10
    refine own_tr st10 ?_
    show own_G p.tables e below _ (T10.setTop (mkF m 81 #[.val (.int p1), .val (.int p2), .val (.int p3), .val (.ref b1), .val (.int (0 : Int32)), .val (.ref b_5), .val (.ref b_7)] [(.int (1 : Int32))]))
    exact own_retN X10 hx hlk (t := .boolean) hret (by simp) (hb hby at_81) (by decide) (by decide) (v' := (1 : Int32)) rfl (by rw [eq10]; exact ⟨rfl, N10⟩)
  · skip
    refine own_st (fun _ kS => XS.ifNo X2.here hx rfl (hb hby at_17) rfl ((if0 _ _).trans (feq hc17_3).1) kS) ?_
    show own_G p.tables e below _ (T2.setTop (mkF m 20 #[.val (.int p1), .val (.int p2), .val (.int p3), .val (.ref b1), .unset, .unset, .unset] []))
    refine own_st (fun _ kS => XS.iconst X2.here hx rfl (hb hby at_20) kS) ?_
    show own_G p.tables e below _ (T2.setTop (mkF m 21 #[.val (.int p1), .val (.int p2), .val (.int p3), .val (.ref b1), .unset, .unset, .unset] [(.int (1 : Int32))]))
    refine own_st (fun _ kS => XS.goto X2.here hx rfl (pc0 := 21) (pc' := 25) rfl (hb hby at_21) (by decide) (by decide) kS) ?_
    show own_G p.tables e below _ (T2.setTop (mkF m 25 #[.val (.int p1), .val (.int p2), .val (.int p3), .val (.ref b1), .unset, .unset, .unset] [(.int (1 : Int32))]))
    refine own_st (fun _ kS => XS.istore X2.here hx rfl (hb hby at_25) rfl (l' := #[.val (.int p1), .val (.int p2), .val (.int p3), .val (.ref b1), .val (.int (1 : Int32)), .unset, .unset]) rfl kS) ?_
    show own_G p.tables e below _ (T2.setTop (mkF m 27 #[.val (.int p1), .val (.int p2), .val (.int p3), .val (.ref b1), .val (.int (1 : Int32)), .unset, .unset] []))
    refine own_st (fun _ kS => XS.aloadN X2.here hx rfl (hb hby at_27) rfl rfl kS) ?_
    show own_G p.tables e below _ (T2.setTop (mkF m 28 #[.val (.int p1), .val (.int p2), .val (.int p3), .val (.ref b1), .val (.int (1 : Int32)), .unset, .unset] [(.ref b1)]))
    obtain ⟨cq11, kq11, q11a, q11b, q11c⟩ := isOf hZ rfl P2_0
    obtain ⟨_, _, ⟨T11, L11, k11, n11⟩, -, X11, ⟨Lc11, hQ11, l11, y11, z11⟩, st11⟩ := X2.virtualBack hx (y := (⟨"com/example/memo3/memo3/protocol/Command", "isResponse", "()Z"⟩ : MethodName)) (z := (⟨"com/example/memo3/memo3/protocol/Command", "isResponse", "()Z"⟩ : MethodName)) hown (mvT hZ (hw _ (List.mem_of_getElem? (i := 34) rfl))) (mvT hZ (hw _ (List.mem_of_getElem? (i := 35) rfl))) (notFace_of_selects (args := #[]) (mvT hZ (hw _ (List.mem_of_getElem? (i := 37) rfl)))) (mvT hZ (hw _ (List.mem_of_getElem? (i := 37) rfl))) (mvT hZ (hw _ (List.mem_of_getElem? (i := 36) rfl))) (by decide) (backOf (W := 0) (rm_isRes1 l Z a0 hw [] b1 p2 T2.heap n0 (Nat.le_trans (Nat.le_trans Z0 E1.1) Kc2.1)  P2_2 ((own_par p2).2 hc17_3)) hZ (hw _ (List.mem_of_getElem? (i := 38) rfl)) (hw _ (List.mem_of_getElem? (i := 2) rfl)) (by decide) (by decide)) q11a q11c (g := (mkF m 28 #[.val (.int p1), .val (.int p2), .val (.int p3), .val (.ref b1), .val (.int (1 : Int32)), .unset, .unset] [(.ref b1)])) rfl (by rw [hml]; rfl) (Steps.refl _) (argsL := []) (rest := []) (lenOf own_pd6 rfl) rfl (by show 2 * 0 + _ ≤ _; exact Nat.le_of_eq rfl) (hb hby at_28) (fun _ _ => ⟨rfl, rfl, (by decide : 1 + 0 ≤ _), (by decide : 6 + 0 ≤ _)⟩)
    dsimp only [Pt.U, Pt.locs, Pt.cells, Pt.slots] at X11 l11 y11 z11 st11 hQ11
    subst l11 y11 z11
    obtain ⟨rfl, Nq11, eq11⟩ := hQ11
    have N11 := Fr.app N2 Nq11
    refine own_tr st11 ?_
    show own_G p.tables e below _ (T11.setTop (mkF m 31 #[.val (.int p1), .val (.int p2), .val (.int p3), .val (.ref b1), .val (.int (1 : Int32)), .unset, .unset] [(.int (1 : Int32))]))
    refine own_st (fun _ kS => XS.iload X11.here hx rfl (hb hby at_31) rfl kS) ?_
    show own_G p.tables e below _ (T11.setTop (mkF m 33 #[.val (.int p1), .val (.int p2), .val (.int p3), .val (.ref b1), .val (.int (1 : Int32)), .unset, .unset] [(.int (1 : Int32)), (.int (1 : Int32))]))
    refine own_st (fun _ kS => XS.icmpYes X11.here hx rfl (pc0 := 33) (pc' := 38) rfl (hb hby at_33) rfl (teq (by decide : (1 : Int32) = (1 : Int32))).1 (by decide) (by decide) kS) ?_
    show own_G p.tables e below _ (T11.setTop (mkF m 38 #[.val (.int p1), .val (.int p2), .val (.int p3), .val (.ref b1), .val (.int (1 : Int32)), .unset, .unset] []))
    refine own_st (fun _ kS => XS.iloadN X11.here hx rfl (hb hby at_38) rfl kS) ?_
    show own_G p.tables e below _ (T11.setTop (mkF m 39 #[.val (.int p1), .val (.int p2), .val (.int p3), .val (.ref b1), .val (.int (1 : Int32)), .unset, .unset] [(.int p1)]))
    refine own_st (fun _ kS => XS.aconstNull X11.here hx rfl (hb hby at_39) kS) ?_
    show own_G p.tables e below _ (T11.setTop (mkF m 40 #[.val (.int p1), .val (.int p2), .val (.int p3), .val (.ref b1), .val (.int (1 : Int32)), .unset, .unset] [.null, (.int p1)]))
    obtain ⟨_, _, ⟨T12, L12, k12, n12⟩, -, X12, ⟨Lc12, hQ12, l12, y12, z12⟩, st12⟩ := Jvm.LawKit.callS X11 hx (y := (⟨"com/example/memo3/memo3/protocol/Command", "request", "(ILjava/util/Map;)Lcom/example/memo3/memo3/protocol/Command;"⟩ : MethodName)) hown (mvT hZ (hw _ (List.mem_of_getElem? (i := 39) rfl))) (mvT hZ (hw _ (List.mem_of_getElem? (i := 40) rfl))) (mvT hZ (hw _ (List.mem_of_getElem? (i := 2) rfl))) (mvT hZ (hw _ (List.mem_of_getElem? (i := 41) rfl))) (by decide) (backOf (W := 0) (rm_request2 l Z a0 hw [] p1 wE wB T2.heap n0 (Nat.le_trans (Nat.le_trans Z0 E1.1) Kc2.1) O2 S_E S_B) hZ (hw _ (List.mem_of_getElem? (i := 41) rfl)) (hw _ (List.mem_of_getElem? (i := 2) rfl)) (by decide) (by decide)) (g := (mkF m 40 #[.val (.int p1), .val (.int p2), .val (.int p3), .val (.ref b1), .val (.int (1 : Int32)), .unset, .unset] [.null, (.int p1)])) rfl (by rw [hml]; rfl) (argsL := [(.int p1), .null]) (rest := []) (lenOf own_pd7 rfl) rfl (by show 2 * 0 + _ ≤ _; exact Nat.le_of_eq rfl) (hb hby at_40) (fun _ _ => ⟨rfl, eq11, (by decide : 1 + 1 ≤ _), (by decide : 6 + 6 ≤ _)⟩)
    dsimp only [Pt.U, Pt.locs, Pt.cells, Pt.slots] at X12 l12 y12 z12 st12 hQ12
    subst l12 y12 z12
    obtain ⟨b_12, rfl, Nq12, Kc12, P12_0, P12_1, P12_2, P12_3, P12_4, P12_5, P12_6, P12_7⟩ := hQ12
    have N12 := Fr.app N11 Nq12
    have ne_b1_b_12 : b1 ≠ b_12 := Nat.ne_of_lt (Nat.lt_of_lt_of_le P2_0.lt P12_0)
    have ge_b_12 : n0 ≤ b_12 := Nat.le_trans (Nat.le_trans (Nat.le_trans Z0 E1.1) Kc2.1) P12_0
    have O12 := O2.keep Kc12 all0
    refine own_st st12 ?_
    show own_G p.tables e below _ (T12.setTop (mkF m 43 #[.val (.int p1), .val (.int p2), .val (.int p3), .val (.ref b1), .val (.int (1 : Int32)), .unset, .unset] [(.ref b_12)]))
    refine own_st (fun _ kS => XS.astore X12.here hx rfl (hb hby at_43) rfl rfl (l' := #[.val (.int p1), .val (.int p2), .val (.int p3), .val (.ref b1), .val (.int (1 : Int32)), .val (.ref b_12), .unset]) rfl kS) ?_
    show own_G p.tables e below _ (T12.setTop (mkF m 45 #[.val (.int p1), .val (.int p2), .val (.int p3), .val (.ref b1), .val (.int (1 : Int32)), .val (.ref b_12), .unset] []))
    refine own_st (fun _ kS => XS.aload X12.here hx rfl (hb hby at_45) rfl rfl kS) ?_
    show own_G p.tables e below _ (T12.setTop (mkF m 47 #[.val (.int p1), .val (.int p2), .val (.int p3), .val (.ref b1), .val (.int (1 : Int32)), .val (.ref b_12), .unset] [(.ref b_12)]))
    obtain ⟨cq13, kq13, q13a, q13b, q13c⟩ := isOf hZ rfl P12_1
    obtain ⟨_, _, ⟨T13, L13, k13, n13⟩, -, X13, ⟨Lc13, hQ13, l13, y13, z13⟩, st13⟩ := X12.virtualBack hx (y := (⟨"com/example/memo3/memo3/protocol/Command", "isResponse", "()Z"⟩ : MethodName)) (z := (⟨"com/example/memo3/memo3/protocol/Command", "isResponse", "()Z"⟩ : MethodName)) hown (mvT hZ (hw _ (List.mem_of_getElem? (i := 34) rfl))) (mvT hZ (hw _ (List.mem_of_getElem? (i := 35) rfl))) (notFace_of_selects (args := #[]) (mvT hZ (hw _ (List.mem_of_getElem? (i := 37) rfl)))) (mvT hZ (hw _ (List.mem_of_getElem? (i := 37) rfl))) (mvT hZ (hw _ (List.mem_of_getElem? (i := 36) rfl))) (by decide) (backOf (W := 0) (rm_isRes0 l Z a0 hw [] b_12 (0 : Int32) T12.heap n0 (Nat.le_trans (Nat.le_trans (Nat.le_trans Z0 E1.1) Kc2.1) Kc12.1)  P12_3 (by decide : ((0 : Int32) &&& (1 : Int32)) = (0 : Int32))) hZ (hw _ (List.mem_of_getElem? (i := 38) rfl)) (hw _ (List.mem_of_getElem? (i := 2) rfl)) (by decide) (by decide)) q13a q13c (g := (mkF m 47 #[.val (.int p1), .val (.int p2), .val (.int p3), .val (.ref b1), .val (.int (1 : Int32)), .val (.ref b_12), .unset] [(.ref b_12)])) rfl (by rw [hml]; rfl) (Steps.refl _) (argsL := []) (rest := []) (lenOf own_pd6 rfl) rfl (by show 2 * 0 + _ ≤ _; exact Nat.le_of_eq rfl) (hb hby at_47) (fun _ _ => ⟨rfl, rfl, (by decide : 2 + 0 ≤ _), (by decide : 12 + 0 ≤ _)⟩)
    dsimp only [Pt.U, Pt.locs, Pt.cells, Pt.slots] at X13 l13 y13 z13 st13 hQ13
    subst l13 y13 z13
    obtain ⟨rfl, Nq13, eq13⟩ := hQ13
    have N13 := Fr.app N12 Nq13
    refine own_tr st13 ?_
    show own_G p.tables e below _ (T13.setTop (mkF m 50 #[.val (.int p1), .val (.int p2), .val (.int p3), .val (.ref b1), .val (.int (1 : Int32)), .val (.ref b_12), .unset] [(.int (0 : Int32))]))
    refine own_st (fun _ kS => XS.ifYes X13.here hx rfl (pc0 := 50) (pc' := 55) rfl (hb hby at_50) rfl ((if0 _ _).trans (teq (by decide : (0 : Int32) = (0 : Int32))).1) (by decide) (by decide) kS) ?_
    show own_G p.tables e below _ (T13.setTop (mkF m 55 #[.val (.int p1), .val (.int p2), .val (.int p3), .val (.ref b1), .val (.int (1 : Int32)), .val (.ref b_12), .unset] []))
    refine own_st (fun _ kS => XS.iloadN X13.here hx rfl (hb hby at_55) rfl kS) ?_
    show own_G p.tables e below _ (T13.setTop (mkF m 56 #[.val (.int p1), .val (.int p2), .val (.int p3), .val (.ref b1), .val (.int (1 : Int32)), .val (.ref b_12), .unset] [(.int p1)]))
    refine own_st (fun _ kS => XS.aconstNull X13.here hx rfl (hb hby at_56) kS) ?_
    show own_G p.tables e below _ (T13.setTop (mkF m 57 #[.val (.int p1), .val (.int p2), .val (.int p3), .val (.ref b1), .val (.int (1 : Int32)), .val (.ref b_12), .unset] [.null, (.int p1)]))
    obtain ⟨_, _, ⟨T14, L14, k14, n14⟩, -, X14, ⟨Lc14, hQ14, l14, y14, z14⟩, st14⟩ := Jvm.LawKit.callS X13 hx (y := (⟨"com/example/memo3/memo3/protocol/Command", "response", "(ILjava/lang/String;)Lcom/example/memo3/memo3/protocol/Command;"⟩ : MethodName)) hown (mvT hZ (hw _ (List.mem_of_getElem? (i := 47) rfl))) (mvT hZ (hw _ (List.mem_of_getElem? (i := 48) rfl))) (mvT hZ (hw _ (List.mem_of_getElem? (i := 2) rfl))) (mvT hZ (hw _ (List.mem_of_getElem? (i := 49) rfl))) (by decide) (backOf (W := 0) (rm_response l Z a0 hw [] p1 wE wB T12.heap n0 (Nat.le_trans (Nat.le_trans (Nat.le_trans Z0 E1.1) Kc2.1) Kc12.1) O12 S_E S_B) hZ (hw _ (List.mem_of_getElem? (i := 49) rfl)) (hw _ (List.mem_of_getElem? (i := 2) rfl)) (by decide) (by decide)) (g := (mkF m 57 #[.val (.int p1), .val (.int p2), .val (.int p3), .val (.ref b1), .val (.int (1 : Int32)), .val (.ref b_12), .unset] [.null, (.int p1)])) rfl (by rw [hml]; rfl) (argsL := [(.int p1), .null]) (rest := []) (lenOf own_pd8 rfl) rfl (by show 2 * 0 + _ ≤ _; exact Nat.le_of_eq rfl) (hb hby at_57) (fun _ _ => ⟨rfl, eq13, (by decide : 2 + 1 ≤ _), (by decide : 12 + 6 ≤ _)⟩)
    dsimp only [Pt.U, Pt.locs, Pt.cells, Pt.slots] at X14 l14 y14 z14 st14 hQ14
    subst l14 y14 z14
    obtain ⟨b_14, rfl, Nq14, Kc14, P14_0, P14_1, P14_2, P14_3, P14_4, P14_5, P14_6, P14_7⟩ := hQ14
    have N14 := Fr.app N13 Nq14
    have ne_b1_b_14 : b1 ≠ b_14 := Nat.ne_of_lt (Nat.lt_of_lt_of_le (P2_0.keep Kc12).lt P14_0)
    have ne_b_12_b_14 : b_12 ≠ b_14 := Nat.ne_of_lt (Nat.lt_of_lt_of_le P12_1.lt P14_0)
    have ge_b_14 : n0 ≤ b_14 := Nat.le_trans (Nat.le_trans (Nat.le_trans (Nat.le_trans Z0 E1.1) Kc2.1) Kc12.1) P14_0
    have O14 := O12.keep Kc14 all0
    refine own_st st14 ?_
    show own_G p.tables e below _ (T14.setTop (mkF m 60 #[.val (.int p1), .val (.int p2), .val (.int p3), .val (.ref b1), .val (.int (1 : Int32)), .val (.ref b_12), .unset] [(.ref b_14)]))
    refine own_st (fun _ kS => XS.astore X14.here hx rfl (hb hby at_60) rfl rfl (l' := #[.val (.int p1), .val (.int p2), .val (.int p3), .val (.ref b1), .val (.int (1 : Int32)), .val (.ref b_12), .val (.ref b_14)]) rfl kS) ?_
    show own_G p.tables e below _ (T14.setTop (mkF m 62 #[.val (.int p1), .val (.int p2), .val (.int p3), .val (.ref b1), .val (.int (1 : Int32)), .val (.ref b_12), .val (.ref b_14)] []))
    refine own_st (fun _ kS => XS.aload X14.here hx rfl (hb hby at_62) rfl rfl kS) ?_
    show own_G p.tables e below _ (T14.setTop (mkF m 64 #[.val (.int p1), .val (.int p2), .val (.int p3), .val (.ref b1), .val (.int (1 : Int32)), .val (.ref b_12), .val (.ref b_14)] [(.ref b_14)]))
    obtain ⟨cq15, kq15, q15a, q15b, q15c⟩ := isOf hZ rfl P14_1
    obtain ⟨_, _, ⟨T15, L15, k15, n15⟩, -, X15, ⟨Lc15, hQ15, l15, y15, z15⟩, st15⟩ := X14.virtualBack hx (y := (⟨"com/example/memo3/memo3/protocol/Command", "isResponse", "()Z"⟩ : MethodName)) (z := (⟨"com/example/memo3/memo3/protocol/Command", "isResponse", "()Z"⟩ : MethodName)) hown (mvT hZ (hw _ (List.mem_of_getElem? (i := 34) rfl))) (mvT hZ (hw _ (List.mem_of_getElem? (i := 35) rfl))) (notFace_of_selects (args := #[]) (mvT hZ (hw _ (List.mem_of_getElem? (i := 37) rfl)))) (mvT hZ (hw _ (List.mem_of_getElem? (i := 37) rfl))) (mvT hZ (hw _ (List.mem_of_getElem? (i := 36) rfl))) (by decide) (backOf (W := 0) (rm_isRes1 l Z a0 hw [] b_14 (1 : Int32) T14.heap n0 (Nat.le_trans (Nat.le_trans (Nat.le_trans (Nat.le_trans Z0 E1.1) Kc2.1) Kc12.1) Kc14.1)  P14_3 (by decide : ¬ (((1 : Int32) &&& (1 : Int32)) = (0 : Int32)))) hZ (hw _ (List.mem_of_getElem? (i := 38) rfl)) (hw _ (List.mem_of_getElem? (i := 2) rfl)) (by decide) (by decide)) q15a q15c (g := (mkF m 64 #[.val (.int p1), .val (.int p2), .val (.int p3), .val (.ref b1), .val (.int (1 : Int32)), .val (.ref b_12), .val (.ref b_14)] [(.ref b_14)])) rfl (by rw [hml]; rfl) (Steps.refl _) (argsL := []) (rest := []) (lenOf own_pd6 rfl) rfl (by show 2 * 0 + _ ≤ _; exact Nat.le_of_eq rfl) (hb hby at_64) (fun _ _ => ⟨rfl, rfl, (by decide : 3 + 0 ≤ _), (by decide : 18 + 0 ≤ _)⟩)
    dsimp only [Pt.U, Pt.locs, Pt.cells, Pt.slots] at X15 l15 y15 z15 st15 hQ15
    subst l15 y15 z15
    obtain ⟨rfl, Nq15, eq15⟩ := hQ15
    have N15 := Fr.app N14 Nq15
    refine own_tr st15 ?_
    show own_G p.tables e below _ (T15.setTop (mkF m 67 #[.val (.int p1), .val (.int p2), .val (.int p3), .val (.ref b1), .val (.int (1 : Int32)), .val (.ref b_12), .val (.ref b_14)] [(.int (1 : Int32))]))
    refine own_st (fun _ kS => XS.ifYes X15.here hx rfl (pc0 := 67) (pc' := 72) rfl (hb hby at_67) rfl ((if0 _ _).trans (feq (by decide : ¬ ((1 : Int32) = (0 : Int32)))).2) (by decide) (by decide) kS) ?_
    show own_G p.tables e below _ (T15.setTop (mkF m 72 #[.val (.int p1), .val (.int p2), .val (.int p3), .val (.ref b1), .val (.int (1 : Int32)), .val (.ref b_12), .val (.ref b_14)] []))
    refine own_st (fun _ kS => XS.aloadN X15.here hx rfl (hb hby at_72) rfl rfl kS) ?_
    show own_G p.tables e below _ (T15.setTop (mkF m 73 #[.val (.int p1), .val (.int p2), .val (.int p3), .val (.ref b1), .val (.int (1 : Int32)), .val (.ref b_12), .val (.ref b_14)] [(.ref b1)]))
    refine own_st (fun _ kS => XS.aload X15.here hx rfl (hb hby at_73) rfl rfl kS) ?_
    show own_G p.tables e below _ (T15.setTop (mkF m 75 #[.val (.int p1), .val (.int p2), .val (.int p3), .val (.ref b1), .val (.int (1 : Int32)), .val (.ref b_12), .val (.ref b_14)] [(.ref b_12), (.ref b1)]))
    obtain ⟨cq16, kq16, q16a, q16b, q16c⟩ := isOf hZ eq15 ((P2_0.keep Kc12).keep Kc14)
    obtain ⟨_, _, ⟨T16, L16, k16, n16⟩, -, X16, ⟨Lc16, hQ16, l16, y16, z16⟩, st16⟩ := X15.virtualBack hx (y := (⟨"com/example/memo3/memo3/protocol/Command", "answering", "(Lcom/example/memo3/memo3/protocol/Command;)Lcom/example/memo3/memo3/protocol/Command;"⟩ : MethodName)) (z := (⟨"com/example/memo3/memo3/protocol/Command", "answering", "(Lcom/example/memo3/memo3/protocol/Command;)Lcom/example/memo3/memo3/protocol/Command;"⟩ : MethodName)) hown (mvT hZ (hw _ (List.mem_of_getElem? (i := 50) rfl))) (mvT hZ (hw _ (List.mem_of_getElem? (i := 51) rfl))) (notFace_of_selects (args := #[]) (mvT hZ (hw _ (List.mem_of_getElem? (i := 53) rfl)))) (mvT hZ (hw _ (List.mem_of_getElem? (i := 53) rfl))) (mvT hZ (hw _ (List.mem_of_getElem? (i := 52) rfl))) (by decide) (backOf (W := 0) (rm_answering l Z a0 hw [] b1 b_12 p1 p2 (0 : Int32) wE wB T14.heap n0 (Nat.le_trans (Nat.le_trans (Nat.le_trans (Nat.le_trans Z0 E1.1) Kc2.1) Kc12.1) Kc14.1) O14 ((P2_0.keep Kc12).keep Kc14) (P12_1.keep Kc14) ((P2_1.keep Kc12 nin0).keep Kc14 nin0) ((P2_2.keep Kc12 nin0).keep Kc14 nin0) ((P2_4.keep Kc12 nin0).keep Kc14 nin0) ((P2_5.keep Kc12 nin0).keep Kc14 nin0) ((P2_6.keep Kc12 nin0).keep Kc14 nin0) (P12_4.keep Kc14 nin0) E_E) hZ (hw _ (List.mem_of_getElem? (i := 54) rfl)) (hw _ (List.mem_of_getElem? (i := 2) rfl)) (by decide) (by decide)) q16a q16c (g := (mkF m 75 #[.val (.int p1), .val (.int p2), .val (.int p3), .val (.ref b1), .val (.int (1 : Int32)), .val (.ref b_12), .val (.ref b_14)] [(.ref b_12), (.ref b1)])) rfl (by rw [hml]; rfl) (Steps.refl _) (argsL := [(.ref b_12)]) (rest := []) (lenOf own_pd9 rfl) rfl (by show 2 * 0 + _ ≤ _; exact Nat.le_of_eq rfl) (hb hby at_75) (fun _ _ => ⟨rfl, eq15, (by decide : 3 + 1 ≤ _), (by decide : 18 + 6 ≤ _)⟩)
    dsimp only [Pt.U, Pt.locs, Pt.cells, Pt.slots] at X16 l16 y16 z16 st16 hQ16
    subst l16 y16 z16
    obtain ⟨b_16, rfl, Nq16, Kc16, P16_0, P16_1, P16_2, P16_3, P16_4, P16_5, P16_6, P16_7⟩ := hQ16
    have N16 := Fr.app N15 Nq16
    have ne_b1_b_16 : b1 ≠ b_16 := Nat.ne_of_lt (Nat.lt_of_lt_of_le ((P2_0.keep Kc12).keep Kc14).lt P16_0)
    have ne_b_12_b_16 : b_12 ≠ b_16 := Nat.ne_of_lt (Nat.lt_of_lt_of_le (P12_1.keep Kc14).lt P16_0)
    have ne_b_14_b_16 : b_14 ≠ b_16 := Nat.ne_of_lt (Nat.lt_of_lt_of_le P14_1.lt P16_0)
    have ge_b_16 : n0 ≤ b_16 := Nat.le_trans (Nat.le_trans (Nat.le_trans (Nat.le_trans (Nat.le_trans Z0 E1.1) Kc2.1) Kc12.1) Kc14.1) P16_0
    have O16 := O14.keep Kc16 all0
    refine own_tr st16 ?_
    show own_G p.tables e below _ (T16.setTop (mkF m 78 #[.val (.int p1), .val (.int p2), .val (.int p3), .val (.ref b1), .val (.int (1 : Int32)), .val (.ref b_12), .val (.ref b_14)] [(.ref b_16)]))
    obtain ⟨cq17, kq17, q17a, q17b, q17c⟩ := isOf hZ rfl P16_1
    obtain ⟨_, _, ⟨T17, L17, k17, n17⟩, -, X17, ⟨Lc17, hQ17, l17, y17, z17⟩, st17⟩ := X16.virtualBack hx (y := (⟨"com/example/memo3/memo3/protocol/Command", "isResponse", "()Z"⟩ : MethodName)) (z := (⟨"com/example/memo3/memo3/protocol/Command", "isResponse", "()Z"⟩ : MethodName)) hown (mvT hZ (hw _ (List.mem_of_getElem? (i := 34) rfl))) (mvT hZ (hw _ (List.mem_of_getElem? (i := 35) rfl))) (notFace_of_selects (args := #[]) (mvT hZ (hw _ (List.mem_of_getElem? (i := 37) rfl)))) (mvT hZ (hw _ (List.mem_of_getElem? (i := 37) rfl))) (mvT hZ (hw _ (List.mem_of_getElem? (i := 36) rfl))) (by decide) (backOf (W := 0) (rm_isRes1 l Z a0 hw [] b_16 (p2 ||| (1 : Int32)) T16.heap n0 (Nat.le_trans (Nat.le_trans (Nat.le_trans (Nat.le_trans (Nat.le_trans Z0 E1.1) Kc2.1) Kc12.1) Kc14.1) Kc16.1)  P16_3 (own_or1 p2)) hZ (hw _ (List.mem_of_getElem? (i := 38) rfl)) (hw _ (List.mem_of_getElem? (i := 2) rfl)) (by decide) (by decide)) q17a q17c (g := (mkF m 78 #[.val (.int p1), .val (.int p2), .val (.int p3), .val (.ref b1), .val (.int (1 : Int32)), .val (.ref b_12), .val (.ref b_14)] [(.ref b_16)])) rfl (by rw [hml]; rfl) (Steps.refl _) (argsL := []) (rest := []) (lenOf own_pd6 rfl) rfl (by show 2 * 0 + _ ≤ _; exact Nat.le_of_eq rfl) (hb hby at_78) (fun _ _ => ⟨rfl, rfl, (by decide : 4 + 0 ≤ _), (by decide : 24 + 0 ≤ _)⟩)
    dsimp only [Pt.U, Pt.locs, Pt.cells, Pt.slots] at X17 l17 y17 z17 st17 hQ17
    subst l17 y17 z17
    obtain ⟨rfl, Nq17, eq17⟩ := hQ17
    have N17 := Fr.app N16 Nq17
    refine own_tr st17 ?_
    show own_G p.tables e below _ (T17.setTop (mkF m 81 #[.val (.int p1), .val (.int p2), .val (.int p3), .val (.ref b1), .val (.int (1 : Int32)), .val (.ref b_12), .val (.ref b_14)] [(.int (1 : Int32))]))
    exact own_retN X17 hx hlk (t := .boolean) hret (by simp) (hb hby at_81) (by decide) (by decide) (v' := (1 : Int32)) rfl (by rw [eq17]; exact ⟨rfl, N17⟩)
set_option maxRecDepth 65536 in
set_option maxHeartbeats 40000000 in
theorem comes_1 {Post : Tables → Env → Array Value → State → Outcome → State → Prop} (hpost : ∀ tb e args s v u, (limb_1_1.after args s (.returned v) u = true ∧ limb_1_2.after args s (.returned v) u = true ∧ True) → FrameEnd s (.returned v) u (Jvm.fieldLocs frame_1_writes args s ++ Jvm.arrayLocs frame_1_arrays args s ++ Jvm.staticLocs frame_1_statics s) 16 128 → Post tb e args s (.returned v) u) :
    ArmFor flags0 classFile x code maxLocals ret World_1 tables_1 room_1 Calls_1 rest_1 Pre_1 Post := by
  intro l hfl _ _ p e ha hc hk s m args below hf hA hF happ hP
  obtain ⟨hcalls, hrest, hpre⟩ := hP
  obtain ⟨-, -, -, hnamed, -, -, -, hat⟩ := (Spec.applies_iff hf).mp happ
  obtain ⟨hg, hn⟩ := and_e (Cond.before_iff.mp (show (Jvm.Cond.and given_1 narrow_1).before args s = true from hpre))
  obtain ⟨g1a, g1b⟩ := and_e hg
  obtain ⟨g2a, g2b⟩ := and_e g1b
  obtain ⟨g3a, g3b⟩ := and_e g2b
  obtain ⟨w0, w1, w2, rfl⟩ : ∃ w0 w1 w2 : Value, args = #[w0, w1, w2] := by
    have hs : args.size = 3 := by simpa [Cond.value, given_1] using g1a
    obtain ⟨L⟩ := args
    match L, hs with
    | [w0, w1, w2], _ => exact ⟨w0, w1, w2, rfl⟩
  have hw := fun d (hd : d ∈ tables_1) => atoms_spec (ws := Jvm.Cond.code x code maxLocals ret :: tables_1) hat d (List.mem_cons_of_mem _ hd)
  have hfit : Fit s := fun {y c} hc i hi => by
    obtain ⟨ha, rfl⟩ := Array.getElem?_eq_some_iff.mp hc
    have q := List.all_eq_true.mp ((Array.all_eq_true_iff_forall_mem.mp hF) _ (Array.getElem_mem ha)) i (List.mem_range.mpr hi)
    simpa [Array.getElem?_eq_getElem hi] using q
  obtain ⟨hsets, hown0⟩ := atoms_of _ (rest_1_c_eq ▸ (show rest_1_c.before _ s = true from hrest))
  have hr0 := Cond.before_iff.mp hown0
  obtain ⟨i0, ei0⟩ := is_v g2a
  obtain rfl : w0 = (.int i0) := Option.some.inj ei0
  obtain ⟨i1, ei1⟩ := is_v g3a
  obtain rfl : w1 = (.int i1) := Option.some.inj ei1
  obtain ⟨i2, ei2⟩ := is_v g3b
  obtain rfl : w2 = (.int i2) := Option.some.inj ei2
  obtain ⟨g4a, g4b⟩ := and_e hn
  obtain ⟨wE, vE⟩ := exa_v (Cond.before_iff.mp (hsets _ (List.mem_of_getElem? (i := 2) rfl)))
  have E_E := Exa.start vE (Cond.before_iff.mp (hsets _ (List.mem_of_getElem? (i := 2) rfl)))
  have S_E := Sta.start vE (Or.inl (hsets _ (List.mem_of_getElem? (i := 1) rfl)))
  obtain ⟨wB, vB⟩ := arr_v g4a
  have S_B := Sta.start vB (Or.inr ⟨(hw _ (List.mem_of_getElem? (i := 2) rfl)), (hw _ (List.mem_of_getElem? (i := 21) rfl))⟩)
  obtain ⟨n, o, h1, h2, h3, _, L, rfl, ⟨rfl, N⟩, hq⟩ := rm_law l s _ hw tables_1 i0 i1 i2 wE wB s.heap s.heap.size (Nat.le_refl _) (Old.start s) S_E S_B E_E p e ha hc hk s m _ below hf ((Spec.applies_iff_loose hf).mp happ).1 ⟨rfl, State.Warmed39.refl s, rfl⟩ trivial
  refine ⟨n, _, h1, h2, h3, hpost _ _ _ _ _ _ ⟨Cond.after_iff.mpr rfl, Cond.after_iff.mpr (eq_i res_at (Term.int_eval (1)) rfl), trivial⟩ ⟨hq.1, hq.2.1, (hq.2.2.sift fun y hy => Or.inr (N y hy)).mono (by decide) (by decide)⟩⟩
theorem main_1_1 : Claimed_1_1 := comes_1 fun _ _ _ _ _ _ h hF => ⟨h.1, hF⟩
theorem main_1_2 : Claimed_1_2 := comes_1 fun _ _ _ _ _ _ h hF => ⟨h.2.1, hF⟩
end Jvm.Pilot.@@N@@
namespace Jvm.Pilot.@@N@@
open Jvm Jvm.ClassFile Sem Op Lib Jvm.Free Jvm.Stand Jvm.Pilot.@@N@@.Jvm.D
/-! MADE BY PROGRAM (witnessworld.py) out of the Statement's table words and the real class files: 16 classes; the members and pool entries that the words name. The judged class is class 1, her method 1. -/
namespace start1
open Jvm.ClassFile
def u (s : String) : CpInfo := .utf8 (stringToUtf16 s)
/-- a pool by its gaps: so many unusable entries, then the entry; so many at the end -/
def gap : Nat → List CpInfo → List CpInfo
  | 0, r => r
  | n + 1, r => .unusable :: gap n r
def poolList (es : List (Nat × CpInfo)) (last : Nat) : List CpInfo := es.foldr (fun e r => gap e.1 (e.2 :: r)) (gap last [])
def pool (es : List (Nat × CpInfo)) (last : Nat) : Array CpInfo := ⟨poolList es last⟩
def fileOf (pool : Array CpInfo) (this : Nat) (attrs : Array Attribute := #[]) (ms : Array MethodInfo := #[]) (fl : Nat := 33) (sup : Nat := 0) (ifs : Array Nat := #[]) (fds : Array FieldInfo := #[]) : ClassFile where
  minorVersion := 0
  majorVersion := 65
  constantPool := pool
  accessFlags := fl
  thisClass := this
  superClass := sup
  interfaces := ifs
  fields := fds
  methods := ms
  attributes := attrs
def plain (name : String) (sup : Option ClassId) : Class where
  name := name
  kind := .ordinary
  loader := none
  accessFlags := 33
  super := sup
  interfaces := #[]
  cf := none
  fields := #[]
  methods := #[]
  instanceTypes := #[]
  staticTypes := #[]
  resolved := #[]
  callSites := []
  init := .initialized
  statics := none
  mirror := none

def pool0 : Array CpInfo := pool [(5, u "<init>"), (0, u "()V"), (1, .class_ 10), (1, u "java/lang/Object")] 113

def k0c0 : Code := { maxStack := 0, maxLocals := 1, code := object_method_1_code, exceptionTable := #[], attributes := #[] }
def k0m0 : Method := { name := "<init>", desc := "()V", sig := { parameters := [], returnType := none }, accessFlags := 1, code := some k0c0 }
/-- java/lang/Object -/
def k0 : Class := { plain "java/lang/Object" none with
  accessFlags := 33
  interfaces := #[]
  cf := some (fileOf pool0 8 #[] #[{ accessFlags := 1, nameIndex := 5, descriptorIndex := 6, attributes := #[] }] 33 0 #[] #[])
  fields := #[]
  methods := #[k0m0]
  instanceTypes := #[]
  staticTypes := #[]
  resolved := Array.replicate 124 none
  statics := none }

def pool1 : Array CpInfo := pool [(2, .class_ 4), (1, u "java/lang/Object"), (0, u "<init>"), (0, u "()V"), (0, .class_ 8), (0, u "com/example/memo3/memo3/protocol/Command"), (0, .methodref 7 10), (0, .nameAndType 5 11), (0, u "(IIILjava/lang/String;Ljava/util/Map;[B)V"), (0, .methodref 7 13), (0, .nameAndType 14 15), (0, u "isResponse"), (0, u "()Z"), (0, .methodref 7 17), (0, .nameAndType 18 19), (0, u "request"), (0, u "(ILjava/util/Map;)Lcom/example/memo3/memo3/protocol/Command;"), (0, .methodref 7 21), (0, .nameAndType 22 23), (0, u "response"), (0, u "(ILjava/lang/String;)Lcom/example/memo3/memo3/protocol/Command;"), (0, .methodref 7 25), (0, .nameAndType 26 27), (0, u "answering"), (0, u "(Lcom/example/memo3/memo3/protocol/Command;)Lcom/example/memo3/memo3/protocol/Command;"), (0, .class_ 29), (0, u "com/example/memo3/memo3/protocol/CommandIsResponsePinLaw"), (2, u "law"), (0, u "(III)Z")] 3

def k1m0 : Method := { name := "<init>", desc := "()V", sig := { parameters := [], returnType := none }, accessFlags := 1, code := none }
def k1c1 : Code := { maxStack := 8, maxLocals := 7, code := code, exceptionTable := #[], attributes := #[] }
def k1m1 : Method := { name := "law", desc := "(III)Z", sig := { parameters := [.int, .int, .int], returnType := some .boolean }, accessFlags := 9, code := some k1c1 }
/-- com/example/memo3/memo3/protocol/CommandIsResponsePinLaw -/
def k1 : Class := { plain "com/example/memo3/memo3/protocol/CommandIsResponsePinLaw" (some 0) with
  accessFlags := 49
  interfaces := #[]
  cf := some (fileOf pool1 28 #[] #[{ accessFlags := 1, nameIndex := 5, descriptorIndex := 6, attributes := #[] }, { accessFlags := 9, nameIndex := 32, descriptorIndex := 33, attributes := #[] }] 49 2 #[] #[])
  fields := #[]
  methods := #[k1m0, k1m1]
  instanceTypes := #[]
  staticTypes := #[]
  resolved := Array.replicate 37 none
  statics := none }

def pool2 : Array CpInfo := pool [(1, .methodref 2 3), (0, .class_ 4), (0, .nameAndType 5 6), (0, u "java/lang/Object"), (0, u "<init>"), (0, u "()V"), (0, .class_ 8), (0, u "java/lang/Record")] 13

def k2c0 : Code := { maxStack := 1, maxLocals := 1, code := jdk_30_method_1_code, exceptionTable := #[], attributes := #[] }
def k2m0 : Method := { name := "<init>", desc := "()V", sig := { parameters := [], returnType := none }, accessFlags := 4, code := some k2c0 }
/-- java/lang/Record -/
def k2 : Class := { plain "java/lang/Record" (some 0) with
  accessFlags := 1057
  interfaces := #[]
  cf := some (fileOf pool2 7 #[] #[{ accessFlags := 4, nameIndex := 5, descriptorIndex := 6, attributes := #[] }] 1057 2 #[] #[])
  fields := #[]
  methods := #[k2m0]
  instanceTypes := #[]
  staticTypes := #[]
  resolved := Array.replicate 22 none
  statics := none }

def pool3 : Array CpInfo := pool [(1, .methodref 2 3), (0, .class_ 4), (0, .nameAndType 5 6), (0, u "java/lang/Record"), (0, u "<init>"), (0, u "()V"), (0, .interfaceMethodref 8 9), (0, .class_ 10), (0, .nameAndType 11 12), (0, u "java/util/Map"), (0, u "of"), (0, u "()Ljava/util/Map;"), (0, .interfaceMethodref 8 14), (0, .nameAndType 15 16), (0, u "copyOf"), (0, u "(Ljava/util/Map;)Ljava/util/Map;"), (0, .fieldref 18 19), (0, .class_ 20), (0, .nameAndType 21 22), (0, u "com/example/memo3/memo3/protocol/Command"), (0, u "NO_BODY"), (0, u "[B"), (0, .fieldref 18 24), (0, .nameAndType 25 26), (0, u "code"), (0, u "I"), (0, .fieldref 18 28), (0, .nameAndType 29 26), (0, u "flag"), (0, .fieldref 18 31), (0, .nameAndType 32 26), (0, u "opaque"), (0, .fieldref 18 34), (0, .nameAndType 35 36), (0, u "remark"), (0, u "Ljava/lang/String;"), (0, .fieldref 18 38), (0, .nameAndType 39 40), (0, u "extFields"), (0, u "Ljava/util/Map;"), (0, .fieldref 18 42), (0, .nameAndType 43 22), (0, u "body"), (0, .methodref 18 45), (0, .nameAndType 46 47), (0, u "request"), (0, u "(ILjava/util/Map;[B)Lcom/example/memo3/memo3/protocol/Command;"), (0, .methodref 18 49), (0, .nameAndType 5 50), (0, u "(IIILjava/lang/String;Ljava/util/Map;[B)V"), (0, .methodref 18 52), (0, .nameAndType 32 53), (0, u "()I"), (65, u "RESPONSE_FLAG"), (2, u "ONEWAY_FLAG"), (7, u "(ILjava/util/Map;)Lcom/example/memo3/memo3/protocol/Command;"), (2, u "response"), (0, u "(ILjava/lang/String;)Lcom/example/memo3/memo3/protocol/Command;"), (2, u "isResponse"), (0, u "()Z"), (1, u "answering"), (0, u "(Lcom/example/memo3/memo3/protocol/Command;)Lcom/example/memo3/memo3/protocol/Command;")] 69

def k3c0 : Code := { maxStack := 2, maxLocals := 7, code := prog_27_method_1_code, exceptionTable := #[], attributes := #[] }
def k3m0 : Method := { name := "<init>", desc := "(IIILjava/lang/String;Ljava/util/Map;[B)V", sig := { parameters := [.int, .int, .int, (.object "java/lang/String"), (.object "java/util/Map"), (.array .byte)], returnType := none }, accessFlags := 1, code := some k3c0 }
def k3c1 : Code := { maxStack := 3, maxLocals := 2, code := prog_27_method_2_code, exceptionTable := #[], attributes := #[] }
def k3m1 : Method := { name := "request", desc := "(ILjava/util/Map;)Lcom/example/memo3/memo3/protocol/Command;", sig := { parameters := [.int, (.object "java/util/Map")], returnType := some (.object "com/example/memo3/memo3/protocol/Command") }, accessFlags := 9, code := some k3c1 }
def k3c2 : Code := { maxStack := 8, maxLocals := 3, code := prog_27_method_3_code, exceptionTable := #[], attributes := #[] }
def k3m2 : Method := { name := "request", desc := "(ILjava/util/Map;[B)Lcom/example/memo3/memo3/protocol/Command;", sig := { parameters := [.int, (.object "java/util/Map"), (.array .byte)], returnType := some (.object "com/example/memo3/memo3/protocol/Command") }, accessFlags := 9, code := some k3c2 }
def k3c3 : Code := { maxStack := 8, maxLocals := 2, code := prog_27_method_4_code, exceptionTable := #[], attributes := #[] }
def k3m3 : Method := { name := "response", desc := "(ILjava/lang/String;)Lcom/example/memo3/memo3/protocol/Command;", sig := { parameters := [.int, (.object "java/lang/String")], returnType := some (.object "com/example/memo3/memo3/protocol/Command") }, accessFlags := 9, code := some k3c3 }
def k3c4 : Code := { maxStack := 2, maxLocals := 1, code := prog_27_method_6_code, exceptionTable := #[], attributes := #[] }
def k3m4 : Method := { name := "isResponse", desc := "()Z", sig := { parameters := [], returnType := some .boolean }, accessFlags := 1, code := some k3c4 }
def k3c5 : Code := { maxStack := 8, maxLocals := 2, code := prog_27_method_8_code, exceptionTable := #[], attributes := #[] }
def k3m5 : Method := { name := "answering", desc := "(Lcom/example/memo3/memo3/protocol/Command;)Lcom/example/memo3/memo3/protocol/Command;", sig := { parameters := [(.object "com/example/memo3/memo3/protocol/Command")], returnType := some (.object "com/example/memo3/memo3/protocol/Command") }, accessFlags := 1, code := some k3c5 }
def k3c6 : Code := { maxStack := 1, maxLocals := 1, code := prog_27_method_20_code, exceptionTable := #[], attributes := #[] }
def k3m6 : Method := { name := "opaque", desc := "()I", sig := { parameters := [], returnType := some .int }, accessFlags := 1, code := some k3c6 }
/-- com/example/memo3/memo3/protocol/Command -/
def k3 : Class := { plain "com/example/memo3/memo3/protocol/Command" (some 2) with
  accessFlags := 49
  interfaces := #[]
  cf := some (fileOf pool3 18 #[] #[{ accessFlags := 1, nameIndex := 5, descriptorIndex := 50, attributes := #[] }, { accessFlags := 9, nameIndex := 46, descriptorIndex := 130, attributes := #[] }, { accessFlags := 9, nameIndex := 46, descriptorIndex := 47, attributes := #[] }, { accessFlags := 9, nameIndex := 133, descriptorIndex := 134, attributes := #[] }, { accessFlags := 1, nameIndex := 137, descriptorIndex := 138, attributes := #[] }, { accessFlags := 1, nameIndex := 140, descriptorIndex := 141, attributes := #[] }, { accessFlags := 1, nameIndex := 32, descriptorIndex := 53, attributes := #[] }] 49 2 #[] #[{ accessFlags := 18, nameIndex := 25, descriptorIndex := 26, attributes := #[] }, { accessFlags := 18, nameIndex := 29, descriptorIndex := 26, attributes := #[] }, { accessFlags := 18, nameIndex := 32, descriptorIndex := 26, attributes := #[] }, { accessFlags := 18, nameIndex := 35, descriptorIndex := 36, attributes := #[] }, { accessFlags := 18, nameIndex := 39, descriptorIndex := 40, attributes := #[] }, { accessFlags := 18, nameIndex := 43, descriptorIndex := 22, attributes := #[] }, { accessFlags := 25, nameIndex := 119, descriptorIndex := 26, attributes := #[] }, { accessFlags := 25, nameIndex := 122, descriptorIndex := 26, attributes := #[] }, { accessFlags := 26, nameIndex := 21, descriptorIndex := 22, attributes := #[] }])
  fields := #[{ name := "code", type := .int, accessFlags := 18, slot := 0, constantValue := 0 }, { name := "flag", type := .int, accessFlags := 18, slot := 1, constantValue := 0 }, { name := "opaque", type := .int, accessFlags := 18, slot := 2, constantValue := 0 }, { name := "remark", type := (.object "java/lang/String"), accessFlags := 18, slot := 3, constantValue := 0 }, { name := "extFields", type := (.object "java/util/Map"), accessFlags := 18, slot := 4, constantValue := 0 }, { name := "body", type := (.array .byte), accessFlags := 18, slot := 5, constantValue := 0 }, { name := "RESPONSE_FLAG", type := .int, accessFlags := 25, slot := 0, constantValue := 0 }, { name := "ONEWAY_FLAG", type := .int, accessFlags := 25, slot := 1, constantValue := 0 }, { name := "NO_BODY", type := (.array .byte), accessFlags := 26, slot := 2, constantValue := 0 }]
  methods := #[k3m0, k3m1, k3m2, k3m3, k3m4, k3m5, k3m6]
  instanceTypes := #[.int, .int, .int, (.object "java/lang/String"), (.object "java/util/Map"), (.array .byte)]
  staticTypes := #[.int, .int, (.array .byte)]
  resolved := Array.replicate 211 none
  statics := some 0 }

def pool4 : Array CpInfo := pool [(2, .class_ 4), (1, u "java/util/Map"), (31, .class_ 37), (0, u "java/util/Map$Entry"), (43, .fieldref 82 83), (0, .class_ 84), (0, .nameAndType 85 86), (0, u "java/util/ImmutableCollections"), (0, u "EMPTY_MAP"), (0, u "Ljava/util/ImmutableCollections$MapN;"), (6, .class_ 94), (0, u "java/lang/Object"), (6, .class_ 102), (0, u "java/util/ImmutableCollections$AbstractImmutableMap"), (5, u "of"), (0, u "()Ljava/util/Map;"), (140, u "copyOf"), (0, u "(Ljava/util/Map;)Ljava/util/Map;")] 11

def k4c0 : Code := { maxStack := 1, maxLocals := 0, code := jdk_72_method_26_code, exceptionTable := #[], attributes := #[] }
def k4m0 : Method := { name := "of", desc := "()Ljava/util/Map;", sig := { parameters := [], returnType := some (.object "java/util/Map") }, accessFlags := 9, code := some k4c0 }
def k4c1 : Code := { maxStack := 2, maxLocals := 1, code := jdk_72_method_39_code, exceptionTable := #[], attributes := #[] }
def k4m1 : Method := { name := "copyOf", desc := "(Ljava/util/Map;)Ljava/util/Map;", sig := { parameters := [(.object "java/util/Map")], returnType := some (.object "java/util/Map") }, accessFlags := 9, code := some k4c1 }
/-- java/util/Map -/
def k4 : Class := { plain "java/util/Map" (some 0) with
  accessFlags := 1537
  interfaces := #[]
  cf := some (fileOf pool4 2 #[.nestMembers #[36]] #[{ accessFlags := 9, nameIndex := 108, descriptorIndex := 109, attributes := #[] }, { accessFlags := 9, nameIndex := 250, descriptorIndex := 251, attributes := #[] }] 1537 93 #[] #[])
  fields := #[]
  methods := #[k4m0, k4m1]
  instanceTypes := #[]
  staticTypes := #[]
  resolved := Array.replicate 263 none
  statics := none }

def pool5 : Array CpInfo := pool [(2, .class_ 4), (1, u "java/lang/Object"), (0, u "<init>"), (0, u "()V"), (3, .class_ 11), (0, u "java/util/ImmutableCollections$List12"), (0, .class_ 13), (0, u "java/util/ImmutableCollections$ListN"), (3, u "Z"), (29, .class_ 49), (1, u "java/util/ImmutableCollections"), (0, u "$assertionsDisabled"), (5, u "[Ljava/lang/Object;"), (5, u "EMPTY_LIST"), (0, u "Ljava/util/ImmutableCollections$ListN;"), (8, u "EMPTY_LIST_NULLS"), (22, u "SALT32L"), (0, u "J"), (2, u "REVERSE"), (6, u "archivedObjects"), (2, u "EMPTY"), (0, u "Ljava/lang/Object;"), (0, .class_ 112), (0, u "java/util/ImmutableCollections$SetN"), (5, u "EMPTY_SET"), (0, u "Ljava/util/ImmutableCollections$SetN;"), (0, .class_ 121), (0, u "java/util/ImmutableCollections$MapN"), (3, u "EMPTY_MAP"), (0, u "Ljava/util/ImmutableCollections$MapN;"), (4, u "EXPAND_FACTOR"), (0, u "I"), (36, .class_ 170), (0, u "java/util/ImmutableCollections$MapN$MapNIterator"), (0, .class_ 172), (0, u "java/util/ImmutableCollections$MapN$1"), (0, .class_ 174), (0, u "java/util/ImmutableCollections$Map1"), (0, .class_ 176), (0, u "java/util/ImmutableCollections$AbstractImmutableMap"), (0, .class_ 178), (0, u "java/util/ImmutableCollections$SetN$SetNIterator"), (0, .class_ 180), (0, u "java/util/ImmutableCollections$Set12"), (0, .class_ 182), (0, u "java/util/ImmutableCollections$Set12$1"), (0, .class_ 184), (0, u "java/util/ImmutableCollections$AbstractImmutableSet"), (0, .class_ 186), (0, u "java/util/ImmutableCollections$SubList"), (0, .class_ 188), (0, u "java/util/ImmutableCollections$ListItr"), (0, .class_ 190), (0, u "java/util/ImmutableCollections$AbstractImmutableList"), (0, .class_ 192), (0, u "java/util/ImmutableCollections$AbstractImmutableCollection"), (0, .class_ 194), (0, u "java/util/ImmutableCollections$Access"), (0, .class_ 196), (0, u "java/util/ImmutableCollections$Access$1")] 16

def k5m0 : Method := { name := "<init>", desc := "()V", sig := { parameters := [], returnType := none }, accessFlags := 2, code := none }
/-- java/util/ImmutableCollections -/
def k5 : Class := { plain "java/util/ImmutableCollections" (some 0) with
  accessFlags := 32
  interfaces := #[]
  cf := some (fileOf pool5 47 #[.nestMembers #[120, 169, 171, 173, 175, 111, 177, 179, 181, 183, 12, 10, 185, 187, 189, 191, 193, 195]] #[{ accessFlags := 2, nameIndex := 5, descriptorIndex := 6, attributes := #[] }] 32 2 #[] #[{ accessFlags := 26, nameIndex := 95, descriptorIndex := 96, attributes := #[] }, { accessFlags := 26, nameIndex := 99, descriptorIndex := 17, attributes := #[] }, { accessFlags := 10, nameIndex := 106, descriptorIndex := 56, attributes := #[] }, { accessFlags := 26, nameIndex := 109, descriptorIndex := 110, attributes := #[] }, { accessFlags := 24, nameIndex := 62, descriptorIndex := 63, attributes := #[] }, { accessFlags := 24, nameIndex := 72, descriptorIndex := 63, attributes := #[] }, { accessFlags := 24, nameIndex := 118, descriptorIndex := 119, attributes := #[] }, { accessFlags := 24, nameIndex := 125, descriptorIndex := 126, attributes := #[] }, { accessFlags := 24, nameIndex := 131, descriptorIndex := 132, attributes := #[] }, { accessFlags := 4120, nameIndex := 50, descriptorIndex := 17, attributes := #[] }])
  fields := #[{ name := "SALT32L", type := .long, accessFlags := 26, slot := 0, constantValue := 0 }, { name := "REVERSE", type := .boolean, accessFlags := 26, slot := 1, constantValue := 0 }, { name := "archivedObjects", type := (.array (.object "java/lang/Object")), accessFlags := 10, slot := 2, constantValue := 0 }, { name := "EMPTY", type := (.object "java/lang/Object"), accessFlags := 26, slot := 3, constantValue := 0 }, { name := "EMPTY_LIST", type := (.object "java/util/ImmutableCollections$ListN"), accessFlags := 24, slot := 4, constantValue := 0 }, { name := "EMPTY_LIST_NULLS", type := (.object "java/util/ImmutableCollections$ListN"), accessFlags := 24, slot := 5, constantValue := 0 }, { name := "EMPTY_SET", type := (.object "java/util/ImmutableCollections$SetN"), accessFlags := 24, slot := 6, constantValue := 0 }, { name := "EMPTY_MAP", type := (.object "java/util/ImmutableCollections$MapN"), accessFlags := 24, slot := 7, constantValue := 0 }, { name := "EXPAND_FACTOR", type := .int, accessFlags := 24, slot := 8, constantValue := 0 }, { name := "$assertionsDisabled", type := .boolean, accessFlags := 4120, slot := 9, constantValue := 0 }]
  methods := #[k5m0]
  instanceTypes := #[]
  staticTypes := #[.long, .boolean, (.array (.object "java/lang/Object")), (.object "java/lang/Object"), (.object "java/util/ImmutableCollections$ListN"), (.object "java/util/ImmutableCollections$ListN"), (.object "java/util/ImmutableCollections$SetN"), (.object "java/util/ImmutableCollections$MapN"), .int, .boolean]
  resolved := Array.replicate 213 none
  statics := some 1 }

def pool6 : Array CpInfo := pool [(2, .class_ 4), (1, u "java/lang/Object"), (0, u "<init>"), (0, u "()V"), (1, .class_ 10), (1, u "java/util/AbstractMap"), (42, .class_ 54), (0, u "java/util/Map"), (9, u "keySet"), (0, u "Ljava/util/Set;"), (0, .class_ 67), (0, u "java/util/AbstractMap$1"), (5, u "values"), (0, u "Ljava/util/Collection;"), (0, .class_ 76), (0, u "java/util/AbstractMap$2"), (104, .class_ 182), (0, u "java/util/AbstractMap$ViewCollection"), (0, .class_ 184), (0, u "java/util/AbstractMap$SimpleImmutableEntry"), (0, .class_ 186), (0, u "java/util/AbstractMap$SimpleEntry"), (0, .class_ 188), (0, u "java/util/AbstractMap$2$1"), (0, .class_ 190), (0, u "java/util/AbstractMap$1$1")] 5

def k6m0 : Method := { name := "<init>", desc := "()V", sig := { parameters := [], returnType := none }, accessFlags := 4, code := none }
/-- java/util/AbstractMap -/
def k6 : Class := { plain "java/util/AbstractMap" (some 0) with
  accessFlags := 1057
  interfaces := #[4]
  cf := some (fileOf pool6 8 #[.nestMembers #[181, 183, 185, 75, 187, 66, 189]] #[{ accessFlags := 4, nameIndex := 5, descriptorIndex := 6, attributes := #[] }] 1057 2 #[53] #[{ accessFlags := 128, nameIndex := 64, descriptorIndex := 65, attributes := #[] }, { accessFlags := 128, nameIndex := 73, descriptorIndex := 74, attributes := #[] }])
  fields := #[{ name := "keySet", type := (.object "java/util/Set"), accessFlags := 128, slot := 0, constantValue := 0 }, { name := "values", type := (.object "java/util/Collection"), accessFlags := 128, slot := 1, constantValue := 0 }]
  methods := #[k6m0]
  instanceTypes := #[(.object "java/util/Set"), (.object "java/util/Collection")]
  staticTypes := #[]
  resolved := Array.replicate 196 none
  statics := none }

def pool7 : Array CpInfo := pool [(1, .class_ 2), (0, u "java/io/Serializable"), (0, .class_ 4), (0, u "java/lang/Object")] 2

/-- java/io/Serializable -/
def k7 : Class := { plain "java/io/Serializable" (some 0) with
  accessFlags := 1537
  interfaces := #[]
  cf := some (fileOf pool7 1 #[] #[] 1537 3 #[] #[])
  fields := #[]
  methods := #[]
  instanceTypes := #[]
  staticTypes := #[]
  resolved := Array.replicate 7 none
  statics := none }

def pool8 : Array CpInfo := pool [(2, .class_ 4), (1, u "java/util/AbstractMap"), (0, u "<init>"), (0, u "()V"), (1, .class_ 10), (1, u "java/util/ImmutableCollections"), (3, .class_ 16), (1, u "java/util/ImmutableCollections$AbstractImmutableMap"), (2, .class_ 20), (0, u "java/io/Serializable")] 66

def k8m0 : Method := { name := "<init>", desc := "()V", sig := { parameters := [], returnType := none }, accessFlags := 0, code := none }
/-- java/util/ImmutableCollections$AbstractImmutableMap -/
def k8 : Class := { plain "java/util/ImmutableCollections$AbstractImmutableMap" (some 6) with
  accessFlags := 1056
  interfaces := #[7]
  cf := some (fileOf pool8 14 #[.nestHost 8] #[{ accessFlags := 0, nameIndex := 5, descriptorIndex := 6, attributes := #[] }] 1056 2 #[19] #[])
  fields := #[]
  methods := #[k8m0]
  instanceTypes := #[(.object "java/util/Set"), (.object "java/util/Collection")]
  staticTypes := #[]
  resolved := Array.replicate 87 none
  statics := none }

def pool9 : Array CpInfo := pool [(1, .class_ 2), (0, u "java/util/ImmutableCollections"), (1, .class_ 6), (1, u "java/util/ImmutableCollections$AbstractImmutableMap"), (10, .class_ 19), (1, u "java/util/ImmutableCollections$MapN"), (0, u "size"), (0, u "I"), (4, u "table"), (0, u "[Ljava/lang/Object;")] 121

/-- java/util/ImmutableCollections$MapN -/
def k9 : Class := { plain "java/util/ImmutableCollections$MapN" (some 8) with
  accessFlags := 48
  interfaces := #[]
  cf := some (fileOf pool9 17 #[.nestHost 1] #[] 48 4 #[] #[{ accessFlags := 16, nameIndex := 26, descriptorIndex := 27, attributes := #[] }, { accessFlags := 16, nameIndex := 20, descriptorIndex := 21, attributes := #[] }])
  fields := #[{ name := "table", type := (.array (.object "java/lang/Object")), accessFlags := 16, slot := 2, constantValue := 0 }, { name := "size", type := .int, accessFlags := 16, slot := 3, constantValue := 0 }]
  methods := #[]
  instanceTypes := #[(.object "java/util/Set"), (.object "java/util/Collection"), (.array (.object "java/lang/Object")), .int]
  staticTypes := #[]
  resolved := Array.replicate 149 none
  statics := none }

def pool10 : Array CpInfo := pool [(1, u "java/lang/Cloneable"), (0, .class_ 1), (0, u "java/lang/Object"), (0, .class_ 3)] 3

/-- java/lang/Cloneable -/
def k10 : Class := { plain "java/lang/Cloneable" (some 0) with
  accessFlags := 1537
  interfaces := #[]
  cf := some (fileOf pool10 2 #[] #[] 1537 4 #[] #[])
  fields := #[]
  methods := #[]
  instanceTypes := #[]
  staticTypes := #[]
  resolved := Array.replicate 8 none
  statics := none }

/-- the primitive byte -/
def k11 : Class := { plain "byte" none with kind := .primitive 'B', accessFlags := 0x411 }
/-- [B -/
def k12 : Class := { plain "[B" (some 0) with kind := .array 11 .byte, interfaces := #[10, 7], accessFlags := 1041 }

/-- the primitive int -/
def k13 : Class := { plain "int" none with kind := .primitive 'I', accessFlags := 0x411 }
/-- [I -/
def k14 : Class := { plain "[I" (some 0) with kind := .array 13 .int, interfaces := #[10, 7], accessFlags := 1041 }

/-- [Ljava/lang/Object; -/
def k15 : Class := { plain "[Ljava/lang/Object;" (some 0) with kind := .array 0 (.object "java/lang/Object"), interfaces := #[10, 7], accessFlags := 1041 }

def heap : Heap := #[{ cls := 3, slots := #[.int 0, .int 0, .ref 4], vm := .statics 3 },
  { cls := 5, slots := #[.long 0, .int 0, .null, .null, .null, .null, .null, .ref 3, .int 0, .int 0], vm := .statics 5 },
  { cls := 15, slots := #[], vm := .none },
  { cls := 9, slots := #[.null, .null, .ref 2, .int 0], vm := .none },
  { cls := 12, slots := #[], vm := .none }]
def classes : Array Class := #[k0, k1, k2, k3, k4, k5, k6, k7, k8, k9, k10, k11, k12, k13, k14, k15]
def interned : List (Array UInt16 × Addr) := []
def slotsUsed : Nat := 17
def theMethod : MethodId := ⟨1, 1⟩
def args0 : Array Value := #[.int 5, .int 1, .int 2]
def aboutOver (below : List Frame) : State where
  vm := { classes := classes, interned := interned.toArray }
  heap := heap
  slotsUsed := slotsUsed
  threads := #[{ frames := .invoking theMethod args0 :: below }]
def below0 : List Frame := [.native { method := ⟨0, 0⟩, args := #[] }]
def about1 : State := aboutOver below0
def p0 : Program := .bare "" "" ""
def e0 : Env := launch0.env 0 0 0
theorem w_frames : about1.frames = Frame.invoking theMethod args0 :: below0 := rfl
set_option maxRecDepth 65536 in
theorem w_args : argsFit about1.vm theMethod args0 = true := by decide +kernel
set_option maxRecDepth 65536 in
theorem w_heap : heapFits about1 = true := by decide +kernel
set_option maxRecDepth 65536 in
theorem w_runnable : about1.curStatus? = some .runnable := by decide +kernel
set_option maxRecDepth 65536 in
theorem w_alone : about1.alone = true := by decide +kernel
set_option maxRecDepth 65536 in
theorem w_named : about1.methodNamed? x = some theMethod := by decide +kernel
set_option maxRecDepth 65536 in
theorem w_hears : about1.hears theMethod below0 = true := by decide +kernel
set_option maxRecDepth 65536 in
theorem w_ripe : about1.ripe theMethod args0 below0 = true := by decide +kernel
theorem w_running : about1.status = .running := rfl
set_option maxRecDepth 65536 in
theorem w_room : about1.hasRoom e0.platform room_1 = true :=
  launch0.hasRoom_least _ room_1 (by decide +kernel) (by decide +kernel) (by decide +kernel) (by decide +kernel) (by decide +kernel) (by decide +kernel)
theorem allAtoms_all (ts : List Jvm.Cond) (a : Array Jvm.Value) (st : Jvm.State) : (allAtoms ts).before a st = ts.all (fun c => c.before a st) := by
  induction ts with
  | nil => rfl
  | cons c t ih =>
    show (Jvm.Cond.and c (allAtoms t)).before a st = _
    rw [Jvm.Cond.before_and, ih, List.all_cons]
def words1 : List Jvm.Cond := Jvm.Cond.code x code maxLocals ret :: tables_1
/-- a 'code' word, met by the world's own term for the bytes: nothing is compared byte by byte -/
theorem code_word {y : MethodName} {bytes : ByteArray} {mx : Nat} {rt : Option FieldType} {a : Array Value} {s : State} {m : MethodId} {meth : Method} {c : Code} (h1 : s.methodNamed? y = some m) (h2 : s.vm.method? m = some meth) (h3 : meth.code = some c) (h4 : c.code = bytes)
    (h5 : (c.maxLocals == mx && c.exceptionTable.isEmpty && decide (c.maxStack ≤ mostOperands) && decide (meth.sig.returnType = rt) && !meth.locks && decide (parseMethodDescriptor y.desc = some meth.sig)) = true) : (Jvm.Cond.code y bytes mx rt).before a s = true := by
  simp only [Bool.and_eq_true, beq_iff_eq, Bool.not_eq_true', decide_eq_true_eq] at h5
  obtain ⟨⟨⟨⟨⟨g1, g2⟩, g3⟩, g4⟩, g5⟩, g6⟩ := h5
  simp [Cond.before, Cond.holds, Cond.value, h1, h2, h3, h4, g1, g2, g3, g4, g5, g6]
def isCode : Jvm.Cond → Bool
  | .code _ _ _ _ => true
  | _ => false
theorem all_split {L : List Jvm.Cond} {P : Jvm.Cond → Bool} (h1 : L.all (fun c => isCode c || P c) = true) (h2 : ∀ c ∈ L.filter isCode, P c = true) : L.all P = true := by
  refine List.all_eq_true.mpr fun c hc => ?_
  have h := List.all_eq_true.mp h1 c hc
  rcases Bool.eq_false_or_eq_true (isCode c) with hi | hi
  · exact h2 c (List.mem_filter.mpr ⟨hc, hi⟩)
  · simpa [hi] using h
set_option maxRecDepth 65536 in
theorem w_c0 : (Jvm.Cond.code x code maxLocals ret).before args0 about1 = true := code_word (m := ⟨1, 1⟩) (meth := k1m1) (c := k1c1) (by decide +kernel) rfl rfl rfl (by decide +kernel)
set_option maxRecDepth 65536 in
theorem w_c1 : (Jvm.Cond.code ({ cls := "com/example/memo3/memo3/protocol/Command", name := "<init>", desc := "(IIILjava/lang/String;Ljava/util/Map;[B)V" } : Jvm.MethodName) prog_27_method_1_code (7 : Nat) (Option.none : Option Jvm.ClassFile.FieldType)).before args0 about1 = true := code_word (m := ⟨3, 0⟩) (meth := k3m0) (c := k3c0) (by decide +kernel) rfl rfl rfl (by decide +kernel)
set_option maxRecDepth 65536 in
theorem w_c2 : (Jvm.Cond.code ({ cls := "java/lang/Record", name := "<init>", desc := "()V" } : Jvm.MethodName) jdk_30_method_1_code (1 : Nat) (Option.none : Option Jvm.ClassFile.FieldType)).before args0 about1 = true := code_word (m := ⟨2, 0⟩) (meth := k2m0) (c := k2c0) (by decide +kernel) rfl rfl rfl (by decide +kernel)
set_option maxRecDepth 65536 in
theorem w_c3 : (Jvm.Cond.code ({ cls := "java/lang/Object", name := "<init>", desc := "()V" } : Jvm.MethodName) object_method_1_code (1 : Nat) (Option.none : Option Jvm.ClassFile.FieldType)).before args0 about1 = true := code_word (m := ⟨0, 0⟩) (meth := k0m0) (c := k0c0) (by decide +kernel) rfl rfl rfl (by decide +kernel)
set_option maxRecDepth 65536 in
theorem w_c4 : (Jvm.Cond.code ({ cls := "java/util/Map", name := "of", desc := "()Ljava/util/Map;" } : Jvm.MethodName) jdk_72_method_26_code (0 : Nat) (Option.some (Jvm.ClassFile.FieldType.object "java/util/Map"))).before args0 about1 = true := code_word (m := ⟨4, 0⟩) (meth := k4m0) (c := k4c0) (by decide +kernel) rfl rfl rfl (by decide +kernel)
set_option maxRecDepth 65536 in
theorem w_c5 : (Jvm.Cond.code ({ cls := "com/example/memo3/memo3/protocol/Command", name := "isResponse", desc := "()Z" } : Jvm.MethodName) prog_27_method_6_code (1 : Nat) (Option.some Jvm.ClassFile.FieldType.boolean)).before args0 about1 = true := code_word (m := ⟨3, 4⟩) (meth := k3m4) (c := k3c4) (by decide +kernel) rfl rfl rfl (by decide +kernel)
set_option maxRecDepth 65536 in
theorem w_c6 : (Jvm.Cond.code ({ cls := "com/example/memo3/memo3/protocol/Command", name := "request", desc := "(ILjava/util/Map;)Lcom/example/memo3/memo3/protocol/Command;" } : Jvm.MethodName) prog_27_method_2_code (2 : Nat) (Option.some (Jvm.ClassFile.FieldType.object "com/example/memo3/memo3/protocol/Command"))).before args0 about1 = true := code_word (m := ⟨3, 1⟩) (meth := k3m1) (c := k3c1) (by decide +kernel) rfl rfl rfl (by decide +kernel)
set_option maxRecDepth 65536 in
theorem w_c7 : (Jvm.Cond.code ({ cls := "com/example/memo3/memo3/protocol/Command", name := "request", desc := "(ILjava/util/Map;[B)Lcom/example/memo3/memo3/protocol/Command;" } : Jvm.MethodName) prog_27_method_3_code (3 : Nat) (Option.some (Jvm.ClassFile.FieldType.object "com/example/memo3/memo3/protocol/Command"))).before args0 about1 = true := code_word (m := ⟨3, 2⟩) (meth := k3m2) (c := k3c2) (by decide +kernel) rfl rfl rfl (by decide +kernel)
set_option maxRecDepth 65536 in
theorem w_c8 : (Jvm.Cond.code ({ cls := "com/example/memo3/memo3/protocol/Command", name := "response", desc := "(ILjava/lang/String;)Lcom/example/memo3/memo3/protocol/Command;" } : Jvm.MethodName) prog_27_method_4_code (2 : Nat) (Option.some (Jvm.ClassFile.FieldType.object "com/example/memo3/memo3/protocol/Command"))).before args0 about1 = true := code_word (m := ⟨3, 3⟩) (meth := k3m3) (c := k3c3) (by decide +kernel) rfl rfl rfl (by decide +kernel)
set_option maxRecDepth 65536 in
theorem w_c9 : (Jvm.Cond.code ({ cls := "com/example/memo3/memo3/protocol/Command", name := "answering", desc := "(Lcom/example/memo3/memo3/protocol/Command;)Lcom/example/memo3/memo3/protocol/Command;" } : Jvm.MethodName) prog_27_method_8_code (2 : Nat) (Option.some (Jvm.ClassFile.FieldType.object "com/example/memo3/memo3/protocol/Command"))).before args0 about1 = true := code_word (m := ⟨3, 5⟩) (meth := k3m5) (c := k3c5) (by decide +kernel) rfl rfl rfl (by decide +kernel)
set_option maxRecDepth 65536 in
theorem w_c10 : (Jvm.Cond.code ({ cls := "com/example/memo3/memo3/protocol/Command", name := "opaque", desc := "()I" } : Jvm.MethodName) prog_27_method_20_code (1 : Nat) (Option.some Jvm.ClassFile.FieldType.int)).before args0 about1 = true := code_word (m := ⟨3, 6⟩) (meth := k3m6) (c := k3c6) (by decide +kernel) rfl rfl rfl (by decide +kernel)
set_option maxRecDepth 65536 in
theorem w_c11 : (Jvm.Cond.code ({ cls := "java/util/Map", name := "copyOf", desc := "(Ljava/util/Map;)Ljava/util/Map;" } : Jvm.MethodName) jdk_72_method_39_code (1 : Nat) (Option.some (Jvm.ClassFile.FieldType.object "java/util/Map"))).before args0 about1 = true := code_word (m := ⟨4, 1⟩) (meth := k4m1) (c := k4c1) (by decide +kernel) rfl rfl rfl (by decide +kernel)
def codes1 : List Jvm.Cond := [Jvm.Cond.code x code maxLocals ret, Jvm.Cond.code ({ cls := "com/example/memo3/memo3/protocol/Command", name := "<init>", desc := "(IIILjava/lang/String;Ljava/util/Map;[B)V" } : Jvm.MethodName) prog_27_method_1_code (7 : Nat) (Option.none : Option Jvm.ClassFile.FieldType), Jvm.Cond.code ({ cls := "java/lang/Record", name := "<init>", desc := "()V" } : Jvm.MethodName) jdk_30_method_1_code (1 : Nat) (Option.none : Option Jvm.ClassFile.FieldType), Jvm.Cond.code ({ cls := "java/lang/Object", name := "<init>", desc := "()V" } : Jvm.MethodName) object_method_1_code (1 : Nat) (Option.none : Option Jvm.ClassFile.FieldType), Jvm.Cond.code ({ cls := "java/util/Map", name := "of", desc := "()Ljava/util/Map;" } : Jvm.MethodName) jdk_72_method_26_code (0 : Nat) (Option.some (Jvm.ClassFile.FieldType.object "java/util/Map")), Jvm.Cond.code ({ cls := "com/example/memo3/memo3/protocol/Command", name := "isResponse", desc := "()Z" } : Jvm.MethodName) prog_27_method_6_code (1 : Nat) (Option.some Jvm.ClassFile.FieldType.boolean), Jvm.Cond.code ({ cls := "com/example/memo3/memo3/protocol/Command", name := "request", desc := "(ILjava/util/Map;)Lcom/example/memo3/memo3/protocol/Command;" } : Jvm.MethodName) prog_27_method_2_code (2 : Nat) (Option.some (Jvm.ClassFile.FieldType.object "com/example/memo3/memo3/protocol/Command")), Jvm.Cond.code ({ cls := "com/example/memo3/memo3/protocol/Command", name := "request", desc := "(ILjava/util/Map;[B)Lcom/example/memo3/memo3/protocol/Command;" } : Jvm.MethodName) prog_27_method_3_code (3 : Nat) (Option.some (Jvm.ClassFile.FieldType.object "com/example/memo3/memo3/protocol/Command")), Jvm.Cond.code ({ cls := "com/example/memo3/memo3/protocol/Command", name := "response", desc := "(ILjava/lang/String;)Lcom/example/memo3/memo3/protocol/Command;" } : Jvm.MethodName) prog_27_method_4_code (2 : Nat) (Option.some (Jvm.ClassFile.FieldType.object "com/example/memo3/memo3/protocol/Command")), Jvm.Cond.code ({ cls := "com/example/memo3/memo3/protocol/Command", name := "answering", desc := "(Lcom/example/memo3/memo3/protocol/Command;)Lcom/example/memo3/memo3/protocol/Command;" } : Jvm.MethodName) prog_27_method_8_code (2 : Nat) (Option.some (Jvm.ClassFile.FieldType.object "com/example/memo3/memo3/protocol/Command")), Jvm.Cond.code ({ cls := "com/example/memo3/memo3/protocol/Command", name := "opaque", desc := "()I" } : Jvm.MethodName) prog_27_method_20_code (1 : Nat) (Option.some Jvm.ClassFile.FieldType.int), Jvm.Cond.code ({ cls := "java/util/Map", name := "copyOf", desc := "(Ljava/util/Map;)Ljava/util/Map;" } : Jvm.MethodName) jdk_72_method_39_code (1 : Nat) (Option.some (Jvm.ClassFile.FieldType.object "java/util/Map"))]
set_option maxRecDepth 65536 in
theorem codes_eq : words1.filter isCode = codes1 := rfl
theorem w_codes : ∀ c ∈ words1.filter isCode, c.before args0 about1 = true := by
  rw [codes_eq]
  intro c hc
  simp only [codes1, List.mem_cons, List.not_mem_nil, or_false] at hc
  rcases hc with rfl | rfl | rfl | rfl | rfl | rfl | rfl | rfl | rfl | rfl | rfl | rfl
  · exact w_c0
  · exact w_c1
  · exact w_c2
  · exact w_c3
  · exact w_c4
  · exact w_c5
  · exact w_c6
  · exact w_c7
  · exact w_c8
  · exact w_c9
  · exact w_c10
  · exact w_c11
set_option maxRecDepth 65536 in
theorem w_t1 : (words1.take 24).all (fun c => isCode c || c.before args0 about1) = true := by decide +kernel
set_option maxRecDepth 65536 in
theorem w_t2 : ((words1.drop 24).take 24).all (fun c => isCode c || c.before args0 about1) = true := by decide +kernel
set_option maxRecDepth 65536 in
theorem w_t3 : ((words1.drop 24).drop 24).all (fun c => isCode c || c.before args0 about1) = true := by decide +kernel
theorem w_tables : (allAtoms (Jvm.Cond.code x code maxLocals ret :: tables_1)).before args0 about1 = true := by
  rw [allAtoms_all]
  show words1.all (fun c => c.before args0 about1) = true
  refine all_split ?_ w_codes
  rw [← List.take_append_drop 24 words1, List.all_append, w_t1, ← List.take_append_drop 24 (words1.drop 24), List.all_append, w_t2, w_t3]
  rfl
set_option maxRecDepth 65536 in
theorem w_rest : rest_1_c.before args0 about1 = true := by decide +kernel
set_option maxRecDepth 65536 in
theorem w_case : (Jvm.Cond.and given_1 narrow_1).before args0 about1 = true := by decide +kernel
theorem w_applies : (headSpec (Jvm.Cond.code x code maxLocals ret :: tables_1) room_1).applies x e0.platform about1 = true :=
  (Spec.applies_iff w_frames).mpr ⟨w_running, w_runnable, w_alone, w_named, w_hears, w_ripe, w_room, w_tables⟩
theorem atStart : AtStart classFile x code maxLocals ret World_1 tables_1 room_1 Calls_1 rest_1 Pre_1 launch0 p0 e0 about1 theMethod args0 below0 :=
  ⟨lists_1, trivial, launch0.admits_env _ _ _, launch0.least_env, fairChoices_fair.cas, fairChoices_fair.clock, w_frames, w_args, w_heap, w_applies, trivial, w_rest, w_case⟩
end start1
theorem witness_1 : WitnessClaimed_1 := ⟨start1.p0, start1.e0, start1.about1, start1.theMethod, start1.args0, start1.below0, start1.atStart⟩
end Jvm.Pilot.@@N@@
