import JvmDerived
import JvmDerived.Pilot.@@N@@Statement
import JvmDerived.Pilot.@@N@@Code
set_option linter.unusedVariables false
set_option linter.unusedSimpArgs false
namespace Jvm.Pilot.@@N@@
open Jvm Jvm.ClassFile Sem Op Lib Jvm.Free Jvm.Stand Jvm.LawKit Jvm.RoadKit Bundle Jvm.Pilot.@@N@@.Jvm.D
section OwnKit
variable {p : Program} {l : Launch} {e : Env} {R : Room} {s : State} {m : MethodId} {args : Array Value} {below : List Frame} {meth : Method} {c : Code} {T : State} {locs : List Loc} {cells slots : Nat}
/-- from S the run comes to an end that Φ takes -/
def own_G (tb : Tables) (e : Env) (below : List Frame) (Φ : State → Outcome → Prop) (S : State) : Prop := ∃ t o, Steps tb e below S t ∧ t.status = .running ∧ Ended t below o ∧ Φ t o
def own_E (s : State) (Q : Option Value → Heap → List Loc → Prop) (kc ks : Nat) : State → Outcome → Prop := fun t o => ∃ v L, o = .returned v ∧ Q v t.heap L ∧ FrameEnd s o t L kc ks
theorem own_st {tb : Tables} {Φ : State → Outcome → Prop} {S S' : State} (h : ∀ t, Steps tb e below S' t → Steps tb e below S t) (g : own_G tb e below Φ S') : own_G tb e below Φ S := by
  obtain ⟨t, o, a, b⟩ := g
  exact ⟨t, o, h t a, b⟩
theorem own_tr {tb : Tables} {Φ : State → Outcome → Prop} {S S' : State} (h : Steps tb e below S S') (g : own_G tb e below Φ S') : own_G tb e below Φ S := by
  obtain ⟨t, o, a, b⟩ := g
  exact ⟨t, o, h.trans a, b⟩
theorem own_in {s₁ : State} (kc ks : Nat) (Q : Option Value → Heap → List Loc → Prop) {mL : Nat} {g : JFrame} (ef : entryFrame m args mL = g) (k : own_G p.tables e below (own_E s Q kc ks) (s₁.setTop g)) :
    ∃ s₂ o, Steps p.tables e below (s₁.setTop (entryFrame m args mL)) s₂ ∧ s₂.status = .running ∧ Ended s₂ below o ∧ ∃ v L, o = .returned v ∧ Q v s₂.heap L ∧ FrameEnd s o s₂ L kc ks := by
  rw [ef]
  exact k
theorem own_retI0 (X : Stand p l e R s m args below meth c T locs cells slots) (hx : p.tables.exec = Jvm.exec) {pc : Nat} {Ls : Array Slot} {z : Int32} {rest : List Value} (hret : meth.sig.returnType = some .int) (hd : decode c.code pc = .ok (.ireturn, 1)) {fs : List Frame}
    (hl : ∀ (f : JFrame) (acts : List Action), f.method = m → f.locked = none → f.entered = [] → (doReturn e (T.setTop f) acts (some (.int z))).1 = T.setFrames fs) : Steps p.tables e below (T.setTop (mkF m pc Ls (.int z :: rest))) (T.setFrames fs) :=
  retOut X hx hret rfl (Or.inl ⟨rfl, Or.inl rfl, z, rfl⟩) hd hl
theorem own_retI (X : Stand p l e R s m args below meth c T locs cells slots) (hx : p.tables.exec = Jvm.exec) (hlk : meth.locks = false) {pc : Nat} {Ls : Array Slot} {z : Int32} {rest : List Value} (hret : meth.sig.returnType = some .int) (hd : decode c.code pc = .ok (.ireturn, 1))
    {Q : Option Value → Heap → List Loc → Prop} {kc ks : Nat} (hc : cells ≤ kc) (hs : slots ≤ ks) (q : Q (some (.int z)) T.heap locs) : own_G p.tables e below (own_E s Q kc ks) (T.setTop (mkF m pc Ls (.int z :: rest))) := by
  obtain ⟨fs, hr, hrun, hended, hW, hsame⟩ := X.leave (v := some (.int z)) (fun h => by rw [hret] at h; cases h)
  exact ⟨_, _, own_retI0 X hx hret hd hr, hrun, hended, _, _, rfl, q, ⟨_, rfl⟩, hW, hsame.mono hc hs⟩
theorem own_retN (X : Stand p l e R s m args below meth c T locs cells slots) (hx : p.tables.exec = Jvm.exec) (hlk : meth.locks = false) {pc : Nat} {Ls : Array Slot} {z : Int32} {t : FieldType} {rest : List Value} (hret : meth.sig.returnType = some t) (ht : t = .boolean ∨ t = .byte ∨ t = .char ∨ t = .short) (hd : decode c.code pc = .ok (.ireturn, 1))
    {Q : Option Value → Heap → List Loc → Prop} {kc ks : Nat} (hc : cells ≤ kc) (hs : slots ≤ ks) {v' : Int32} (hv : nar t z = v') (q : Q (some (.int v')) T.heap locs) : own_G p.tables e below (own_E s Q kc ks) (T.setTop (mkF m pc Ls (.int z :: rest))) := by
  subst hv
  obtain ⟨fs, hr, hrun, hended, hW, hsame⟩ := X.leave (v := some (.int (nar t z))) (fun h => by rw [hret] at h; cases h)
  exact ⟨_, _, retN X hx hret ht hd hr, hrun, hended, _, _, rfl, q, ⟨_, rfl⟩, hW, hsame.mono hc hs⟩
theorem own_retA (X : Stand p l e R s m args below meth c T locs cells slots) (hx : p.tables.exec = Jvm.exec) (hlk : meth.locks = false) {pc : Nat} {Ls : Array Slot} {w : Value} {t : FieldType} {rest : List Value} (hret : meth.sig.returnType = some t) (ht : t.isReference = true) (hw : w.isRef = true) (hd : decode c.code pc = .ok (.areturn, 1))
    {Q : Option Value → Heap → List Loc → Prop} {kc ks : Nat} (hc : cells ≤ kc) (hs : slots ≤ ks) (q : Q (some w) T.heap locs) : own_G p.tables e below (own_E s Q kc ks) (T.setTop (mkF m pc Ls (w :: rest))) := by
  obtain ⟨fs, hr, hrun, hended, hW, hsame⟩ := X.leave (v := some w) (fun h => by rw [hret] at h; cases h)
  have hn : narrow t w = w := by rcases ref_cases hw with rfl | ⟨a, rfl⟩ <;> cases t <;> rfl
  exact ⟨_, _, retOut X hx hret hn (Or.inr (Or.inr (Or.inr (Or.inr ⟨rfl, ht, hw⟩)))) hd hr, hrun, hended, _, _, rfl, q, ⟨_, rfl⟩, hW, hsame.mono hc hs⟩
theorem own_retJ (X : Stand p l e R s m args below meth c T locs cells slots) (hx : p.tables.exec = Jvm.exec) (hlk : meth.locks = false) {pc : Nat} {Ls : Array Slot} {z : Int64} {rest : List Value} (hret : meth.sig.returnType = some .long) (hd : decode c.code pc = .ok (.lreturn, 1))
    {Q : Option Value → Heap → List Loc → Prop} {kc ks : Nat} (hc : cells ≤ kc) (hs : slots ≤ ks) (q : Q (some (.long z)) T.heap locs) : own_G p.tables e below (own_E s Q kc ks) (T.setTop (mkF m pc Ls (.long z :: rest))) := by
  obtain ⟨fs, hr, hrun, hended, hW, hsame⟩ := X.leave (v := some (.long z)) (fun h => by rw [hret] at h; cases h)
  exact ⟨_, _, retOut X hx hret rfl (Or.inr (Or.inl ⟨rfl, rfl, z, rfl⟩)) hd hr, hrun, hended, _, _, rfl, q, ⟨_, rfl⟩, hW, hsame.mono hc hs⟩
theorem own_retV (X : Stand p l e R s m args below meth c T locs cells slots) (hx : p.tables.exec = Jvm.exec) (hlk : meth.locks = false) {pc : Nat} {Ls : Array Slot} (hret : meth.sig.returnType = none) (hd : decode c.code pc = .ok (.return_, 1))
    {Q : Option Value → Heap → List Loc → Prop} {kc ks : Nat} (hc : cells ≤ kc) (hs : slots ≤ ks) (q : Q none T.heap locs) : own_G p.tables e below (own_E s Q kc ks) (T.setTop (mkF m pc Ls [])) := by
  obtain ⟨fs, hr, hrun, hended, hW, hsame⟩ := X.leave (v := none) (fun _ => rfl)
  exact ⟨_, _, X.returnOut hx hret hd hr, hrun, hended, _, _, rfl, q, ⟨_, rfl⟩, hW, hsame.mono hc hs⟩
end OwnKit
theorem own_cat {v : Value} (h : v.isRef = true) : v.category = 1 := by cases v <;> first | rfl | (simp [Value.isRef] at h)
theorem own_i32 {a b : Int32} (h : a.toInt = b.toInt) : a = b := Int32.toInt_inj.mp h
theorem own_i64 {a b : Int64} (h : a.toInt = b.toInt) : a = b := Int64.toInt_inj.mp h
/-- (x & 0x7fffffff) % d lies from 0 to d - 1 -/
theorem own_mod (x y : Int32) (d : Int) (hy : y.toInt = d) (hd : 0 < d) : 0 ≤ ((x &&& 2147483647) % y).toInt ∧ ((x &&& 2147483647) % y).toInt < d ∧ ((x &&& 2147483647) % y).toInt = (x.toInt % 2147483648) % d := by
  have h1 := c_mask x 2147483647 31 (by decide) (by decide)
  have h2 := (c_irem (x &&& 2147483647) y d hy).1 (by rw [h1]; omega)
  rw [h2, h1]
  refine ⟨Int.emod_nonneg _ (by omega), Int.emod_lt_of_pos _ hd, rfl⟩
theorem own_inb0 {x : Int32} {d : Int} (h : 0 ≤ x.toInt ∧ x.toInt < d) (hd : d ≤ 8) : ¬ x < 0 ∧ x < (8 : Int32) := by
  have e0 : (0 : Int32).toInt = 0 := by decide
  have e8 : (8 : Int32).toInt = 8 := by decide
  rw [Int32.lt_iff_toInt_lt, Int32.lt_iff_toInt_lt, e0, e8]
  omega
theorem own_inb {x : Int32} {d : Int} (h : 0 ≤ x.toInt ∧ x.toInt < d) (c : Int32) (hc : 0 ≤ c.toInt ∧ d + c.toInt ≤ 8) : ¬ (x + c) < 0 ∧ (x + c) < (8 : Int32) := by
  have h1 := c_iadd x c
  have h2 := rng32 (x + c)
  have e0 : (0 : Int32).toInt = 0 := by decide
  have e8 : (8 : Int32).toInt = 8 := by decide
  rw [Int32.lt_iff_toInt_lt, Int32.lt_iff_toInt_lt, e0, e8]
  omega
theorem own_ixL (x w i o : Int32) (h : w.toInt - 1 - i.toInt = o.toInt) (hw : 0 ≤ w.toInt ∧ w.toInt < 100) (hi : 0 ≤ i.toInt ∧ i.toInt < 100) : ((x + w) - 1) - i = x + o := by
  have h1 := c_iadd x w
  have h2 := c_isub (x + w) 1
  have h3 := c_isub ((x + w) - 1) i
  have h4 := c_iadd x o
  have r1 := rng32 (((x + w) - 1) - i)
  have r2 := rng32 (x + o)
  have e1 : (1 : Int32).toInt = 1 := by decide
  refine own_i32 ?_
  omega
theorem own_add0 (x : Int32) : x + 0 = x := by
  have h1 := c_iadd x 0
  have r1 := rng32 (x + 0)
  have r2 := rng32 x
  have e1 : (0 : Int32).toInt = 0 := by decide
  refine own_i32 ?_
  omega
theorem own_tab {Z : State} {h : Heap} {a : Addr} {k : ClassId} {ty : FieldType} {z : Int32} {vs : List Value} {d : Int32} (F : Arv Z h a k ty z vs (.int d)) (hv : ∀ i, ∃ x, vs.getD i (.int d) = .int x) : ∃ c, Tab Z h a c ty z := by
  obtain ⟨c, A, -, S, M, H, -⟩ := F
  refine ⟨c, A, S, M, fun j hj => ?_⟩
  obtain ⟨x, hx⟩ := hv j.toNatClampNeg
  have e := (H j.toNatClampNeg (Nat.lt_of_not_le fun q => hj (Or.inr q))).trans (congrArg some hx)
  rw [atv_of e]
  exact e
theorem own_shl8 (x y : Int32) : (x ||| y) <<< ((8 : Int32) &&& 31) = (x <<< ((8 : Int32) &&& 31)) ||| (y <<< ((8 : Int32) &&& 31)) := by
  apply Int32.toBitVec_inj.mp
  show (x.toBitVec ||| y.toBitVec) <<< 8 = (x.toBitVec <<< 8) ||| (y.toBitVec <<< 8)
  exact BitVec.shiftLeft_or_distrib _ _ _
theorem own_shl16 (x : Int32) : (x <<< ((8 : Int32) &&& 31)) <<< ((8 : Int32) &&& 31) = x <<< ((16 : Int32) &&& 31) := by
  apply Int32.toBitVec_inj.mp
  show (x.toBitVec <<< 8) <<< 8 = x.toBitVec <<< 16
  rw [← BitVec.shiftLeft_add]
theorem own_shl24 (x : Int32) : (x <<< ((8 : Int32) &&& 31)) <<< ((16 : Int32) &&& 31) = x <<< ((24 : Int32) &&& 31) := by
  apply Int32.toBitVec_inj.mp
  show (x.toBitVec <<< 8) <<< 16 = x.toBitVec <<< 24
  rw [← BitVec.shiftLeft_add]
theorem own_or0 (x : Int32) : (0 : Int32) ||| x = x := by
  apply Int32.toBitVec_inj.mp
  show 0#32 ||| x.toBitVec = x.toBitVec
  simp
theorem own_eq2 (a b : Int32) : (((0 : Int32) ||| a) <<< ((8 : Int32) &&& 31)) ||| b = (a <<< ((8 : Int32) &&& 31)) ||| b := by rw [own_or0]
theorem own_eq4 (a b c d : Int32) : ((((((0 : Int32) ||| a) <<< ((8 : Int32) &&& 31) ||| b) <<< ((8 : Int32) &&& 31)) ||| c) <<< ((8 : Int32) &&& 31)) ||| d = (((a <<< ((24 : Int32) &&& 31)) ||| (b <<< ((16 : Int32) &&& 31))) ||| (c <<< ((8 : Int32) &&& 31))) ||| d := by
  rw [own_or0, own_shl8, own_shl8, own_shl8, own_shl16, own_shl16, own_shl24]
theorem own_mod6 (x : Int32) : (x &&& 2147483647) % 6 = (0 : Int32) ∨ (x &&& 2147483647) % 6 = (1 : Int32) ∨ (x &&& 2147483647) % 6 = (2 : Int32) ∨ (x &&& 2147483647) % 6 = (3 : Int32) ∨ (x &&& 2147483647) % 6 = (4 : Int32) ∨ (x &&& 2147483647) % 6 = (5 : Int32) := by
  have h := own_mod x 6 6 (by decide) (by decide)
  have : ((x &&& 2147483647) % 6).toInt = 0 ∨ ((x &&& 2147483647) % 6).toInt = 1 ∨ ((x &&& 2147483647) % 6).toInt = 2 ∨ ((x &&& 2147483647) % 6).toInt = 3 ∨ ((x &&& 2147483647) % 6).toInt = 4 ∨ ((x &&& 2147483647) % 6).toInt = 5 := by omega
  rcases this with h | h | h | h | h | h
  · exact Or.inl (own_i32 (h.trans (by decide)))
  · exact Or.inr (Or.inl (own_i32 (h.trans (by decide))))
  · exact Or.inr (Or.inr (Or.inl (own_i32 (h.trans (by decide)))))
  · exact Or.inr (Or.inr (Or.inr (Or.inl (own_i32 (h.trans (by decide))))))
  · exact Or.inr (Or.inr (Or.inr (Or.inr (Or.inl (own_i32 (h.trans (by decide)))))))
  · exact Or.inr (Or.inr (Or.inr (Or.inr (Or.inr (own_i32 (h.trans (by decide)))))))
theorem d1_0 : decode method_2_code 0 = .ok (.aload_n 0, 1) := by decide +kernel
theorem d1_1 : decode method_2_code 1 = .ok (.iload_n 1, 1) := by decide +kernel
theorem d1_2 : decode method_2_code 2 = .ok (.baload, 1) := by decide +kernel
theorem d1_3 : decode method_2_code 3 = .ok (.sipush 255, 3) := by decide +kernel
theorem d1_6 : decode method_2_code 6 = .ok (.iand, 1) := by decide +kernel
theorem d1_7 : decode method_2_code 7 = .ok (.ireturn, 1) := by decide +kernel
theorem pn_1 : plainName "com/example/provenir/provenir/TextEncodingUnitAtPinLaw" = true := by first | (simp [plainName, overriddenIn]; done) | decide +kernel
theorem ef_u (m : MethodId) (x0 : Addr) (x1 : Int32) : entryFrame m #[(.ref x0), (.int x1)] 2 = mkF m 0 #[.val (.ref x0), .val (.int x1)] [] := by first | (simp [entryFrame, mkF, argsToLocals, Value.category]; done) | rfl
def Q_u (Z : State) (a1 : Addr) (cB : Cell) (j : Int32) (h0 : Heap) (n0 : Nat) (v : Option Value) (h : Heap) (L : List Loc) : Prop := v = some (.int ((atv cB j) &&& (255 : Int32))) ∧ Fr n0 L ∧ h = h0
set_option maxRecDepth 65536 in
set_option maxHeartbeats 40000000 in
theorem rm_u (l : Launch) (Z : State) (a0 : Array Value) (hw : ∀ d ∈ tables_1, d.before a0 Z = true) (ws : List Jvm.Cond) (a1 : Addr) (cB : Cell) (j : Int32) (h0 : Heap) (n0 : Nat) (Z0 : n0 ≤ h0.size) (Tb : Tab Z h0 a1 cB .byte (8 : Int32)) (hin : ¬ j < 0 ∧ j < (8 : Int32)) :
    MetFree l (⟨"com/example/provenir/provenir/TextEncodingUnitAtPinLaw", "u", "([BI)I"⟩ : MethodName) (head1 (Jvm.Cond.code (⟨"com/example/provenir/provenir/TextEncodingUnitAtPinLaw", "u", "([BI)I"⟩ : MethodName) method_2_code 2 (some .int) :: ws) ({ frames := 0, cells := 0, slots := 0, locals := 0 } : Room)) (fun a U => a = #[(.ref a1), (.int j)] ∧ Z.Warmed39 U.vm ∧ U.heap = h0) (fun _ _ _ _ _ => True) (fun _ U o U' => ∃ v L, o = .returned v ∧ Q_u Z a1 cB j h0 n0 v U'.heap L ∧ FrameEnd U o U' L ({ frames := 0, cells := 0, slots := 0, locals := 0 } : Room).cells ({ frames := 0, cells := 0, slots := 0, locals := 0 } : Room).slots) := by
  refine MetFree.of_bodySF (plainFor_of_name pn_1) hisR ?_
  intro p e s m args below meth c s₁ Bd hml0 hP hK
  obtain ⟨rfl, hZ, hh⟩ := hP
  have hx := Bd.exec
  have hby := Bd.bytes
  have hml : c.maxLocals = 2 := hml0
  have hown : s.vm.findClass "com/example/provenir/provenir/TextEncodingUnitAtPinLaw" = some m.cls := findClass_of_methodNamed Bd.named
  have hnm := (name_of_methodNamed Bd.named Bd.method).1
  have hlk := Bd.notSynchronized
  have hret := Bd.returns
  have X0 : Stand p l e ({ frames := 0, cells := 0, slots := 0, locals := 0 } : Room) s m #[(.ref a1), (.int j)] below meth c s₁ [] 0 0 := Stand.of_body Bd
  have e0 : s₁.heap = h0 := by rw [← hh, Bd.state]; rfl
  have N0 := Fr.nil n0
  refine own_in ({ frames := 0, cells := 0, slots := 0, locals := 0 } : Room).cells ({ frames := 0, cells := 0, slots := 0, locals := 0 } : Room).slots (Q_u Z a1 cB j h0 n0) (ef_u m a1 j) ?_
  show own_G p.tables e below _ (s₁.setTop (mkF m 0 #[.val (.ref a1), .val (.int j)] []))
  refine own_st (fun _ kS => XS.aloadN X0.here hx rfl (hb hby d1_0) rfl rfl kS) ?_
  show own_G p.tables e below _ (s₁.setTop (mkF m 1 #[.val (.ref a1), .val (.int j)] [(.ref a1)]))
  refine own_st (fun _ kS => XS.iloadN X0.here hx rfl (hb hby d1_1) rfl kS) ?_
  show own_G p.tables e below _ (s₁.setTop (mkF m 2 #[.val (.ref a1), .val (.int j)] [(.int j), (.ref a1)]))
  have ib1 : ¬ (j < 0 ∨ cB.slots.size ≤ (j).toNatClampNeg) := inb_of Tb.2.1 hin
  refine own_st (fun _ kS => X0.baloadBytes hx (j := j) (v := (.int (atv cB j))) (by rw [e0]; exact Tb.1.1) (State.isArrayOf_alike hZ.alike Tb.1.2.1) Tb.1.2.2 ib1 (Tb.2.2.2 _ ib1) (g := (mkF m 2 #[.val (.ref a1), .val (.int j)] [(.int j), (.ref a1)])) rfl rfl (hb hby d1_2) _ kS) ?_
  show own_G p.tables e below _ (s₁.setTop (mkF m 3 #[.val (.ref a1), .val (.int j)] [(.int (atv cB j))]))
  refine own_st (fun _ kS => XS.sipush X0.here hx rfl (hb hby d1_3) kS) ?_
  show own_G p.tables e below _ (s₁.setTop (mkF m 6 #[.val (.ref a1), .val (.int j)] [(.int (255 : Int32)), (.int (atv cB j))]))
  refine own_st (fun _ kS => XS.iand X0.here hx rfl (hb hby d1_6) rfl kS) ?_
  show own_G p.tables e below _ (s₁.setTop (mkF m 7 #[.val (.ref a1), .val (.int j)] [(.int ((atv cB j) &&& (255 : Int32)))]))
  exact own_retI X0 hx hlk hret (hb hby d1_7) (by decide) (by decide) (by rw [e0]; exact ⟨rfl, N0, rfl⟩)
theorem d2_0 : decode prog_73_method_8_code 0 = .ok (.aload_n 0, 1) := by decide +kernel
theorem d2_1 : decode prog_73_method_8_code 1 = .ok (.getfield 41, 3) := by decide +kernel
theorem d2_4 : decode prog_73_method_8_code 4 = .ok (.iconst 1, 1) := by decide +kernel
theorem d2_5 : decode prog_73_method_8_code 5 = .ok (.if_icmp .ne 14, 3) := by decide +kernel
theorem d2_8 : decode prog_73_method_8_code 8 = .ok (.aload_n 1, 1) := by decide +kernel
theorem d2_9 : decode prog_73_method_8_code 9 = .ok (.iload_n 2, 1) := by decide +kernel
theorem d2_10 : decode prog_73_method_8_code 10 = .ok (.baload, 1) := by decide +kernel
theorem d2_11 : decode prog_73_method_8_code 11 = .ok (.sipush 255, 3) := by decide +kernel
theorem d2_14 : decode prog_73_method_8_code 14 = .ok (.iand, 1) := by decide +kernel
theorem d2_15 : decode prog_73_method_8_code 15 = .ok (.istore_n 3, 1) := by decide +kernel
theorem d2_16 : decode prog_73_method_8_code 16 = .ok (.goto 60, 3) := by decide +kernel
theorem d2_19 : decode prog_73_method_8_code 19 = .ok (.iconst 0, 1) := by decide +kernel
theorem d2_20 : decode prog_73_method_8_code 20 = .ok (.istore_n 3, 1) := by decide +kernel
theorem d2_21 : decode prog_73_method_8_code 21 = .ok (.iconst 0, 1) := by decide +kernel
theorem d2_22 : decode prog_73_method_8_code 22 = .ok (.istore 4, 2) := by decide +kernel
theorem d2_24 : decode prog_73_method_8_code 24 = .ok (.iload 4, 2) := by decide +kernel
theorem d2_26 : decode prog_73_method_8_code 26 = .ok (.aload_n 0, 1) := by decide +kernel
theorem d2_27 : decode prog_73_method_8_code 27 = .ok (.getfield 41, 3) := by decide +kernel
theorem d2_30 : decode prog_73_method_8_code 30 = .ok (.if_icmp .ge 46, 3) := by decide +kernel
theorem d2_33 : decode prog_73_method_8_code 33 = .ok (.iload_n 3, 1) := by decide +kernel
theorem d2_34 : decode prog_73_method_8_code 34 = .ok (.bipush 8, 2) := by decide +kernel
theorem d2_36 : decode prog_73_method_8_code 36 = .ok (.ishl, 1) := by decide +kernel
theorem d2_37 : decode prog_73_method_8_code 37 = .ok (.aload_n 1, 1) := by decide +kernel
theorem d2_38 : decode prog_73_method_8_code 38 = .ok (.aload_n 0, 1) := by decide +kernel
theorem d2_39 : decode prog_73_method_8_code 39 = .ok (.getfield 45, 3) := by decide +kernel
theorem d2_42 : decode prog_73_method_8_code 42 = .ok (.ifCond .eq 17, 3) := by decide +kernel
theorem d2_45 : decode prog_73_method_8_code 45 = .ok (.iload_n 2, 1) := by decide +kernel
theorem d2_46 : decode prog_73_method_8_code 46 = .ok (.aload_n 0, 1) := by decide +kernel
theorem d2_47 : decode prog_73_method_8_code 47 = .ok (.getfield 41, 3) := by decide +kernel
theorem d2_50 : decode prog_73_method_8_code 50 = .ok (.iadd, 1) := by decide +kernel
theorem d2_51 : decode prog_73_method_8_code 51 = .ok (.iconst 1, 1) := by decide +kernel
theorem d2_52 : decode prog_73_method_8_code 52 = .ok (.isub, 1) := by decide +kernel
theorem d2_53 : decode prog_73_method_8_code 53 = .ok (.iload 4, 2) := by decide +kernel
theorem d2_55 : decode prog_73_method_8_code 55 = .ok (.isub, 1) := by decide +kernel
theorem d2_56 : decode prog_73_method_8_code 56 = .ok (.goto 7, 3) := by decide +kernel
theorem d2_59 : decode prog_73_method_8_code 59 = .ok (.iload_n 2, 1) := by decide +kernel
theorem d2_60 : decode prog_73_method_8_code 60 = .ok (.iload 4, 2) := by decide +kernel
theorem d2_62 : decode prog_73_method_8_code 62 = .ok (.iadd, 1) := by decide +kernel
theorem d2_63 : decode prog_73_method_8_code 63 = .ok (.baload, 1) := by decide +kernel
theorem d2_64 : decode prog_73_method_8_code 64 = .ok (.sipush 255, 3) := by decide +kernel
theorem d2_67 : decode prog_73_method_8_code 67 = .ok (.iand, 1) := by decide +kernel
theorem d2_68 : decode prog_73_method_8_code 68 = .ok (.ior, 1) := by decide +kernel
theorem d2_69 : decode prog_73_method_8_code 69 = .ok (.istore_n 3, 1) := by decide +kernel
theorem d2_70 : decode prog_73_method_8_code 70 = .ok (.iinc 4 1, 3) := by decide +kernel
theorem d2_73 : decode prog_73_method_8_code 73 = .ok (.goto (-49), 3) := by decide +kernel
theorem d2_76 : decode prog_73_method_8_code 76 = .ok (.iload_n 3, 1) := by decide +kernel
theorem d2_77 : decode prog_73_method_8_code 77 = .ok (.ireturn, 1) := by decide +kernel
theorem pn_2 : plainName "com/example/provenir/provenir/TextEncoding" = true := by first | (simp [plainName, overriddenIn]; done) | decide +kernel
theorem ef_unitAt_1_0 (m : MethodId) (x0 : Addr) (x1 : Addr) (x2 : Int32) : entryFrame m #[(.ref x0), (.ref x1), (.int x2)] 5 = mkF m 0 #[.val (.ref x0), .val (.ref x1), .val (.int x2), .unset, .unset] [] := by first | (simp [entryFrame, mkF, argsToLocals, Value.category]; done) | rfl
def Q_unitAt_1_0 (Z : State) (a1 : Addr) (a2 : Addr) (cB : Cell) (at1 : Int32) (h0 : Heap) (n0 : Nat) (v : Option Value) (h : Heap) (L : List Loc) : Prop := v = some (.int ((atv cB at1) &&& (255 : Int32))) ∧ Fr n0 L ∧ h = h0
set_option maxRecDepth 65536 in
set_option maxHeartbeats 40000000 in
theorem rm_unitAt_1_0 (l : Launch) (Z : State) (a0 : Array Value) (hw : ∀ d ∈ tables_1, d.before a0 Z = true) (ws : List Jvm.Cond) (a1 : Addr) (a2 : Addr) (cB : Cell) (at1 : Int32) (h0 : Heap) (n0 : Nat) (Z0 : n0 ≤ h0.size) (O0 : Old Z n0 h0) (Fw : Fld Z Z.heap a1 "com/example/provenir/provenir/TextEncoding" "width" "I" (.int (1 : Int32))) (Tb : Tab Z h0 a2 cB .byte (8 : Int32)) (hbn : 0 ≤ at1.toInt ∧ at1.toInt < 8) :
    MetFree l (⟨"com/example/provenir/provenir/TextEncoding", "unitAt", "([BI)I"⟩ : MethodName) (head1 (Jvm.Cond.code (⟨"com/example/provenir/provenir/TextEncoding", "unitAt", "([BI)I"⟩ : MethodName) prog_73_method_8_code 5 (some .int) :: ws) ({ frames := 0, cells := 0, slots := 0, locals := 0 } : Room)) (fun a U => a = #[(.ref a1), (.ref a2), (.int at1)] ∧ Z.Warmed39 U.vm ∧ U.heap = h0) (fun _ _ _ _ _ => True) (fun _ U o U' => ∃ v L, o = .returned v ∧ Q_unitAt_1_0 Z a1 a2 cB at1 h0 n0 v U'.heap L ∧ FrameEnd U o U' L ({ frames := 0, cells := 0, slots := 0, locals := 0 } : Room).cells ({ frames := 0, cells := 0, slots := 0, locals := 0 } : Room).slots) := by
  refine MetFree.of_bodySF (plainFor_of_name pn_2) hisR ?_
  intro p e s m args below meth c s₁ Bd hml0 hP hK
  obtain ⟨rfl, hZ, hh⟩ := hP
  have hx := Bd.exec
  have hby := Bd.bytes
  have hml : c.maxLocals = 5 := hml0
  have hown : s.vm.findClass "com/example/provenir/provenir/TextEncoding" = some m.cls := findClass_of_methodNamed Bd.named
  have hnm := (name_of_methodNamed Bd.named Bd.method).1
  have hlk := Bd.notSynchronized
  have hret := Bd.returns
  have X0 : Stand p l e ({ frames := 0, cells := 0, slots := 0, locals := 0 } : Room) s m #[(.ref a1), (.ref a2), (.int at1)] below meth c s₁ [] 0 0 := Stand.of_body Bd
  have e0 : s₁.heap = h0 := by rw [← hh, Bd.state]; rfl
  have N0 := Fr.nil n0
  refine own_in ({ frames := 0, cells := 0, slots := 0, locals := 0 } : Room).cells ({ frames := 0, cells := 0, slots := 0, locals := 0 } : Room).slots (Q_unitAt_1_0 Z a1 a2 cB at1 h0 n0) (ef_unitAt_1_0 m a1 a2 at1) ?_
  show own_G p.tables e below _ (s₁.setTop (mkF m 0 #[.val (.ref a1), .val (.ref a2), .val (.int at1), .unset, .unset] []))
  refine own_st (fun _ kS => XS.aloadN X0.here hx rfl (hb hby d2_0) rfl rfl kS) ?_
  show own_G p.tables e below _ (s₁.setTop (mkF m 1 #[.val (.ref a1), .val (.ref a2), .val (.int at1), .unset, .unset] [(.ref a1)]))
  obtain ⟨T1, X1, e1, st1⟩ := getF X0 hx hZ hown (host := "") (Or.inl (hw _ (List.mem_of_getElem? (i := 14) rfl))) Via.refl e0 (Fld.ext O0.2 Fw) (g := (mkF m 1 #[.val (.ref a1), .val (.ref a2), .val (.int at1), .unset, .unset] [(.ref a1)])) rfl rfl (hb hby d2_1)
  refine own_st st1 ?_
  show own_G p.tables e below _ (T1.setTop (mkF m 4 #[.val (.ref a1), .val (.ref a2), .val (.int at1), .unset, .unset] [(.int (1 : Int32))]))
  refine own_st (fun _ kS => XS.iconst X1.here hx rfl (hb hby d2_4) kS) ?_
  show own_G p.tables e below _ (T1.setTop (mkF m 5 #[.val (.ref a1), .val (.ref a2), .val (.int at1), .unset, .unset] [(.int (1 : Int32)), (.int (1 : Int32))]))
  refine own_st (fun _ kS => XS.icmpNo X1.here hx rfl (hb hby d2_5) rfl (teq (by decide : (1 : Int32) = (1 : Int32))).2 kS) ?_
  show own_G p.tables e below _ (T1.setTop (mkF m 8 #[.val (.ref a1), .val (.ref a2), .val (.int at1), .unset, .unset] []))
  refine own_st (fun _ kS => XS.aloadN X1.here hx rfl (hb hby d2_8) rfl rfl kS) ?_
  show own_G p.tables e below _ (T1.setTop (mkF m 9 #[.val (.ref a1), .val (.ref a2), .val (.int at1), .unset, .unset] [(.ref a2)]))
  refine own_st (fun _ kS => XS.iloadN X1.here hx rfl (hb hby d2_9) rfl kS) ?_
  show own_G p.tables e below _ (T1.setTop (mkF m 10 #[.val (.ref a1), .val (.ref a2), .val (.int at1), .unset, .unset] [(.int at1), (.ref a2)]))
  have ib2 : ¬ (at1 < 0 ∨ cB.slots.size ≤ (at1).toNatClampNeg) := inb_of Tb.2.1 (own_inb0 hbn (by decide))
  refine own_st (fun _ kS => X1.baloadBytes hx (j := at1) (v := (.int (atv cB at1))) (by rw [e1]; exact Tb.1.1) (State.isArrayOf_alike hZ.alike Tb.1.2.1) Tb.1.2.2 ib2 (Tb.2.2.2 _ ib2) (g := (mkF m 10 #[.val (.ref a1), .val (.ref a2), .val (.int at1), .unset, .unset] [(.int at1), (.ref a2)])) rfl rfl (hb hby d2_10) _ kS) ?_
  show own_G p.tables e below _ (T1.setTop (mkF m 11 #[.val (.ref a1), .val (.ref a2), .val (.int at1), .unset, .unset] [(.int (atv cB at1))]))
  refine own_st (fun _ kS => XS.sipush X1.here hx rfl (hb hby d2_11) kS) ?_
  show own_G p.tables e below _ (T1.setTop (mkF m 14 #[.val (.ref a1), .val (.ref a2), .val (.int at1), .unset, .unset] [(.int (255 : Int32)), (.int (atv cB at1))]))
  refine own_st (fun _ kS => XS.iand X1.here hx rfl (hb hby d2_14) rfl kS) ?_
  show own_G p.tables e below _ (T1.setTop (mkF m 15 #[.val (.ref a1), .val (.ref a2), .val (.int at1), .unset, .unset] [(.int ((atv cB at1) &&& (255 : Int32)))]))
  refine own_st (fun _ kS => XS.istoreN X1.here hx rfl (hb hby d2_15) rfl (l' := #[.val (.ref a1), .val (.ref a2), .val (.int at1), .val (.int ((atv cB at1) &&& (255 : Int32))), .unset]) rfl kS) ?_
  show own_G p.tables e below _ (T1.setTop (mkF m 16 #[.val (.ref a1), .val (.ref a2), .val (.int at1), .val (.int ((atv cB at1) &&& (255 : Int32))), .unset] []))
  refine own_st (fun _ kS => XS.goto X1.here hx rfl (pc0 := 16) (pc' := 76) rfl (hb hby d2_16) (by decide) (by decide) kS) ?_
  show own_G p.tables e below _ (T1.setTop (mkF m 76 #[.val (.ref a1), .val (.ref a2), .val (.int at1), .val (.int ((atv cB at1) &&& (255 : Int32))), .unset] []))
  refine own_st (fun _ kS => XS.iloadN X1.here hx rfl (hb hby d2_76) rfl kS) ?_
  show own_G p.tables e below _ (T1.setTop (mkF m 77 #[.val (.ref a1), .val (.ref a2), .val (.int at1), .val (.int ((atv cB at1) &&& (255 : Int32))), .unset] [(.int ((atv cB at1) &&& (255 : Int32)))]))
  exact own_retI X1 hx hlk hret (hb hby d2_77) (by decide) (by decide) (by rw [e1]; exact ⟨rfl, N0, rfl⟩)
theorem ef_unitAt_4_0 (m : MethodId) (x0 : Addr) (x1 : Addr) (x2 : Int32) : entryFrame m #[(.ref x0), (.ref x1), (.int x2)] 5 = mkF m 0 #[.val (.ref x0), .val (.ref x1), .val (.int x2), .unset, .unset] [] := by first | (simp [entryFrame, mkF, argsToLocals, Value.category]; done) | rfl
def Q_unitAt_4_0 (Z : State) (a1 : Addr) (a2 : Addr) (cB : Cell) (at1 : Int32) (h0 : Heap) (n0 : Nat) (v : Option Value) (h : Heap) (L : List Loc) : Prop := v = some (.int ((((((((0 : Int32) ||| ((atv cB at1) &&& (255 : Int32))) <<< ((8 : Int32) &&& 31)) ||| ((atv cB (at1 + (1 : Int32))) &&& (255 : Int32))) <<< ((8 : Int32) &&& 31)) ||| ((atv cB (at1 + (2 : Int32))) &&& (255 : Int32))) <<< ((8 : Int32) &&& 31)) ||| ((atv cB (at1 + (3 : Int32))) &&& (255 : Int32)))) ∧ Fr n0 L ∧ h = h0
set_option maxRecDepth 65536 in
set_option maxHeartbeats 40000000 in
theorem rm_unitAt_4_0 (l : Launch) (Z : State) (a0 : Array Value) (hw : ∀ d ∈ tables_1, d.before a0 Z = true) (ws : List Jvm.Cond) (a1 : Addr) (a2 : Addr) (cB : Cell) (at1 : Int32) (h0 : Heap) (n0 : Nat) (Z0 : n0 ≤ h0.size) (O0 : Old Z n0 h0) (Fw : Fld Z Z.heap a1 "com/example/provenir/provenir/TextEncoding" "width" "I" (.int (4 : Int32))) (Fl : Fld Z Z.heap a1 "com/example/provenir/provenir/TextEncoding" "littleEndian" "Z" (.int (0 : Int32))) (Tb : Tab Z h0 a2 cB .byte (8 : Int32)) (hbn : 0 ≤ at1.toInt ∧ at1.toInt < 5) :
    MetFree l (⟨"com/example/provenir/provenir/TextEncoding", "unitAt", "([BI)I"⟩ : MethodName) (head1 (Jvm.Cond.code (⟨"com/example/provenir/provenir/TextEncoding", "unitAt", "([BI)I"⟩ : MethodName) prog_73_method_8_code 5 (some .int) :: ws) ({ frames := 0, cells := 0, slots := 0, locals := 0 } : Room)) (fun a U => a = #[(.ref a1), (.ref a2), (.int at1)] ∧ Z.Warmed39 U.vm ∧ U.heap = h0) (fun _ _ _ _ _ => True) (fun _ U o U' => ∃ v L, o = .returned v ∧ Q_unitAt_4_0 Z a1 a2 cB at1 h0 n0 v U'.heap L ∧ FrameEnd U o U' L ({ frames := 0, cells := 0, slots := 0, locals := 0 } : Room).cells ({ frames := 0, cells := 0, slots := 0, locals := 0 } : Room).slots) := by
  refine MetFree.of_bodySF (plainFor_of_name pn_2) hisR ?_
  intro p e s m args below meth c s₁ Bd hml0 hP hK
  obtain ⟨rfl, hZ, hh⟩ := hP
  have hx := Bd.exec
  have hby := Bd.bytes
  have hml : c.maxLocals = 5 := hml0
  have hown : s.vm.findClass "com/example/provenir/provenir/TextEncoding" = some m.cls := findClass_of_methodNamed Bd.named
  have hnm := (name_of_methodNamed Bd.named Bd.method).1
  have hlk := Bd.notSynchronized
  have hret := Bd.returns
  have X0 : Stand p l e ({ frames := 0, cells := 0, slots := 0, locals := 0 } : Room) s m #[(.ref a1), (.ref a2), (.int at1)] below meth c s₁ [] 0 0 := Stand.of_body Bd
  have e0 : s₁.heap = h0 := by rw [← hh, Bd.state]; rfl
  have N0 := Fr.nil n0
  refine own_in ({ frames := 0, cells := 0, slots := 0, locals := 0 } : Room).cells ({ frames := 0, cells := 0, slots := 0, locals := 0 } : Room).slots (Q_unitAt_4_0 Z a1 a2 cB at1 h0 n0) (ef_unitAt_4_0 m a1 a2 at1) ?_
  show own_G p.tables e below _ (s₁.setTop (mkF m 0 #[.val (.ref a1), .val (.ref a2), .val (.int at1), .unset, .unset] []))
  refine own_st (fun _ kS => XS.aloadN X0.here hx rfl (hb hby d2_0) rfl rfl kS) ?_
  show own_G p.tables e below _ (s₁.setTop (mkF m 1 #[.val (.ref a1), .val (.ref a2), .val (.int at1), .unset, .unset] [(.ref a1)]))
  obtain ⟨T1, X1, e1, st1⟩ := getF X0 hx hZ hown (host := "") (Or.inl (hw _ (List.mem_of_getElem? (i := 14) rfl))) Via.refl e0 (Fld.ext O0.2 Fw) (g := (mkF m 1 #[.val (.ref a1), .val (.ref a2), .val (.int at1), .unset, .unset] [(.ref a1)])) rfl rfl (hb hby d2_1)
  refine own_st st1 ?_
  show own_G p.tables e below _ (T1.setTop (mkF m 4 #[.val (.ref a1), .val (.ref a2), .val (.int at1), .unset, .unset] [(.int (4 : Int32))]))
  refine own_st (fun _ kS => XS.iconst X1.here hx rfl (hb hby d2_4) kS) ?_
  show own_G p.tables e below _ (T1.setTop (mkF m 5 #[.val (.ref a1), .val (.ref a2), .val (.int at1), .unset, .unset] [(.int (1 : Int32)), (.int (4 : Int32))]))
  refine own_st (fun _ kS => XS.icmpYes X1.here hx rfl (pc0 := 5) (pc' := 19) rfl (hb hby d2_5) rfl (feq (by decide : ¬ ((4 : Int32) = (1 : Int32)))).2 (by decide) (by decide) kS) ?_
  show own_G p.tables e below _ (T1.setTop (mkF m 19 #[.val (.ref a1), .val (.ref a2), .val (.int at1), .unset, .unset] []))
  refine own_st (fun _ kS => XS.iconst X1.here hx rfl (hb hby d2_19) kS) ?_
  show own_G p.tables e below _ (T1.setTop (mkF m 20 #[.val (.ref a1), .val (.ref a2), .val (.int at1), .unset, .unset] [(.int (0 : Int32))]))
  refine own_st (fun _ kS => XS.istoreN X1.here hx rfl (hb hby d2_20) rfl (l' := #[.val (.ref a1), .val (.ref a2), .val (.int at1), .val (.int (0 : Int32)), .unset]) rfl kS) ?_
  show own_G p.tables e below _ (T1.setTop (mkF m 21 #[.val (.ref a1), .val (.ref a2), .val (.int at1), .val (.int (0 : Int32)), .unset] []))
  refine own_st (fun _ kS => XS.iconst X1.here hx rfl (hb hby d2_21) kS) ?_
  show own_G p.tables e below _ (T1.setTop (mkF m 22 #[.val (.ref a1), .val (.ref a2), .val (.int at1), .val (.int (0 : Int32)), .unset] [(.int (0 : Int32))]))
  refine own_st (fun _ kS => XS.istore X1.here hx rfl (hb hby d2_22) rfl (l' := #[.val (.ref a1), .val (.ref a2), .val (.int at1), .val (.int (0 : Int32)), .val (.int (0 : Int32))]) rfl kS) ?_
  show own_G p.tables e below _ (T1.setTop (mkF m 24 #[.val (.ref a1), .val (.ref a2), .val (.int at1), .val (.int (0 : Int32)), .val (.int (0 : Int32))] []))
  refine own_st (fun _ kS => XS.iload X1.here hx rfl (hb hby d2_24) rfl kS) ?_
  show own_G p.tables e below _ (T1.setTop (mkF m 26 #[.val (.ref a1), .val (.ref a2), .val (.int at1), .val (.int (0 : Int32)), .val (.int (0 : Int32))] [(.int (0 : Int32))]))
  refine own_st (fun _ kS => XS.aloadN X1.here hx rfl (hb hby d2_26) rfl rfl kS) ?_
  show own_G p.tables e below _ (T1.setTop (mkF m 27 #[.val (.ref a1), .val (.ref a2), .val (.int at1), .val (.int (0 : Int32)), .val (.int (0 : Int32))] [(.ref a1), (.int (0 : Int32))]))
  obtain ⟨T2, X2, e2, st2⟩ := getF X1 hx hZ hown (host := "") (Or.inl (hw _ (List.mem_of_getElem? (i := 14) rfl))) Via.refl e1 (Fld.ext O0.2 Fw) (g := (mkF m 27 #[.val (.ref a1), .val (.ref a2), .val (.int at1), .val (.int (0 : Int32)), .val (.int (0 : Int32))] [(.ref a1), (.int (0 : Int32))])) rfl rfl (hb hby d2_27)
  refine own_st st2 ?_
  show own_G p.tables e below _ (T2.setTop (mkF m 30 #[.val (.ref a1), .val (.ref a2), .val (.int at1), .val (.int (0 : Int32)), .val (.int (0 : Int32))] [(.int (4 : Int32)), (.int (0 : Int32))]))
  refine own_st (fun _ kS => XS.icmpNo X2.here hx rfl (hb hby d2_30) rfl (tlt (by decide : (0 : Int32) < (4 : Int32))).2.1 kS) ?_
  show own_G p.tables e below _ (T2.setTop (mkF m 33 #[.val (.ref a1), .val (.ref a2), .val (.int at1), .val (.int (0 : Int32)), .val (.int (0 : Int32))] []))
  refine own_st (fun _ kS => XS.iloadN X2.here hx rfl (hb hby d2_33) rfl kS) ?_
  show own_G p.tables e below _ (T2.setTop (mkF m 34 #[.val (.ref a1), .val (.ref a2), .val (.int at1), .val (.int (0 : Int32)), .val (.int (0 : Int32))] [(.int (0 : Int32))]))
  refine own_st (fun _ kS => XS.bipush X2.here hx rfl (hb hby d2_34) kS) ?_
  show own_G p.tables e below _ (T2.setTop (mkF m 36 #[.val (.ref a1), .val (.ref a2), .val (.int at1), .val (.int (0 : Int32)), .val (.int (0 : Int32))] [(.int (8 : Int32)), (.int (0 : Int32))]))
  refine own_st (fun _ kS => XT.ishl X2.here hx rfl (hb hby d2_36) rfl kS) ?_
  show own_G p.tables e below _ (T2.setTop (mkF m 37 #[.val (.ref a1), .val (.ref a2), .val (.int at1), .val (.int (0 : Int32)), .val (.int (0 : Int32))] [(.int (0 : Int32))]))
  refine own_st (fun _ kS => XS.aloadN X2.here hx rfl (hb hby d2_37) rfl rfl kS) ?_
  show own_G p.tables e below _ (T2.setTop (mkF m 38 #[.val (.ref a1), .val (.ref a2), .val (.int at1), .val (.int (0 : Int32)), .val (.int (0 : Int32))] [(.ref a2), (.int (0 : Int32))]))
  refine own_st (fun _ kS => XS.aloadN X2.here hx rfl (hb hby d2_38) rfl rfl kS) ?_
  show own_G p.tables e below _ (T2.setTop (mkF m 39 #[.val (.ref a1), .val (.ref a2), .val (.int at1), .val (.int (0 : Int32)), .val (.int (0 : Int32))] [(.ref a1), (.ref a2), (.int (0 : Int32))]))
  obtain ⟨T3, X3, e3, st3⟩ := getF X2 hx hZ hown (host := "") (Or.inl (hw _ (List.mem_of_getElem? (i := 16) rfl))) Via.refl e2 (Fld.ext O0.2 Fl) (g := (mkF m 39 #[.val (.ref a1), .val (.ref a2), .val (.int at1), .val (.int (0 : Int32)), .val (.int (0 : Int32))] [(.ref a1), (.ref a2), (.int (0 : Int32))])) rfl rfl (hb hby d2_39)
  refine own_st st3 ?_
  show own_G p.tables e below _ (T3.setTop (mkF m 42 #[.val (.ref a1), .val (.ref a2), .val (.int at1), .val (.int (0 : Int32)), .val (.int (0 : Int32))] [(.int (0 : Int32)), (.ref a2), (.int (0 : Int32))]))
  refine own_st (fun _ kS => XS.ifYes X3.here hx rfl (pc0 := 42) (pc' := 59) rfl (hb hby d2_42) rfl ((if0 _ _).trans (teq (by decide : (0 : Int32) = (0 : Int32))).1) (by decide) (by decide) kS) ?_
  show own_G p.tables e below _ (T3.setTop (mkF m 59 #[.val (.ref a1), .val (.ref a2), .val (.int at1), .val (.int (0 : Int32)), .val (.int (0 : Int32))] [(.ref a2), (.int (0 : Int32))]))
  refine own_st (fun _ kS => XS.iloadN X3.here hx rfl (hb hby d2_59) rfl kS) ?_
  show own_G p.tables e below _ (T3.setTop (mkF m 60 #[.val (.ref a1), .val (.ref a2), .val (.int at1), .val (.int (0 : Int32)), .val (.int (0 : Int32))] [(.int at1), (.ref a2), (.int (0 : Int32))]))
  refine own_st (fun _ kS => XS.iload X3.here hx rfl (hb hby d2_60) rfl kS) ?_
  show own_G p.tables e below _ (T3.setTop (mkF m 62 #[.val (.ref a1), .val (.ref a2), .val (.int at1), .val (.int (0 : Int32)), .val (.int (0 : Int32))] [(.int (0 : Int32)), (.int at1), (.ref a2), (.int (0 : Int32))]))
  refine own_st (fun _ kS => XS.iadd X3.here hx rfl (hb hby d2_62) rfl kS) ?_
  show own_G p.tables e below _ (T3.setTop (mkF m 63 #[.val (.ref a1), .val (.ref a2), .val (.int at1), .val (.int (0 : Int32)), .val (.int (0 : Int32))] [(.int (at1 + (0 : Int32))), (.ref a2), (.int (0 : Int32))]))
  rw [own_add0 at1]
  show own_G p.tables e below _ (T3.setTop (mkF m 63 #[.val (.ref a1), .val (.ref a2), .val (.int at1), .val (.int (0 : Int32)), .val (.int (0 : Int32))] [(.int at1), (.ref a2), (.int (0 : Int32))]))
  have ib4 : ¬ (at1 < 0 ∨ cB.slots.size ≤ (at1).toNatClampNeg) := inb_of Tb.2.1 (own_inb0 hbn (by decide))
  refine own_st (fun _ kS => X3.baloadBytes hx (j := at1) (v := (.int (atv cB at1))) (by rw [e3]; exact Tb.1.1) (State.isArrayOf_alike hZ.alike Tb.1.2.1) Tb.1.2.2 ib4 (Tb.2.2.2 _ ib4) (g := (mkF m 63 #[.val (.ref a1), .val (.ref a2), .val (.int at1), .val (.int (0 : Int32)), .val (.int (0 : Int32))] [(.int at1), (.ref a2), (.int (0 : Int32))])) rfl rfl (hb hby d2_63) _ kS) ?_
  show own_G p.tables e below _ (T3.setTop (mkF m 64 #[.val (.ref a1), .val (.ref a2), .val (.int at1), .val (.int (0 : Int32)), .val (.int (0 : Int32))] [(.int (atv cB at1)), (.int (0 : Int32))]))
  refine own_st (fun _ kS => XS.sipush X3.here hx rfl (hb hby d2_64) kS) ?_
  show own_G p.tables e below _ (T3.setTop (mkF m 67 #[.val (.ref a1), .val (.ref a2), .val (.int at1), .val (.int (0 : Int32)), .val (.int (0 : Int32))] [(.int (255 : Int32)), (.int (atv cB at1)), (.int (0 : Int32))]))
  refine own_st (fun _ kS => XS.iand X3.here hx rfl (hb hby d2_67) rfl kS) ?_
  show own_G p.tables e below _ (T3.setTop (mkF m 68 #[.val (.ref a1), .val (.ref a2), .val (.int at1), .val (.int (0 : Int32)), .val (.int (0 : Int32))] [(.int ((atv cB at1) &&& (255 : Int32))), (.int (0 : Int32))]))
  refine own_st (fun _ kS => XT.ior X3.here hx rfl (hb hby d2_68) rfl kS) ?_
  show own_G p.tables e below _ (T3.setTop (mkF m 69 #[.val (.ref a1), .val (.ref a2), .val (.int at1), .val (.int (0 : Int32)), .val (.int (0 : Int32))] [(.int ((0 : Int32) ||| ((atv cB at1) &&& (255 : Int32))))]))
  refine own_st (fun _ kS => XS.istoreN X3.here hx rfl (hb hby d2_69) rfl (l' := #[.val (.ref a1), .val (.ref a2), .val (.int at1), .val (.int ((0 : Int32) ||| ((atv cB at1) &&& (255 : Int32)))), .val (.int (0 : Int32))]) rfl kS) ?_
  show own_G p.tables e below _ (T3.setTop (mkF m 70 #[.val (.ref a1), .val (.ref a2), .val (.int at1), .val (.int ((0 : Int32) ||| ((atv cB at1) &&& (255 : Int32)))), .val (.int (0 : Int32))] []))
  refine own_st (fun _ kS => XS.iinc X3.here hx rfl (hb hby d2_70) rfl (l' := #[.val (.ref a1), .val (.ref a2), .val (.int at1), .val (.int ((0 : Int32) ||| ((atv cB at1) &&& (255 : Int32)))), .val (.int (1 : Int32))]) rfl kS) ?_
  show own_G p.tables e below _ (T3.setTop (mkF m 73 #[.val (.ref a1), .val (.ref a2), .val (.int at1), .val (.int ((0 : Int32) ||| ((atv cB at1) &&& (255 : Int32)))), .val (.int (1 : Int32))] []))
  refine own_st (fun _ kS => XS.goto X3.here hx rfl (pc0 := 73) (pc' := 24) rfl (hb hby d2_73) (by decide) (by decide) kS) ?_
  show own_G p.tables e below _ (T3.setTop (mkF m 24 #[.val (.ref a1), .val (.ref a2), .val (.int at1), .val (.int ((0 : Int32) ||| ((atv cB at1) &&& (255 : Int32)))), .val (.int (1 : Int32))] []))
  refine own_st (fun _ kS => XS.iload X3.here hx rfl (hb hby d2_24) rfl kS) ?_
  show own_G p.tables e below _ (T3.setTop (mkF m 26 #[.val (.ref a1), .val (.ref a2), .val (.int at1), .val (.int ((0 : Int32) ||| ((atv cB at1) &&& (255 : Int32)))), .val (.int (1 : Int32))] [(.int (1 : Int32))]))
  refine own_st (fun _ kS => XS.aloadN X3.here hx rfl (hb hby d2_26) rfl rfl kS) ?_
  show own_G p.tables e below _ (T3.setTop (mkF m 27 #[.val (.ref a1), .val (.ref a2), .val (.int at1), .val (.int ((0 : Int32) ||| ((atv cB at1) &&& (255 : Int32)))), .val (.int (1 : Int32))] [(.ref a1), (.int (1 : Int32))]))
  obtain ⟨T5, X5, e5, st5⟩ := getF X3 hx hZ hown (host := "") (Or.inl (hw _ (List.mem_of_getElem? (i := 14) rfl))) Via.refl e3 (Fld.ext O0.2 Fw) (g := (mkF m 27 #[.val (.ref a1), .val (.ref a2), .val (.int at1), .val (.int ((0 : Int32) ||| ((atv cB at1) &&& (255 : Int32)))), .val (.int (1 : Int32))] [(.ref a1), (.int (1 : Int32))])) rfl rfl (hb hby d2_27)
  refine own_st st5 ?_
  show own_G p.tables e below _ (T5.setTop (mkF m 30 #[.val (.ref a1), .val (.ref a2), .val (.int at1), .val (.int ((0 : Int32) ||| ((atv cB at1) &&& (255 : Int32)))), .val (.int (1 : Int32))] [(.int (4 : Int32)), (.int (1 : Int32))]))
  refine own_st (fun _ kS => XS.icmpNo X5.here hx rfl (hb hby d2_30) rfl (tlt (by decide : (1 : Int32) < (4 : Int32))).2.1 kS) ?_
  show own_G p.tables e below _ (T5.setTop (mkF m 33 #[.val (.ref a1), .val (.ref a2), .val (.int at1), .val (.int ((0 : Int32) ||| ((atv cB at1) &&& (255 : Int32)))), .val (.int (1 : Int32))] []))
  refine own_st (fun _ kS => XS.iloadN X5.here hx rfl (hb hby d2_33) rfl kS) ?_
  show own_G p.tables e below _ (T5.setTop (mkF m 34 #[.val (.ref a1), .val (.ref a2), .val (.int at1), .val (.int ((0 : Int32) ||| ((atv cB at1) &&& (255 : Int32)))), .val (.int (1 : Int32))] [(.int ((0 : Int32) ||| ((atv cB at1) &&& (255 : Int32))))]))
  refine own_st (fun _ kS => XS.bipush X5.here hx rfl (hb hby d2_34) kS) ?_
  show own_G p.tables e below _ (T5.setTop (mkF m 36 #[.val (.ref a1), .val (.ref a2), .val (.int at1), .val (.int ((0 : Int32) ||| ((atv cB at1) &&& (255 : Int32)))), .val (.int (1 : Int32))] [(.int (8 : Int32)), (.int ((0 : Int32) ||| ((atv cB at1) &&& (255 : Int32))))]))
  refine own_st (fun _ kS => XT.ishl X5.here hx rfl (hb hby d2_36) rfl kS) ?_
  show own_G p.tables e below _ (T5.setTop (mkF m 37 #[.val (.ref a1), .val (.ref a2), .val (.int at1), .val (.int ((0 : Int32) ||| ((atv cB at1) &&& (255 : Int32)))), .val (.int (1 : Int32))] [(.int (((0 : Int32) ||| ((atv cB at1) &&& (255 : Int32))) <<< ((8 : Int32) &&& 31)))]))
  refine own_st (fun _ kS => XS.aloadN X5.here hx rfl (hb hby d2_37) rfl rfl kS) ?_
  show own_G p.tables e below _ (T5.setTop (mkF m 38 #[.val (.ref a1), .val (.ref a2), .val (.int at1), .val (.int ((0 : Int32) ||| ((atv cB at1) &&& (255 : Int32)))), .val (.int (1 : Int32))] [(.ref a2), (.int (((0 : Int32) ||| ((atv cB at1) &&& (255 : Int32))) <<< ((8 : Int32) &&& 31)))]))
  refine own_st (fun _ kS => XS.aloadN X5.here hx rfl (hb hby d2_38) rfl rfl kS) ?_
  show own_G p.tables e below _ (T5.setTop (mkF m 39 #[.val (.ref a1), .val (.ref a2), .val (.int at1), .val (.int ((0 : Int32) ||| ((atv cB at1) &&& (255 : Int32)))), .val (.int (1 : Int32))] [(.ref a1), (.ref a2), (.int (((0 : Int32) ||| ((atv cB at1) &&& (255 : Int32))) <<< ((8 : Int32) &&& 31)))]))
  obtain ⟨T6, X6, e6, st6⟩ := getF X5 hx hZ hown (host := "") (Or.inl (hw _ (List.mem_of_getElem? (i := 16) rfl))) Via.refl e5 (Fld.ext O0.2 Fl) (g := (mkF m 39 #[.val (.ref a1), .val (.ref a2), .val (.int at1), .val (.int ((0 : Int32) ||| ((atv cB at1) &&& (255 : Int32)))), .val (.int (1 : Int32))] [(.ref a1), (.ref a2), (.int (((0 : Int32) ||| ((atv cB at1) &&& (255 : Int32))) <<< ((8 : Int32) &&& 31)))])) rfl rfl (hb hby d2_39)
  refine own_st st6 ?_
  show own_G p.tables e below _ (T6.setTop (mkF m 42 #[.val (.ref a1), .val (.ref a2), .val (.int at1), .val (.int ((0 : Int32) ||| ((atv cB at1) &&& (255 : Int32)))), .val (.int (1 : Int32))] [(.int (0 : Int32)), (.ref a2), (.int (((0 : Int32) ||| ((atv cB at1) &&& (255 : Int32))) <<< ((8 : Int32) &&& 31)))]))
  refine own_st (fun _ kS => XS.ifYes X6.here hx rfl (pc0 := 42) (pc' := 59) rfl (hb hby d2_42) rfl ((if0 _ _).trans (teq (by decide : (0 : Int32) = (0 : Int32))).1) (by decide) (by decide) kS) ?_
  show own_G p.tables e below _ (T6.setTop (mkF m 59 #[.val (.ref a1), .val (.ref a2), .val (.int at1), .val (.int ((0 : Int32) ||| ((atv cB at1) &&& (255 : Int32)))), .val (.int (1 : Int32))] [(.ref a2), (.int (((0 : Int32) ||| ((atv cB at1) &&& (255 : Int32))) <<< ((8 : Int32) &&& 31)))]))
  refine own_st (fun _ kS => XS.iloadN X6.here hx rfl (hb hby d2_59) rfl kS) ?_
  show own_G p.tables e below _ (T6.setTop (mkF m 60 #[.val (.ref a1), .val (.ref a2), .val (.int at1), .val (.int ((0 : Int32) ||| ((atv cB at1) &&& (255 : Int32)))), .val (.int (1 : Int32))] [(.int at1), (.ref a2), (.int (((0 : Int32) ||| ((atv cB at1) &&& (255 : Int32))) <<< ((8 : Int32) &&& 31)))]))
  refine own_st (fun _ kS => XS.iload X6.here hx rfl (hb hby d2_60) rfl kS) ?_
  show own_G p.tables e below _ (T6.setTop (mkF m 62 #[.val (.ref a1), .val (.ref a2), .val (.int at1), .val (.int ((0 : Int32) ||| ((atv cB at1) &&& (255 : Int32)))), .val (.int (1 : Int32))] [(.int (1 : Int32)), (.int at1), (.ref a2), (.int (((0 : Int32) ||| ((atv cB at1) &&& (255 : Int32))) <<< ((8 : Int32) &&& 31)))]))
  refine own_st (fun _ kS => XS.iadd X6.here hx rfl (hb hby d2_62) rfl kS) ?_
  show own_G p.tables e below _ (T6.setTop (mkF m 63 #[.val (.ref a1), .val (.ref a2), .val (.int at1), .val (.int ((0 : Int32) ||| ((atv cB at1) &&& (255 : Int32)))), .val (.int (1 : Int32))] [(.int (at1 + (1 : Int32))), (.ref a2), (.int (((0 : Int32) ||| ((atv cB at1) &&& (255 : Int32))) <<< ((8 : Int32) &&& 31)))]))
  have ib7 : ¬ ((at1 + (1 : Int32)) < 0 ∨ cB.slots.size ≤ ((at1 + (1 : Int32))).toNatClampNeg) := inb_of Tb.2.1 (own_inb hbn 1 (by decide))
  refine own_st (fun _ kS => X6.baloadBytes hx (j := (at1 + (1 : Int32))) (v := (.int (atv cB (at1 + (1 : Int32))))) (by rw [e6]; exact Tb.1.1) (State.isArrayOf_alike hZ.alike Tb.1.2.1) Tb.1.2.2 ib7 (Tb.2.2.2 _ ib7) (g := (mkF m 63 #[.val (.ref a1), .val (.ref a2), .val (.int at1), .val (.int ((0 : Int32) ||| ((atv cB at1) &&& (255 : Int32)))), .val (.int (1 : Int32))] [(.int (at1 + (1 : Int32))), (.ref a2), (.int (((0 : Int32) ||| ((atv cB at1) &&& (255 : Int32))) <<< ((8 : Int32) &&& 31)))])) rfl rfl (hb hby d2_63) _ kS) ?_
  show own_G p.tables e below _ (T6.setTop (mkF m 64 #[.val (.ref a1), .val (.ref a2), .val (.int at1), .val (.int ((0 : Int32) ||| ((atv cB at1) &&& (255 : Int32)))), .val (.int (1 : Int32))] [(.int (atv cB (at1 + (1 : Int32)))), (.int (((0 : Int32) ||| ((atv cB at1) &&& (255 : Int32))) <<< ((8 : Int32) &&& 31)))]))
  refine own_st (fun _ kS => XS.sipush X6.here hx rfl (hb hby d2_64) kS) ?_
  show own_G p.tables e below _ (T6.setTop (mkF m 67 #[.val (.ref a1), .val (.ref a2), .val (.int at1), .val (.int ((0 : Int32) ||| ((atv cB at1) &&& (255 : Int32)))), .val (.int (1 : Int32))] [(.int (255 : Int32)), (.int (atv cB (at1 + (1 : Int32)))), (.int (((0 : Int32) ||| ((atv cB at1) &&& (255 : Int32))) <<< ((8 : Int32) &&& 31)))]))
  refine own_st (fun _ kS => XS.iand X6.here hx rfl (hb hby d2_67) rfl kS) ?_
  show own_G p.tables e below _ (T6.setTop (mkF m 68 #[.val (.ref a1), .val (.ref a2), .val (.int at1), .val (.int ((0 : Int32) ||| ((atv cB at1) &&& (255 : Int32)))), .val (.int (1 : Int32))] [(.int ((atv cB (at1 + (1 : Int32))) &&& (255 : Int32))), (.int (((0 : Int32) ||| ((atv cB at1) &&& (255 : Int32))) <<< ((8 : Int32) &&& 31)))]))
  refine own_st (fun _ kS => XT.ior X6.here hx rfl (hb hby d2_68) rfl kS) ?_
  show own_G p.tables e below _ (T6.setTop (mkF m 69 #[.val (.ref a1), .val (.ref a2), .val (.int at1), .val (.int ((0 : Int32) ||| ((atv cB at1) &&& (255 : Int32)))), .val (.int (1 : Int32))] [(.int ((((0 : Int32) ||| ((atv cB at1) &&& (255 : Int32))) <<< ((8 : Int32) &&& 31)) ||| ((atv cB (at1 + (1 : Int32))) &&& (255 : Int32))))]))
  refine own_st (fun _ kS => XS.istoreN X6.here hx rfl (hb hby d2_69) rfl (l' := #[.val (.ref a1), .val (.ref a2), .val (.int at1), .val (.int ((((0 : Int32) ||| ((atv cB at1) &&& (255 : Int32))) <<< ((8 : Int32) &&& 31)) ||| ((atv cB (at1 + (1 : Int32))) &&& (255 : Int32)))), .val (.int (1 : Int32))]) rfl kS) ?_
  show own_G p.tables e below _ (T6.setTop (mkF m 70 #[.val (.ref a1), .val (.ref a2), .val (.int at1), .val (.int ((((0 : Int32) ||| ((atv cB at1) &&& (255 : Int32))) <<< ((8 : Int32) &&& 31)) ||| ((atv cB (at1 + (1 : Int32))) &&& (255 : Int32)))), .val (.int (1 : Int32))] []))
  refine own_st (fun _ kS => XS.iinc X6.here hx rfl (hb hby d2_70) rfl (l' := #[.val (.ref a1), .val (.ref a2), .val (.int at1), .val (.int ((((0 : Int32) ||| ((atv cB at1) &&& (255 : Int32))) <<< ((8 : Int32) &&& 31)) ||| ((atv cB (at1 + (1 : Int32))) &&& (255 : Int32)))), .val (.int (2 : Int32))]) rfl kS) ?_
  show own_G p.tables e below _ (T6.setTop (mkF m 73 #[.val (.ref a1), .val (.ref a2), .val (.int at1), .val (.int ((((0 : Int32) ||| ((atv cB at1) &&& (255 : Int32))) <<< ((8 : Int32) &&& 31)) ||| ((atv cB (at1 + (1 : Int32))) &&& (255 : Int32)))), .val (.int (2 : Int32))] []))
  refine own_st (fun _ kS => XS.goto X6.here hx rfl (pc0 := 73) (pc' := 24) rfl (hb hby d2_73) (by decide) (by decide) kS) ?_
  show own_G p.tables e below _ (T6.setTop (mkF m 24 #[.val (.ref a1), .val (.ref a2), .val (.int at1), .val (.int ((((0 : Int32) ||| ((atv cB at1) &&& (255 : Int32))) <<< ((8 : Int32) &&& 31)) ||| ((atv cB (at1 + (1 : Int32))) &&& (255 : Int32)))), .val (.int (2 : Int32))] []))
  refine own_st (fun _ kS => XS.iload X6.here hx rfl (hb hby d2_24) rfl kS) ?_
  show own_G p.tables e below _ (T6.setTop (mkF m 26 #[.val (.ref a1), .val (.ref a2), .val (.int at1), .val (.int ((((0 : Int32) ||| ((atv cB at1) &&& (255 : Int32))) <<< ((8 : Int32) &&& 31)) ||| ((atv cB (at1 + (1 : Int32))) &&& (255 : Int32)))), .val (.int (2 : Int32))] [(.int (2 : Int32))]))
  refine own_st (fun _ kS => XS.aloadN X6.here hx rfl (hb hby d2_26) rfl rfl kS) ?_
  show own_G p.tables e below _ (T6.setTop (mkF m 27 #[.val (.ref a1), .val (.ref a2), .val (.int at1), .val (.int ((((0 : Int32) ||| ((atv cB at1) &&& (255 : Int32))) <<< ((8 : Int32) &&& 31)) ||| ((atv cB (at1 + (1 : Int32))) &&& (255 : Int32)))), .val (.int (2 : Int32))] [(.ref a1), (.int (2 : Int32))]))
  obtain ⟨T8, X8, e8, st8⟩ := getF X6 hx hZ hown (host := "") (Or.inl (hw _ (List.mem_of_getElem? (i := 14) rfl))) Via.refl e6 (Fld.ext O0.2 Fw) (g := (mkF m 27 #[.val (.ref a1), .val (.ref a2), .val (.int at1), .val (.int ((((0 : Int32) ||| ((atv cB at1) &&& (255 : Int32))) <<< ((8 : Int32) &&& 31)) ||| ((atv cB (at1 + (1 : Int32))) &&& (255 : Int32)))), .val (.int (2 : Int32))] [(.ref a1), (.int (2 : Int32))])) rfl rfl (hb hby d2_27)
  refine own_st st8 ?_
  show own_G p.tables e below _ (T8.setTop (mkF m 30 #[.val (.ref a1), .val (.ref a2), .val (.int at1), .val (.int ((((0 : Int32) ||| ((atv cB at1) &&& (255 : Int32))) <<< ((8 : Int32) &&& 31)) ||| ((atv cB (at1 + (1 : Int32))) &&& (255 : Int32)))), .val (.int (2 : Int32))] [(.int (4 : Int32)), (.int (2 : Int32))]))
  refine own_st (fun _ kS => XS.icmpNo X8.here hx rfl (hb hby d2_30) rfl (tlt (by decide : (2 : Int32) < (4 : Int32))).2.1 kS) ?_
  show own_G p.tables e below _ (T8.setTop (mkF m 33 #[.val (.ref a1), .val (.ref a2), .val (.int at1), .val (.int ((((0 : Int32) ||| ((atv cB at1) &&& (255 : Int32))) <<< ((8 : Int32) &&& 31)) ||| ((atv cB (at1 + (1 : Int32))) &&& (255 : Int32)))), .val (.int (2 : Int32))] []))
  refine own_st (fun _ kS => XS.iloadN X8.here hx rfl (hb hby d2_33) rfl kS) ?_
  show own_G p.tables e below _ (T8.setTop (mkF m 34 #[.val (.ref a1), .val (.ref a2), .val (.int at1), .val (.int ((((0 : Int32) ||| ((atv cB at1) &&& (255 : Int32))) <<< ((8 : Int32) &&& 31)) ||| ((atv cB (at1 + (1 : Int32))) &&& (255 : Int32)))), .val (.int (2 : Int32))] [(.int ((((0 : Int32) ||| ((atv cB at1) &&& (255 : Int32))) <<< ((8 : Int32) &&& 31)) ||| ((atv cB (at1 + (1 : Int32))) &&& (255 : Int32))))]))
  refine own_st (fun _ kS => XS.bipush X8.here hx rfl (hb hby d2_34) kS) ?_
  show own_G p.tables e below _ (T8.setTop (mkF m 36 #[.val (.ref a1), .val (.ref a2), .val (.int at1), .val (.int ((((0 : Int32) ||| ((atv cB at1) &&& (255 : Int32))) <<< ((8 : Int32) &&& 31)) ||| ((atv cB (at1 + (1 : Int32))) &&& (255 : Int32)))), .val (.int (2 : Int32))] [(.int (8 : Int32)), (.int ((((0 : Int32) ||| ((atv cB at1) &&& (255 : Int32))) <<< ((8 : Int32) &&& 31)) ||| ((atv cB (at1 + (1 : Int32))) &&& (255 : Int32))))]))
  refine own_st (fun _ kS => XT.ishl X8.here hx rfl (hb hby d2_36) rfl kS) ?_
  show own_G p.tables e below _ (T8.setTop (mkF m 37 #[.val (.ref a1), .val (.ref a2), .val (.int at1), .val (.int ((((0 : Int32) ||| ((atv cB at1) &&& (255 : Int32))) <<< ((8 : Int32) &&& 31)) ||| ((atv cB (at1 + (1 : Int32))) &&& (255 : Int32)))), .val (.int (2 : Int32))] [(.int (((((0 : Int32) ||| ((atv cB at1) &&& (255 : Int32))) <<< ((8 : Int32) &&& 31)) ||| ((atv cB (at1 + (1 : Int32))) &&& (255 : Int32))) <<< ((8 : Int32) &&& 31)))]))
  refine own_st (fun _ kS => XS.aloadN X8.here hx rfl (hb hby d2_37) rfl rfl kS) ?_
  show own_G p.tables e below _ (T8.setTop (mkF m 38 #[.val (.ref a1), .val (.ref a2), .val (.int at1), .val (.int ((((0 : Int32) ||| ((atv cB at1) &&& (255 : Int32))) <<< ((8 : Int32) &&& 31)) ||| ((atv cB (at1 + (1 : Int32))) &&& (255 : Int32)))), .val (.int (2 : Int32))] [(.ref a2), (.int (((((0 : Int32) ||| ((atv cB at1) &&& (255 : Int32))) <<< ((8 : Int32) &&& 31)) ||| ((atv cB (at1 + (1 : Int32))) &&& (255 : Int32))) <<< ((8 : Int32) &&& 31)))]))
  refine own_st (fun _ kS => XS.aloadN X8.here hx rfl (hb hby d2_38) rfl rfl kS) ?_
  show own_G p.tables e below _ (T8.setTop (mkF m 39 #[.val (.ref a1), .val (.ref a2), .val (.int at1), .val (.int ((((0 : Int32) ||| ((atv cB at1) &&& (255 : Int32))) <<< ((8 : Int32) &&& 31)) ||| ((atv cB (at1 + (1 : Int32))) &&& (255 : Int32)))), .val (.int (2 : Int32))] [(.ref a1), (.ref a2), (.int (((((0 : Int32) ||| ((atv cB at1) &&& (255 : Int32))) <<< ((8 : Int32) &&& 31)) ||| ((atv cB (at1 + (1 : Int32))) &&& (255 : Int32))) <<< ((8 : Int32) &&& 31)))]))
  obtain ⟨T9, X9, e9, st9⟩ := getF X8 hx hZ hown (host := "") (Or.inl (hw _ (List.mem_of_getElem? (i := 16) rfl))) Via.refl e8 (Fld.ext O0.2 Fl) (g := (mkF m 39 #[.val (.ref a1), .val (.ref a2), .val (.int at1), .val (.int ((((0 : Int32) ||| ((atv cB at1) &&& (255 : Int32))) <<< ((8 : Int32) &&& 31)) ||| ((atv cB (at1 + (1 : Int32))) &&& (255 : Int32)))), .val (.int (2 : Int32))] [(.ref a1), (.ref a2), (.int (((((0 : Int32) ||| ((atv cB at1) &&& (255 : Int32))) <<< ((8 : Int32) &&& 31)) ||| ((atv cB (at1 + (1 : Int32))) &&& (255 : Int32))) <<< ((8 : Int32) &&& 31)))])) rfl rfl (hb hby d2_39)
  refine own_st st9 ?_
  show own_G p.tables e below _ (T9.setTop (mkF m 42 #[.val (.ref a1), .val (.ref a2), .val (.int at1), .val (.int ((((0 : Int32) ||| ((atv cB at1) &&& (255 : Int32))) <<< ((8 : Int32) &&& 31)) ||| ((atv cB (at1 + (1 : Int32))) &&& (255 : Int32)))), .val (.int (2 : Int32))] [(.int (0 : Int32)), (.ref a2), (.int (((((0 : Int32) ||| ((atv cB at1) &&& (255 : Int32))) <<< ((8 : Int32) &&& 31)) ||| ((atv cB (at1 + (1 : Int32))) &&& (255 : Int32))) <<< ((8 : Int32) &&& 31)))]))
  refine own_st (fun _ kS => XS.ifYes X9.here hx rfl (pc0 := 42) (pc' := 59) rfl (hb hby d2_42) rfl ((if0 _ _).trans (teq (by decide : (0 : Int32) = (0 : Int32))).1) (by decide) (by decide) kS) ?_
  show own_G p.tables e below _ (T9.setTop (mkF m 59 #[.val (.ref a1), .val (.ref a2), .val (.int at1), .val (.int ((((0 : Int32) ||| ((atv cB at1) &&& (255 : Int32))) <<< ((8 : Int32) &&& 31)) ||| ((atv cB (at1 + (1 : Int32))) &&& (255 : Int32)))), .val (.int (2 : Int32))] [(.ref a2), (.int (((((0 : Int32) ||| ((atv cB at1) &&& (255 : Int32))) <<< ((8 : Int32) &&& 31)) ||| ((atv cB (at1 + (1 : Int32))) &&& (255 : Int32))) <<< ((8 : Int32) &&& 31)))]))
  refine own_st (fun _ kS => XS.iloadN X9.here hx rfl (hb hby d2_59) rfl kS) ?_
  show own_G p.tables e below _ (T9.setTop (mkF m 60 #[.val (.ref a1), .val (.ref a2), .val (.int at1), .val (.int ((((0 : Int32) ||| ((atv cB at1) &&& (255 : Int32))) <<< ((8 : Int32) &&& 31)) ||| ((atv cB (at1 + (1 : Int32))) &&& (255 : Int32)))), .val (.int (2 : Int32))] [(.int at1), (.ref a2), (.int (((((0 : Int32) ||| ((atv cB at1) &&& (255 : Int32))) <<< ((8 : Int32) &&& 31)) ||| ((atv cB (at1 + (1 : Int32))) &&& (255 : Int32))) <<< ((8 : Int32) &&& 31)))]))
  refine own_st (fun _ kS => XS.iload X9.here hx rfl (hb hby d2_60) rfl kS) ?_
  show own_G p.tables e below _ (T9.setTop (mkF m 62 #[.val (.ref a1), .val (.ref a2), .val (.int at1), .val (.int ((((0 : Int32) ||| ((atv cB at1) &&& (255 : Int32))) <<< ((8 : Int32) &&& 31)) ||| ((atv cB (at1 + (1 : Int32))) &&& (255 : Int32)))), .val (.int (2 : Int32))] [(.int (2 : Int32)), (.int at1), (.ref a2), (.int (((((0 : Int32) ||| ((atv cB at1) &&& (255 : Int32))) <<< ((8 : Int32) &&& 31)) ||| ((atv cB (at1 + (1 : Int32))) &&& (255 : Int32))) <<< ((8 : Int32) &&& 31)))]))
  refine own_st (fun _ kS => XS.iadd X9.here hx rfl (hb hby d2_62) rfl kS) ?_
  show own_G p.tables e below _ (T9.setTop (mkF m 63 #[.val (.ref a1), .val (.ref a2), .val (.int at1), .val (.int ((((0 : Int32) ||| ((atv cB at1) &&& (255 : Int32))) <<< ((8 : Int32) &&& 31)) ||| ((atv cB (at1 + (1 : Int32))) &&& (255 : Int32)))), .val (.int (2 : Int32))] [(.int (at1 + (2 : Int32))), (.ref a2), (.int (((((0 : Int32) ||| ((atv cB at1) &&& (255 : Int32))) <<< ((8 : Int32) &&& 31)) ||| ((atv cB (at1 + (1 : Int32))) &&& (255 : Int32))) <<< ((8 : Int32) &&& 31)))]))
  have ib10 : ¬ ((at1 + (2 : Int32)) < 0 ∨ cB.slots.size ≤ ((at1 + (2 : Int32))).toNatClampNeg) := inb_of Tb.2.1 (own_inb hbn 2 (by decide))
  refine own_st (fun _ kS => X9.baloadBytes hx (j := (at1 + (2 : Int32))) (v := (.int (atv cB (at1 + (2 : Int32))))) (by rw [e9]; exact Tb.1.1) (State.isArrayOf_alike hZ.alike Tb.1.2.1) Tb.1.2.2 ib10 (Tb.2.2.2 _ ib10) (g := (mkF m 63 #[.val (.ref a1), .val (.ref a2), .val (.int at1), .val (.int ((((0 : Int32) ||| ((atv cB at1) &&& (255 : Int32))) <<< ((8 : Int32) &&& 31)) ||| ((atv cB (at1 + (1 : Int32))) &&& (255 : Int32)))), .val (.int (2 : Int32))] [(.int (at1 + (2 : Int32))), (.ref a2), (.int (((((0 : Int32) ||| ((atv cB at1) &&& (255 : Int32))) <<< ((8 : Int32) &&& 31)) ||| ((atv cB (at1 + (1 : Int32))) &&& (255 : Int32))) <<< ((8 : Int32) &&& 31)))])) rfl rfl (hb hby d2_63) _ kS) ?_
  show own_G p.tables e below _ (T9.setTop (mkF m 64 #[.val (.ref a1), .val (.ref a2), .val (.int at1), .val (.int ((((0 : Int32) ||| ((atv cB at1) &&& (255 : Int32))) <<< ((8 : Int32) &&& 31)) ||| ((atv cB (at1 + (1 : Int32))) &&& (255 : Int32)))), .val (.int (2 : Int32))] [(.int (atv cB (at1 + (2 : Int32)))), (.int (((((0 : Int32) ||| ((atv cB at1) &&& (255 : Int32))) <<< ((8 : Int32) &&& 31)) ||| ((atv cB (at1 + (1 : Int32))) &&& (255 : Int32))) <<< ((8 : Int32) &&& 31)))]))
  refine own_st (fun _ kS => XS.sipush X9.here hx rfl (hb hby d2_64) kS) ?_
  show own_G p.tables e below _ (T9.setTop (mkF m 67 #[.val (.ref a1), .val (.ref a2), .val (.int at1), .val (.int ((((0 : Int32) ||| ((atv cB at1) &&& (255 : Int32))) <<< ((8 : Int32) &&& 31)) ||| ((atv cB (at1 + (1 : Int32))) &&& (255 : Int32)))), .val (.int (2 : Int32))] [(.int (255 : Int32)), (.int (atv cB (at1 + (2 : Int32)))), (.int (((((0 : Int32) ||| ((atv cB at1) &&& (255 : Int32))) <<< ((8 : Int32) &&& 31)) ||| ((atv cB (at1 + (1 : Int32))) &&& (255 : Int32))) <<< ((8 : Int32) &&& 31)))]))
  refine own_st (fun _ kS => XS.iand X9.here hx rfl (hb hby d2_67) rfl kS) ?_
  show own_G p.tables e below _ (T9.setTop (mkF m 68 #[.val (.ref a1), .val (.ref a2), .val (.int at1), .val (.int ((((0 : Int32) ||| ((atv cB at1) &&& (255 : Int32))) <<< ((8 : Int32) &&& 31)) ||| ((atv cB (at1 + (1 : Int32))) &&& (255 : Int32)))), .val (.int (2 : Int32))] [(.int ((atv cB (at1 + (2 : Int32))) &&& (255 : Int32))), (.int (((((0 : Int32) ||| ((atv cB at1) &&& (255 : Int32))) <<< ((8 : Int32) &&& 31)) ||| ((atv cB (at1 + (1 : Int32))) &&& (255 : Int32))) <<< ((8 : Int32) &&& 31)))]))
  refine own_st (fun _ kS => XT.ior X9.here hx rfl (hb hby d2_68) rfl kS) ?_
  show own_G p.tables e below _ (T9.setTop (mkF m 69 #[.val (.ref a1), .val (.ref a2), .val (.int at1), .val (.int ((((0 : Int32) ||| ((atv cB at1) &&& (255 : Int32))) <<< ((8 : Int32) &&& 31)) ||| ((atv cB (at1 + (1 : Int32))) &&& (255 : Int32)))), .val (.int (2 : Int32))] [(.int ((((((0 : Int32) ||| ((atv cB at1) &&& (255 : Int32))) <<< ((8 : Int32) &&& 31)) ||| ((atv cB (at1 + (1 : Int32))) &&& (255 : Int32))) <<< ((8 : Int32) &&& 31)) ||| ((atv cB (at1 + (2 : Int32))) &&& (255 : Int32))))]))
  refine own_st (fun _ kS => XS.istoreN X9.here hx rfl (hb hby d2_69) rfl (l' := #[.val (.ref a1), .val (.ref a2), .val (.int at1), .val (.int ((((((0 : Int32) ||| ((atv cB at1) &&& (255 : Int32))) <<< ((8 : Int32) &&& 31)) ||| ((atv cB (at1 + (1 : Int32))) &&& (255 : Int32))) <<< ((8 : Int32) &&& 31)) ||| ((atv cB (at1 + (2 : Int32))) &&& (255 : Int32)))), .val (.int (2 : Int32))]) rfl kS) ?_
  show own_G p.tables e below _ (T9.setTop (mkF m 70 #[.val (.ref a1), .val (.ref a2), .val (.int at1), .val (.int ((((((0 : Int32) ||| ((atv cB at1) &&& (255 : Int32))) <<< ((8 : Int32) &&& 31)) ||| ((atv cB (at1 + (1 : Int32))) &&& (255 : Int32))) <<< ((8 : Int32) &&& 31)) ||| ((atv cB (at1 + (2 : Int32))) &&& (255 : Int32)))), .val (.int (2 : Int32))] []))
  refine own_st (fun _ kS => XS.iinc X9.here hx rfl (hb hby d2_70) rfl (l' := #[.val (.ref a1), .val (.ref a2), .val (.int at1), .val (.int ((((((0 : Int32) ||| ((atv cB at1) &&& (255 : Int32))) <<< ((8 : Int32) &&& 31)) ||| ((atv cB (at1 + (1 : Int32))) &&& (255 : Int32))) <<< ((8 : Int32) &&& 31)) ||| ((atv cB (at1 + (2 : Int32))) &&& (255 : Int32)))), .val (.int (3 : Int32))]) rfl kS) ?_
  show own_G p.tables e below _ (T9.setTop (mkF m 73 #[.val (.ref a1), .val (.ref a2), .val (.int at1), .val (.int ((((((0 : Int32) ||| ((atv cB at1) &&& (255 : Int32))) <<< ((8 : Int32) &&& 31)) ||| ((atv cB (at1 + (1 : Int32))) &&& (255 : Int32))) <<< ((8 : Int32) &&& 31)) ||| ((atv cB (at1 + (2 : Int32))) &&& (255 : Int32)))), .val (.int (3 : Int32))] []))
  refine own_st (fun _ kS => XS.goto X9.here hx rfl (pc0 := 73) (pc' := 24) rfl (hb hby d2_73) (by decide) (by decide) kS) ?_
  show own_G p.tables e below _ (T9.setTop (mkF m 24 #[.val (.ref a1), .val (.ref a2), .val (.int at1), .val (.int ((((((0 : Int32) ||| ((atv cB at1) &&& (255 : Int32))) <<< ((8 : Int32) &&& 31)) ||| ((atv cB (at1 + (1 : Int32))) &&& (255 : Int32))) <<< ((8 : Int32) &&& 31)) ||| ((atv cB (at1 + (2 : Int32))) &&& (255 : Int32)))), .val (.int (3 : Int32))] []))
  refine own_st (fun _ kS => XS.iload X9.here hx rfl (hb hby d2_24) rfl kS) ?_
  show own_G p.tables e below _ (T9.setTop (mkF m 26 #[.val (.ref a1), .val (.ref a2), .val (.int at1), .val (.int ((((((0 : Int32) ||| ((atv cB at1) &&& (255 : Int32))) <<< ((8 : Int32) &&& 31)) ||| ((atv cB (at1 + (1 : Int32))) &&& (255 : Int32))) <<< ((8 : Int32) &&& 31)) ||| ((atv cB (at1 + (2 : Int32))) &&& (255 : Int32)))), .val (.int (3 : Int32))] [(.int (3 : Int32))]))
  refine own_st (fun _ kS => XS.aloadN X9.here hx rfl (hb hby d2_26) rfl rfl kS) ?_
  show own_G p.tables e below _ (T9.setTop (mkF m 27 #[.val (.ref a1), .val (.ref a2), .val (.int at1), .val (.int ((((((0 : Int32) ||| ((atv cB at1) &&& (255 : Int32))) <<< ((8 : Int32) &&& 31)) ||| ((atv cB (at1 + (1 : Int32))) &&& (255 : Int32))) <<< ((8 : Int32) &&& 31)) ||| ((atv cB (at1 + (2 : Int32))) &&& (255 : Int32)))), .val (.int (3 : Int32))] [(.ref a1), (.int (3 : Int32))]))
  obtain ⟨T11, X11, e11, st11⟩ := getF X9 hx hZ hown (host := "") (Or.inl (hw _ (List.mem_of_getElem? (i := 14) rfl))) Via.refl e9 (Fld.ext O0.2 Fw) (g := (mkF m 27 #[.val (.ref a1), .val (.ref a2), .val (.int at1), .val (.int ((((((0 : Int32) ||| ((atv cB at1) &&& (255 : Int32))) <<< ((8 : Int32) &&& 31)) ||| ((atv cB (at1 + (1 : Int32))) &&& (255 : Int32))) <<< ((8 : Int32) &&& 31)) ||| ((atv cB (at1 + (2 : Int32))) &&& (255 : Int32)))), .val (.int (3 : Int32))] [(.ref a1), (.int (3 : Int32))])) rfl rfl (hb hby d2_27)
  refine own_st st11 ?_
  show own_G p.tables e below _ (T11.setTop (mkF m 30 #[.val (.ref a1), .val (.ref a2), .val (.int at1), .val (.int ((((((0 : Int32) ||| ((atv cB at1) &&& (255 : Int32))) <<< ((8 : Int32) &&& 31)) ||| ((atv cB (at1 + (1 : Int32))) &&& (255 : Int32))) <<< ((8 : Int32) &&& 31)) ||| ((atv cB (at1 + (2 : Int32))) &&& (255 : Int32)))), .val (.int (3 : Int32))] [(.int (4 : Int32)), (.int (3 : Int32))]))
  refine own_st (fun _ kS => XS.icmpNo X11.here hx rfl (hb hby d2_30) rfl (tlt (by decide : (3 : Int32) < (4 : Int32))).2.1 kS) ?_
  show own_G p.tables e below _ (T11.setTop (mkF m 33 #[.val (.ref a1), .val (.ref a2), .val (.int at1), .val (.int ((((((0 : Int32) ||| ((atv cB at1) &&& (255 : Int32))) <<< ((8 : Int32) &&& 31)) ||| ((atv cB (at1 + (1 : Int32))) &&& (255 : Int32))) <<< ((8 : Int32) &&& 31)) ||| ((atv cB (at1 + (2 : Int32))) &&& (255 : Int32)))), .val (.int (3 : Int32))] []))
  refine own_st (fun _ kS => XS.iloadN X11.here hx rfl (hb hby d2_33) rfl kS) ?_
  show own_G p.tables e below _ (T11.setTop (mkF m 34 #[.val (.ref a1), .val (.ref a2), .val (.int at1), .val (.int ((((((0 : Int32) ||| ((atv cB at1) &&& (255 : Int32))) <<< ((8 : Int32) &&& 31)) ||| ((atv cB (at1 + (1 : Int32))) &&& (255 : Int32))) <<< ((8 : Int32) &&& 31)) ||| ((atv cB (at1 + (2 : Int32))) &&& (255 : Int32)))), .val (.int (3 : Int32))] [(.int ((((((0 : Int32) ||| ((atv cB at1) &&& (255 : Int32))) <<< ((8 : Int32) &&& 31)) ||| ((atv cB (at1 + (1 : Int32))) &&& (255 : Int32))) <<< ((8 : Int32) &&& 31)) ||| ((atv cB (at1 + (2 : Int32))) &&& (255 : Int32))))]))
  refine own_st (fun _ kS => XS.bipush X11.here hx rfl (hb hby d2_34) kS) ?_
  show own_G p.tables e below _ (T11.setTop (mkF m 36 #[.val (.ref a1), .val (.ref a2), .val (.int at1), .val (.int ((((((0 : Int32) ||| ((atv cB at1) &&& (255 : Int32))) <<< ((8 : Int32) &&& 31)) ||| ((atv cB (at1 + (1 : Int32))) &&& (255 : Int32))) <<< ((8 : Int32) &&& 31)) ||| ((atv cB (at1 + (2 : Int32))) &&& (255 : Int32)))), .val (.int (3 : Int32))] [(.int (8 : Int32)), (.int ((((((0 : Int32) ||| ((atv cB at1) &&& (255 : Int32))) <<< ((8 : Int32) &&& 31)) ||| ((atv cB (at1 + (1 : Int32))) &&& (255 : Int32))) <<< ((8 : Int32) &&& 31)) ||| ((atv cB (at1 + (2 : Int32))) &&& (255 : Int32))))]))
  refine own_st (fun _ kS => XT.ishl X11.here hx rfl (hb hby d2_36) rfl kS) ?_
  show own_G p.tables e below _ (T11.setTop (mkF m 37 #[.val (.ref a1), .val (.ref a2), .val (.int at1), .val (.int ((((((0 : Int32) ||| ((atv cB at1) &&& (255 : Int32))) <<< ((8 : Int32) &&& 31)) ||| ((atv cB (at1 + (1 : Int32))) &&& (255 : Int32))) <<< ((8 : Int32) &&& 31)) ||| ((atv cB (at1 + (2 : Int32))) &&& (255 : Int32)))), .val (.int (3 : Int32))] [(.int (((((((0 : Int32) ||| ((atv cB at1) &&& (255 : Int32))) <<< ((8 : Int32) &&& 31)) ||| ((atv cB (at1 + (1 : Int32))) &&& (255 : Int32))) <<< ((8 : Int32) &&& 31)) ||| ((atv cB (at1 + (2 : Int32))) &&& (255 : Int32))) <<< ((8 : Int32) &&& 31)))]))
  refine own_st (fun _ kS => XS.aloadN X11.here hx rfl (hb hby d2_37) rfl rfl kS) ?_
  show own_G p.tables e below _ (T11.setTop (mkF m 38 #[.val (.ref a1), .val (.ref a2), .val (.int at1), .val (.int ((((((0 : Int32) ||| ((atv cB at1) &&& (255 : Int32))) <<< ((8 : Int32) &&& 31)) ||| ((atv cB (at1 + (1 : Int32))) &&& (255 : Int32))) <<< ((8 : Int32) &&& 31)) ||| ((atv cB (at1 + (2 : Int32))) &&& (255 : Int32)))), .val (.int (3 : Int32))] [(.ref a2), (.int (((((((0 : Int32) ||| ((atv cB at1) &&& (255 : Int32))) <<< ((8 : Int32) &&& 31)) ||| ((atv cB (at1 + (1 : Int32))) &&& (255 : Int32))) <<< ((8 : Int32) &&& 31)) ||| ((atv cB (at1 + (2 : Int32))) &&& (255 : Int32))) <<< ((8 : Int32) &&& 31)))]))
  refine own_st (fun _ kS => XS.aloadN X11.here hx rfl (hb hby d2_38) rfl rfl kS) ?_
  show own_G p.tables e below _ (T11.setTop (mkF m 39 #[.val (.ref a1), .val (.ref a2), .val (.int at1), .val (.int ((((((0 : Int32) ||| ((atv cB at1) &&& (255 : Int32))) <<< ((8 : Int32) &&& 31)) ||| ((atv cB (at1 + (1 : Int32))) &&& (255 : Int32))) <<< ((8 : Int32) &&& 31)) ||| ((atv cB (at1 + (2 : Int32))) &&& (255 : Int32)))), .val (.int (3 : Int32))] [(.ref a1), (.ref a2), (.int (((((((0 : Int32) ||| ((atv cB at1) &&& (255 : Int32))) <<< ((8 : Int32) &&& 31)) ||| ((atv cB (at1 + (1 : Int32))) &&& (255 : Int32))) <<< ((8 : Int32) &&& 31)) ||| ((atv cB (at1 + (2 : Int32))) &&& (255 : Int32))) <<< ((8 : Int32) &&& 31)))]))
  obtain ⟨T12, X12, e12, st12⟩ := getF X11 hx hZ hown (host := "") (Or.inl (hw _ (List.mem_of_getElem? (i := 16) rfl))) Via.refl e11 (Fld.ext O0.2 Fl) (g := (mkF m 39 #[.val (.ref a1), .val (.ref a2), .val (.int at1), .val (.int ((((((0 : Int32) ||| ((atv cB at1) &&& (255 : Int32))) <<< ((8 : Int32) &&& 31)) ||| ((atv cB (at1 + (1 : Int32))) &&& (255 : Int32))) <<< ((8 : Int32) &&& 31)) ||| ((atv cB (at1 + (2 : Int32))) &&& (255 : Int32)))), .val (.int (3 : Int32))] [(.ref a1), (.ref a2), (.int (((((((0 : Int32) ||| ((atv cB at1) &&& (255 : Int32))) <<< ((8 : Int32) &&& 31)) ||| ((atv cB (at1 + (1 : Int32))) &&& (255 : Int32))) <<< ((8 : Int32) &&& 31)) ||| ((atv cB (at1 + (2 : Int32))) &&& (255 : Int32))) <<< ((8 : Int32) &&& 31)))])) rfl rfl (hb hby d2_39)
  refine own_st st12 ?_
  show own_G p.tables e below _ (T12.setTop (mkF m 42 #[.val (.ref a1), .val (.ref a2), .val (.int at1), .val (.int ((((((0 : Int32) ||| ((atv cB at1) &&& (255 : Int32))) <<< ((8 : Int32) &&& 31)) ||| ((atv cB (at1 + (1 : Int32))) &&& (255 : Int32))) <<< ((8 : Int32) &&& 31)) ||| ((atv cB (at1 + (2 : Int32))) &&& (255 : Int32)))), .val (.int (3 : Int32))] [(.int (0 : Int32)), (.ref a2), (.int (((((((0 : Int32) ||| ((atv cB at1) &&& (255 : Int32))) <<< ((8 : Int32) &&& 31)) ||| ((atv cB (at1 + (1 : Int32))) &&& (255 : Int32))) <<< ((8 : Int32) &&& 31)) ||| ((atv cB (at1 + (2 : Int32))) &&& (255 : Int32))) <<< ((8 : Int32) &&& 31)))]))
  refine own_st (fun _ kS => XS.ifYes X12.here hx rfl (pc0 := 42) (pc' := 59) rfl (hb hby d2_42) rfl ((if0 _ _).trans (teq (by decide : (0 : Int32) = (0 : Int32))).1) (by decide) (by decide) kS) ?_
  show own_G p.tables e below _ (T12.setTop (mkF m 59 #[.val (.ref a1), .val (.ref a2), .val (.int at1), .val (.int ((((((0 : Int32) ||| ((atv cB at1) &&& (255 : Int32))) <<< ((8 : Int32) &&& 31)) ||| ((atv cB (at1 + (1 : Int32))) &&& (255 : Int32))) <<< ((8 : Int32) &&& 31)) ||| ((atv cB (at1 + (2 : Int32))) &&& (255 : Int32)))), .val (.int (3 : Int32))] [(.ref a2), (.int (((((((0 : Int32) ||| ((atv cB at1) &&& (255 : Int32))) <<< ((8 : Int32) &&& 31)) ||| ((atv cB (at1 + (1 : Int32))) &&& (255 : Int32))) <<< ((8 : Int32) &&& 31)) ||| ((atv cB (at1 + (2 : Int32))) &&& (255 : Int32))) <<< ((8 : Int32) &&& 31)))]))
  refine own_st (fun _ kS => XS.iloadN X12.here hx rfl (hb hby d2_59) rfl kS) ?_
  show own_G p.tables e below _ (T12.setTop (mkF m 60 #[.val (.ref a1), .val (.ref a2), .val (.int at1), .val (.int ((((((0 : Int32) ||| ((atv cB at1) &&& (255 : Int32))) <<< ((8 : Int32) &&& 31)) ||| ((atv cB (at1 + (1 : Int32))) &&& (255 : Int32))) <<< ((8 : Int32) &&& 31)) ||| ((atv cB (at1 + (2 : Int32))) &&& (255 : Int32)))), .val (.int (3 : Int32))] [(.int at1), (.ref a2), (.int (((((((0 : Int32) ||| ((atv cB at1) &&& (255 : Int32))) <<< ((8 : Int32) &&& 31)) ||| ((atv cB (at1 + (1 : Int32))) &&& (255 : Int32))) <<< ((8 : Int32) &&& 31)) ||| ((atv cB (at1 + (2 : Int32))) &&& (255 : Int32))) <<< ((8 : Int32) &&& 31)))]))
  refine own_st (fun _ kS => XS.iload X12.here hx rfl (hb hby d2_60) rfl kS) ?_
  show own_G p.tables e below _ (T12.setTop (mkF m 62 #[.val (.ref a1), .val (.ref a2), .val (.int at1), .val (.int ((((((0 : Int32) ||| ((atv cB at1) &&& (255 : Int32))) <<< ((8 : Int32) &&& 31)) ||| ((atv cB (at1 + (1 : Int32))) &&& (255 : Int32))) <<< ((8 : Int32) &&& 31)) ||| ((atv cB (at1 + (2 : Int32))) &&& (255 : Int32)))), .val (.int (3 : Int32))] [(.int (3 : Int32)), (.int at1), (.ref a2), (.int (((((((0 : Int32) ||| ((atv cB at1) &&& (255 : Int32))) <<< ((8 : Int32) &&& 31)) ||| ((atv cB (at1 + (1 : Int32))) &&& (255 : Int32))) <<< ((8 : Int32) &&& 31)) ||| ((atv cB (at1 + (2 : Int32))) &&& (255 : Int32))) <<< ((8 : Int32) &&& 31)))]))
  refine own_st (fun _ kS => XS.iadd X12.here hx rfl (hb hby d2_62) rfl kS) ?_
  show own_G p.tables e below _ (T12.setTop (mkF m 63 #[.val (.ref a1), .val (.ref a2), .val (.int at1), .val (.int ((((((0 : Int32) ||| ((atv cB at1) &&& (255 : Int32))) <<< ((8 : Int32) &&& 31)) ||| ((atv cB (at1 + (1 : Int32))) &&& (255 : Int32))) <<< ((8 : Int32) &&& 31)) ||| ((atv cB (at1 + (2 : Int32))) &&& (255 : Int32)))), .val (.int (3 : Int32))] [(.int (at1 + (3 : Int32))), (.ref a2), (.int (((((((0 : Int32) ||| ((atv cB at1) &&& (255 : Int32))) <<< ((8 : Int32) &&& 31)) ||| ((atv cB (at1 + (1 : Int32))) &&& (255 : Int32))) <<< ((8 : Int32) &&& 31)) ||| ((atv cB (at1 + (2 : Int32))) &&& (255 : Int32))) <<< ((8 : Int32) &&& 31)))]))
  have ib13 : ¬ ((at1 + (3 : Int32)) < 0 ∨ cB.slots.size ≤ ((at1 + (3 : Int32))).toNatClampNeg) := inb_of Tb.2.1 (own_inb hbn 3 (by decide))
  refine own_st (fun _ kS => X12.baloadBytes hx (j := (at1 + (3 : Int32))) (v := (.int (atv cB (at1 + (3 : Int32))))) (by rw [e12]; exact Tb.1.1) (State.isArrayOf_alike hZ.alike Tb.1.2.1) Tb.1.2.2 ib13 (Tb.2.2.2 _ ib13) (g := (mkF m 63 #[.val (.ref a1), .val (.ref a2), .val (.int at1), .val (.int ((((((0 : Int32) ||| ((atv cB at1) &&& (255 : Int32))) <<< ((8 : Int32) &&& 31)) ||| ((atv cB (at1 + (1 : Int32))) &&& (255 : Int32))) <<< ((8 : Int32) &&& 31)) ||| ((atv cB (at1 + (2 : Int32))) &&& (255 : Int32)))), .val (.int (3 : Int32))] [(.int (at1 + (3 : Int32))), (.ref a2), (.int (((((((0 : Int32) ||| ((atv cB at1) &&& (255 : Int32))) <<< ((8 : Int32) &&& 31)) ||| ((atv cB (at1 + (1 : Int32))) &&& (255 : Int32))) <<< ((8 : Int32) &&& 31)) ||| ((atv cB (at1 + (2 : Int32))) &&& (255 : Int32))) <<< ((8 : Int32) &&& 31)))])) rfl rfl (hb hby d2_63) _ kS) ?_
  show own_G p.tables e below _ (T12.setTop (mkF m 64 #[.val (.ref a1), .val (.ref a2), .val (.int at1), .val (.int ((((((0 : Int32) ||| ((atv cB at1) &&& (255 : Int32))) <<< ((8 : Int32) &&& 31)) ||| ((atv cB (at1 + (1 : Int32))) &&& (255 : Int32))) <<< ((8 : Int32) &&& 31)) ||| ((atv cB (at1 + (2 : Int32))) &&& (255 : Int32)))), .val (.int (3 : Int32))] [(.int (atv cB (at1 + (3 : Int32)))), (.int (((((((0 : Int32) ||| ((atv cB at1) &&& (255 : Int32))) <<< ((8 : Int32) &&& 31)) ||| ((atv cB (at1 + (1 : Int32))) &&& (255 : Int32))) <<< ((8 : Int32) &&& 31)) ||| ((atv cB (at1 + (2 : Int32))) &&& (255 : Int32))) <<< ((8 : Int32) &&& 31)))]))
  refine own_st (fun _ kS => XS.sipush X12.here hx rfl (hb hby d2_64) kS) ?_
  show own_G p.tables e below _ (T12.setTop (mkF m 67 #[.val (.ref a1), .val (.ref a2), .val (.int at1), .val (.int ((((((0 : Int32) ||| ((atv cB at1) &&& (255 : Int32))) <<< ((8 : Int32) &&& 31)) ||| ((atv cB (at1 + (1 : Int32))) &&& (255 : Int32))) <<< ((8 : Int32) &&& 31)) ||| ((atv cB (at1 + (2 : Int32))) &&& (255 : Int32)))), .val (.int (3 : Int32))] [(.int (255 : Int32)), (.int (atv cB (at1 + (3 : Int32)))), (.int (((((((0 : Int32) ||| ((atv cB at1) &&& (255 : Int32))) <<< ((8 : Int32) &&& 31)) ||| ((atv cB (at1 + (1 : Int32))) &&& (255 : Int32))) <<< ((8 : Int32) &&& 31)) ||| ((atv cB (at1 + (2 : Int32))) &&& (255 : Int32))) <<< ((8 : Int32) &&& 31)))]))
  refine own_st (fun _ kS => XS.iand X12.here hx rfl (hb hby d2_67) rfl kS) ?_
  show own_G p.tables e below _ (T12.setTop (mkF m 68 #[.val (.ref a1), .val (.ref a2), .val (.int at1), .val (.int ((((((0 : Int32) ||| ((atv cB at1) &&& (255 : Int32))) <<< ((8 : Int32) &&& 31)) ||| ((atv cB (at1 + (1 : Int32))) &&& (255 : Int32))) <<< ((8 : Int32) &&& 31)) ||| ((atv cB (at1 + (2 : Int32))) &&& (255 : Int32)))), .val (.int (3 : Int32))] [(.int ((atv cB (at1 + (3 : Int32))) &&& (255 : Int32))), (.int (((((((0 : Int32) ||| ((atv cB at1) &&& (255 : Int32))) <<< ((8 : Int32) &&& 31)) ||| ((atv cB (at1 + (1 : Int32))) &&& (255 : Int32))) <<< ((8 : Int32) &&& 31)) ||| ((atv cB (at1 + (2 : Int32))) &&& (255 : Int32))) <<< ((8 : Int32) &&& 31)))]))
  refine own_st (fun _ kS => XT.ior X12.here hx rfl (hb hby d2_68) rfl kS) ?_
  show own_G p.tables e below _ (T12.setTop (mkF m 69 #[.val (.ref a1), .val (.ref a2), .val (.int at1), .val (.int ((((((0 : Int32) ||| ((atv cB at1) &&& (255 : Int32))) <<< ((8 : Int32) &&& 31)) ||| ((atv cB (at1 + (1 : Int32))) &&& (255 : Int32))) <<< ((8 : Int32) &&& 31)) ||| ((atv cB (at1 + (2 : Int32))) &&& (255 : Int32)))), .val (.int (3 : Int32))] [(.int ((((((((0 : Int32) ||| ((atv cB at1) &&& (255 : Int32))) <<< ((8 : Int32) &&& 31)) ||| ((atv cB (at1 + (1 : Int32))) &&& (255 : Int32))) <<< ((8 : Int32) &&& 31)) ||| ((atv cB (at1 + (2 : Int32))) &&& (255 : Int32))) <<< ((8 : Int32) &&& 31)) ||| ((atv cB (at1 + (3 : Int32))) &&& (255 : Int32))))]))
  refine own_st (fun _ kS => XS.istoreN X12.here hx rfl (hb hby d2_69) rfl (l' := #[.val (.ref a1), .val (.ref a2), .val (.int at1), .val (.int ((((((((0 : Int32) ||| ((atv cB at1) &&& (255 : Int32))) <<< ((8 : Int32) &&& 31)) ||| ((atv cB (at1 + (1 : Int32))) &&& (255 : Int32))) <<< ((8 : Int32) &&& 31)) ||| ((atv cB (at1 + (2 : Int32))) &&& (255 : Int32))) <<< ((8 : Int32) &&& 31)) ||| ((atv cB (at1 + (3 : Int32))) &&& (255 : Int32)))), .val (.int (3 : Int32))]) rfl kS) ?_
  show own_G p.tables e below _ (T12.setTop (mkF m 70 #[.val (.ref a1), .val (.ref a2), .val (.int at1), .val (.int ((((((((0 : Int32) ||| ((atv cB at1) &&& (255 : Int32))) <<< ((8 : Int32) &&& 31)) ||| ((atv cB (at1 + (1 : Int32))) &&& (255 : Int32))) <<< ((8 : Int32) &&& 31)) ||| ((atv cB (at1 + (2 : Int32))) &&& (255 : Int32))) <<< ((8 : Int32) &&& 31)) ||| ((atv cB (at1 + (3 : Int32))) &&& (255 : Int32)))), .val (.int (3 : Int32))] []))
  refine own_st (fun _ kS => XS.iinc X12.here hx rfl (hb hby d2_70) rfl (l' := #[.val (.ref a1), .val (.ref a2), .val (.int at1), .val (.int ((((((((0 : Int32) ||| ((atv cB at1) &&& (255 : Int32))) <<< ((8 : Int32) &&& 31)) ||| ((atv cB (at1 + (1 : Int32))) &&& (255 : Int32))) <<< ((8 : Int32) &&& 31)) ||| ((atv cB (at1 + (2 : Int32))) &&& (255 : Int32))) <<< ((8 : Int32) &&& 31)) ||| ((atv cB (at1 + (3 : Int32))) &&& (255 : Int32)))), .val (.int (4 : Int32))]) rfl kS) ?_
  show own_G p.tables e below _ (T12.setTop (mkF m 73 #[.val (.ref a1), .val (.ref a2), .val (.int at1), .val (.int ((((((((0 : Int32) ||| ((atv cB at1) &&& (255 : Int32))) <<< ((8 : Int32) &&& 31)) ||| ((atv cB (at1 + (1 : Int32))) &&& (255 : Int32))) <<< ((8 : Int32) &&& 31)) ||| ((atv cB (at1 + (2 : Int32))) &&& (255 : Int32))) <<< ((8 : Int32) &&& 31)) ||| ((atv cB (at1 + (3 : Int32))) &&& (255 : Int32)))), .val (.int (4 : Int32))] []))
  refine own_st (fun _ kS => XS.goto X12.here hx rfl (pc0 := 73) (pc' := 24) rfl (hb hby d2_73) (by decide) (by decide) kS) ?_
  show own_G p.tables e below _ (T12.setTop (mkF m 24 #[.val (.ref a1), .val (.ref a2), .val (.int at1), .val (.int ((((((((0 : Int32) ||| ((atv cB at1) &&& (255 : Int32))) <<< ((8 : Int32) &&& 31)) ||| ((atv cB (at1 + (1 : Int32))) &&& (255 : Int32))) <<< ((8 : Int32) &&& 31)) ||| ((atv cB (at1 + (2 : Int32))) &&& (255 : Int32))) <<< ((8 : Int32) &&& 31)) ||| ((atv cB (at1 + (3 : Int32))) &&& (255 : Int32)))), .val (.int (4 : Int32))] []))
  refine own_st (fun _ kS => XS.iload X12.here hx rfl (hb hby d2_24) rfl kS) ?_
  show own_G p.tables e below _ (T12.setTop (mkF m 26 #[.val (.ref a1), .val (.ref a2), .val (.int at1), .val (.int ((((((((0 : Int32) ||| ((atv cB at1) &&& (255 : Int32))) <<< ((8 : Int32) &&& 31)) ||| ((atv cB (at1 + (1 : Int32))) &&& (255 : Int32))) <<< ((8 : Int32) &&& 31)) ||| ((atv cB (at1 + (2 : Int32))) &&& (255 : Int32))) <<< ((8 : Int32) &&& 31)) ||| ((atv cB (at1 + (3 : Int32))) &&& (255 : Int32)))), .val (.int (4 : Int32))] [(.int (4 : Int32))]))
  refine own_st (fun _ kS => XS.aloadN X12.here hx rfl (hb hby d2_26) rfl rfl kS) ?_
  show own_G p.tables e below _ (T12.setTop (mkF m 27 #[.val (.ref a1), .val (.ref a2), .val (.int at1), .val (.int ((((((((0 : Int32) ||| ((atv cB at1) &&& (255 : Int32))) <<< ((8 : Int32) &&& 31)) ||| ((atv cB (at1 + (1 : Int32))) &&& (255 : Int32))) <<< ((8 : Int32) &&& 31)) ||| ((atv cB (at1 + (2 : Int32))) &&& (255 : Int32))) <<< ((8 : Int32) &&& 31)) ||| ((atv cB (at1 + (3 : Int32))) &&& (255 : Int32)))), .val (.int (4 : Int32))] [(.ref a1), (.int (4 : Int32))]))
  obtain ⟨T14, X14, e14, st14⟩ := getF X12 hx hZ hown (host := "") (Or.inl (hw _ (List.mem_of_getElem? (i := 14) rfl))) Via.refl e12 (Fld.ext O0.2 Fw) (g := (mkF m 27 #[.val (.ref a1), .val (.ref a2), .val (.int at1), .val (.int ((((((((0 : Int32) ||| ((atv cB at1) &&& (255 : Int32))) <<< ((8 : Int32) &&& 31)) ||| ((atv cB (at1 + (1 : Int32))) &&& (255 : Int32))) <<< ((8 : Int32) &&& 31)) ||| ((atv cB (at1 + (2 : Int32))) &&& (255 : Int32))) <<< ((8 : Int32) &&& 31)) ||| ((atv cB (at1 + (3 : Int32))) &&& (255 : Int32)))), .val (.int (4 : Int32))] [(.ref a1), (.int (4 : Int32))])) rfl rfl (hb hby d2_27)
  refine own_st st14 ?_
  show own_G p.tables e below _ (T14.setTop (mkF m 30 #[.val (.ref a1), .val (.ref a2), .val (.int at1), .val (.int ((((((((0 : Int32) ||| ((atv cB at1) &&& (255 : Int32))) <<< ((8 : Int32) &&& 31)) ||| ((atv cB (at1 + (1 : Int32))) &&& (255 : Int32))) <<< ((8 : Int32) &&& 31)) ||| ((atv cB (at1 + (2 : Int32))) &&& (255 : Int32))) <<< ((8 : Int32) &&& 31)) ||| ((atv cB (at1 + (3 : Int32))) &&& (255 : Int32)))), .val (.int (4 : Int32))] [(.int (4 : Int32)), (.int (4 : Int32))]))
  refine own_st (fun _ kS => XS.icmpYes X14.here hx rfl (pc0 := 30) (pc' := 76) rfl (hb hby d2_30) rfl (flt (by decide : ¬ ((4 : Int32) < (4 : Int32)))).2.1 (by decide) (by decide) kS) ?_
  show own_G p.tables e below _ (T14.setTop (mkF m 76 #[.val (.ref a1), .val (.ref a2), .val (.int at1), .val (.int ((((((((0 : Int32) ||| ((atv cB at1) &&& (255 : Int32))) <<< ((8 : Int32) &&& 31)) ||| ((atv cB (at1 + (1 : Int32))) &&& (255 : Int32))) <<< ((8 : Int32) &&& 31)) ||| ((atv cB (at1 + (2 : Int32))) &&& (255 : Int32))) <<< ((8 : Int32) &&& 31)) ||| ((atv cB (at1 + (3 : Int32))) &&& (255 : Int32)))), .val (.int (4 : Int32))] []))
  refine own_st (fun _ kS => XS.iloadN X14.here hx rfl (hb hby d2_76) rfl kS) ?_
  show own_G p.tables e below _ (T14.setTop (mkF m 77 #[.val (.ref a1), .val (.ref a2), .val (.int at1), .val (.int ((((((((0 : Int32) ||| ((atv cB at1) &&& (255 : Int32))) <<< ((8 : Int32) &&& 31)) ||| ((atv cB (at1 + (1 : Int32))) &&& (255 : Int32))) <<< ((8 : Int32) &&& 31)) ||| ((atv cB (at1 + (2 : Int32))) &&& (255 : Int32))) <<< ((8 : Int32) &&& 31)) ||| ((atv cB (at1 + (3 : Int32))) &&& (255 : Int32)))), .val (.int (4 : Int32))] [(.int ((((((((0 : Int32) ||| ((atv cB at1) &&& (255 : Int32))) <<< ((8 : Int32) &&& 31)) ||| ((atv cB (at1 + (1 : Int32))) &&& (255 : Int32))) <<< ((8 : Int32) &&& 31)) ||| ((atv cB (at1 + (2 : Int32))) &&& (255 : Int32))) <<< ((8 : Int32) &&& 31)) ||| ((atv cB (at1 + (3 : Int32))) &&& (255 : Int32))))]))
  exact own_retI X14 hx hlk hret (hb hby d2_77) (by decide) (by decide) (by rw [e14]; exact ⟨rfl, N0, rfl⟩)
theorem ef_unitAt_4_1 (m : MethodId) (x0 : Addr) (x1 : Addr) (x2 : Int32) : entryFrame m #[(.ref x0), (.ref x1), (.int x2)] 5 = mkF m 0 #[.val (.ref x0), .val (.ref x1), .val (.int x2), .unset, .unset] [] := by first | (simp [entryFrame, mkF, argsToLocals, Value.category]; done) | rfl
def Q_unitAt_4_1 (Z : State) (a1 : Addr) (a2 : Addr) (cB : Cell) (at1 : Int32) (h0 : Heap) (n0 : Nat) (v : Option Value) (h : Heap) (L : List Loc) : Prop := v = some (.int ((((((((0 : Int32) ||| ((atv cB (at1 + (3 : Int32))) &&& (255 : Int32))) <<< ((8 : Int32) &&& 31)) ||| ((atv cB (at1 + (2 : Int32))) &&& (255 : Int32))) <<< ((8 : Int32) &&& 31)) ||| ((atv cB (at1 + (1 : Int32))) &&& (255 : Int32))) <<< ((8 : Int32) &&& 31)) ||| ((atv cB at1) &&& (255 : Int32)))) ∧ Fr n0 L ∧ h = h0
set_option maxRecDepth 65536 in
set_option maxHeartbeats 40000000 in
theorem rm_unitAt_4_1 (l : Launch) (Z : State) (a0 : Array Value) (hw : ∀ d ∈ tables_1, d.before a0 Z = true) (ws : List Jvm.Cond) (a1 : Addr) (a2 : Addr) (cB : Cell) (at1 : Int32) (h0 : Heap) (n0 : Nat) (Z0 : n0 ≤ h0.size) (O0 : Old Z n0 h0) (Fw : Fld Z Z.heap a1 "com/example/provenir/provenir/TextEncoding" "width" "I" (.int (4 : Int32))) (Fl : Fld Z Z.heap a1 "com/example/provenir/provenir/TextEncoding" "littleEndian" "Z" (.int (1 : Int32))) (Tb : Tab Z h0 a2 cB .byte (8 : Int32)) (hbn : 0 ≤ at1.toInt ∧ at1.toInt < 5) :
    MetFree l (⟨"com/example/provenir/provenir/TextEncoding", "unitAt", "([BI)I"⟩ : MethodName) (head1 (Jvm.Cond.code (⟨"com/example/provenir/provenir/TextEncoding", "unitAt", "([BI)I"⟩ : MethodName) prog_73_method_8_code 5 (some .int) :: ws) ({ frames := 0, cells := 0, slots := 0, locals := 0 } : Room)) (fun a U => a = #[(.ref a1), (.ref a2), (.int at1)] ∧ Z.Warmed39 U.vm ∧ U.heap = h0) (fun _ _ _ _ _ => True) (fun _ U o U' => ∃ v L, o = .returned v ∧ Q_unitAt_4_1 Z a1 a2 cB at1 h0 n0 v U'.heap L ∧ FrameEnd U o U' L ({ frames := 0, cells := 0, slots := 0, locals := 0 } : Room).cells ({ frames := 0, cells := 0, slots := 0, locals := 0 } : Room).slots) := by
  refine MetFree.of_bodySF (plainFor_of_name pn_2) hisR ?_
  intro p e s m args below meth c s₁ Bd hml0 hP hK
  obtain ⟨rfl, hZ, hh⟩ := hP
  have hx := Bd.exec
  have hby := Bd.bytes
  have hml : c.maxLocals = 5 := hml0
  have hown : s.vm.findClass "com/example/provenir/provenir/TextEncoding" = some m.cls := findClass_of_methodNamed Bd.named
  have hnm := (name_of_methodNamed Bd.named Bd.method).1
  have hlk := Bd.notSynchronized
  have hret := Bd.returns
  have X0 : Stand p l e ({ frames := 0, cells := 0, slots := 0, locals := 0 } : Room) s m #[(.ref a1), (.ref a2), (.int at1)] below meth c s₁ [] 0 0 := Stand.of_body Bd
  have e0 : s₁.heap = h0 := by rw [← hh, Bd.state]; rfl
  have N0 := Fr.nil n0
  refine own_in ({ frames := 0, cells := 0, slots := 0, locals := 0 } : Room).cells ({ frames := 0, cells := 0, slots := 0, locals := 0 } : Room).slots (Q_unitAt_4_1 Z a1 a2 cB at1 h0 n0) (ef_unitAt_4_1 m a1 a2 at1) ?_
  show own_G p.tables e below _ (s₁.setTop (mkF m 0 #[.val (.ref a1), .val (.ref a2), .val (.int at1), .unset, .unset] []))
  refine own_st (fun _ kS => XS.aloadN X0.here hx rfl (hb hby d2_0) rfl rfl kS) ?_
  show own_G p.tables e below _ (s₁.setTop (mkF m 1 #[.val (.ref a1), .val (.ref a2), .val (.int at1), .unset, .unset] [(.ref a1)]))
  obtain ⟨T1, X1, e1, st1⟩ := getF X0 hx hZ hown (host := "") (Or.inl (hw _ (List.mem_of_getElem? (i := 14) rfl))) Via.refl e0 (Fld.ext O0.2 Fw) (g := (mkF m 1 #[.val (.ref a1), .val (.ref a2), .val (.int at1), .unset, .unset] [(.ref a1)])) rfl rfl (hb hby d2_1)
  refine own_st st1 ?_
  show own_G p.tables e below _ (T1.setTop (mkF m 4 #[.val (.ref a1), .val (.ref a2), .val (.int at1), .unset, .unset] [(.int (4 : Int32))]))
  refine own_st (fun _ kS => XS.iconst X1.here hx rfl (hb hby d2_4) kS) ?_
  show own_G p.tables e below _ (T1.setTop (mkF m 5 #[.val (.ref a1), .val (.ref a2), .val (.int at1), .unset, .unset] [(.int (1 : Int32)), (.int (4 : Int32))]))
  refine own_st (fun _ kS => XS.icmpYes X1.here hx rfl (pc0 := 5) (pc' := 19) rfl (hb hby d2_5) rfl (feq (by decide : ¬ ((4 : Int32) = (1 : Int32)))).2 (by decide) (by decide) kS) ?_
  show own_G p.tables e below _ (T1.setTop (mkF m 19 #[.val (.ref a1), .val (.ref a2), .val (.int at1), .unset, .unset] []))
  refine own_st (fun _ kS => XS.iconst X1.here hx rfl (hb hby d2_19) kS) ?_
  show own_G p.tables e below _ (T1.setTop (mkF m 20 #[.val (.ref a1), .val (.ref a2), .val (.int at1), .unset, .unset] [(.int (0 : Int32))]))
  refine own_st (fun _ kS => XS.istoreN X1.here hx rfl (hb hby d2_20) rfl (l' := #[.val (.ref a1), .val (.ref a2), .val (.int at1), .val (.int (0 : Int32)), .unset]) rfl kS) ?_
  show own_G p.tables e below _ (T1.setTop (mkF m 21 #[.val (.ref a1), .val (.ref a2), .val (.int at1), .val (.int (0 : Int32)), .unset] []))
  refine own_st (fun _ kS => XS.iconst X1.here hx rfl (hb hby d2_21) kS) ?_
  show own_G p.tables e below _ (T1.setTop (mkF m 22 #[.val (.ref a1), .val (.ref a2), .val (.int at1), .val (.int (0 : Int32)), .unset] [(.int (0 : Int32))]))
  refine own_st (fun _ kS => XS.istore X1.here hx rfl (hb hby d2_22) rfl (l' := #[.val (.ref a1), .val (.ref a2), .val (.int at1), .val (.int (0 : Int32)), .val (.int (0 : Int32))]) rfl kS) ?_
  show own_G p.tables e below _ (T1.setTop (mkF m 24 #[.val (.ref a1), .val (.ref a2), .val (.int at1), .val (.int (0 : Int32)), .val (.int (0 : Int32))] []))
  refine own_st (fun _ kS => XS.iload X1.here hx rfl (hb hby d2_24) rfl kS) ?_
  show own_G p.tables e below _ (T1.setTop (mkF m 26 #[.val (.ref a1), .val (.ref a2), .val (.int at1), .val (.int (0 : Int32)), .val (.int (0 : Int32))] [(.int (0 : Int32))]))
  refine own_st (fun _ kS => XS.aloadN X1.here hx rfl (hb hby d2_26) rfl rfl kS) ?_
  show own_G p.tables e below _ (T1.setTop (mkF m 27 #[.val (.ref a1), .val (.ref a2), .val (.int at1), .val (.int (0 : Int32)), .val (.int (0 : Int32))] [(.ref a1), (.int (0 : Int32))]))
  obtain ⟨T2, X2, e2, st2⟩ := getF X1 hx hZ hown (host := "") (Or.inl (hw _ (List.mem_of_getElem? (i := 14) rfl))) Via.refl e1 (Fld.ext O0.2 Fw) (g := (mkF m 27 #[.val (.ref a1), .val (.ref a2), .val (.int at1), .val (.int (0 : Int32)), .val (.int (0 : Int32))] [(.ref a1), (.int (0 : Int32))])) rfl rfl (hb hby d2_27)
  refine own_st st2 ?_
  show own_G p.tables e below _ (T2.setTop (mkF m 30 #[.val (.ref a1), .val (.ref a2), .val (.int at1), .val (.int (0 : Int32)), .val (.int (0 : Int32))] [(.int (4 : Int32)), (.int (0 : Int32))]))
  refine own_st (fun _ kS => XS.icmpNo X2.here hx rfl (hb hby d2_30) rfl (tlt (by decide : (0 : Int32) < (4 : Int32))).2.1 kS) ?_
  show own_G p.tables e below _ (T2.setTop (mkF m 33 #[.val (.ref a1), .val (.ref a2), .val (.int at1), .val (.int (0 : Int32)), .val (.int (0 : Int32))] []))
  refine own_st (fun _ kS => XS.iloadN X2.here hx rfl (hb hby d2_33) rfl kS) ?_
  show own_G p.tables e below _ (T2.setTop (mkF m 34 #[.val (.ref a1), .val (.ref a2), .val (.int at1), .val (.int (0 : Int32)), .val (.int (0 : Int32))] [(.int (0 : Int32))]))
  refine own_st (fun _ kS => XS.bipush X2.here hx rfl (hb hby d2_34) kS) ?_
  show own_G p.tables e below _ (T2.setTop (mkF m 36 #[.val (.ref a1), .val (.ref a2), .val (.int at1), .val (.int (0 : Int32)), .val (.int (0 : Int32))] [(.int (8 : Int32)), (.int (0 : Int32))]))
  refine own_st (fun _ kS => XT.ishl X2.here hx rfl (hb hby d2_36) rfl kS) ?_
  show own_G p.tables e below _ (T2.setTop (mkF m 37 #[.val (.ref a1), .val (.ref a2), .val (.int at1), .val (.int (0 : Int32)), .val (.int (0 : Int32))] [(.int (0 : Int32))]))
  refine own_st (fun _ kS => XS.aloadN X2.here hx rfl (hb hby d2_37) rfl rfl kS) ?_
  show own_G p.tables e below _ (T2.setTop (mkF m 38 #[.val (.ref a1), .val (.ref a2), .val (.int at1), .val (.int (0 : Int32)), .val (.int (0 : Int32))] [(.ref a2), (.int (0 : Int32))]))
  refine own_st (fun _ kS => XS.aloadN X2.here hx rfl (hb hby d2_38) rfl rfl kS) ?_
  show own_G p.tables e below _ (T2.setTop (mkF m 39 #[.val (.ref a1), .val (.ref a2), .val (.int at1), .val (.int (0 : Int32)), .val (.int (0 : Int32))] [(.ref a1), (.ref a2), (.int (0 : Int32))]))
  obtain ⟨T3, X3, e3, st3⟩ := getF X2 hx hZ hown (host := "") (Or.inl (hw _ (List.mem_of_getElem? (i := 16) rfl))) Via.refl e2 (Fld.ext O0.2 Fl) (g := (mkF m 39 #[.val (.ref a1), .val (.ref a2), .val (.int at1), .val (.int (0 : Int32)), .val (.int (0 : Int32))] [(.ref a1), (.ref a2), (.int (0 : Int32))])) rfl rfl (hb hby d2_39)
  refine own_st st3 ?_
  show own_G p.tables e below _ (T3.setTop (mkF m 42 #[.val (.ref a1), .val (.ref a2), .val (.int at1), .val (.int (0 : Int32)), .val (.int (0 : Int32))] [(.int (1 : Int32)), (.ref a2), (.int (0 : Int32))]))
  refine own_st (fun _ kS => XS.ifNo X3.here hx rfl (hb hby d2_42) rfl ((if0 _ _).trans (feq (by decide : ¬ ((1 : Int32) = (0 : Int32)))).1) kS) ?_
  show own_G p.tables e below _ (T3.setTop (mkF m 45 #[.val (.ref a1), .val (.ref a2), .val (.int at1), .val (.int (0 : Int32)), .val (.int (0 : Int32))] [(.ref a2), (.int (0 : Int32))]))
  refine own_st (fun _ kS => XS.iloadN X3.here hx rfl (hb hby d2_45) rfl kS) ?_
  show own_G p.tables e below _ (T3.setTop (mkF m 46 #[.val (.ref a1), .val (.ref a2), .val (.int at1), .val (.int (0 : Int32)), .val (.int (0 : Int32))] [(.int at1), (.ref a2), (.int (0 : Int32))]))
  refine own_st (fun _ kS => XS.aloadN X3.here hx rfl (hb hby d2_46) rfl rfl kS) ?_
  show own_G p.tables e below _ (T3.setTop (mkF m 47 #[.val (.ref a1), .val (.ref a2), .val (.int at1), .val (.int (0 : Int32)), .val (.int (0 : Int32))] [(.ref a1), (.int at1), (.ref a2), (.int (0 : Int32))]))
  obtain ⟨T4, X4, e4, st4⟩ := getF X3 hx hZ hown (host := "") (Or.inl (hw _ (List.mem_of_getElem? (i := 14) rfl))) Via.refl e3 (Fld.ext O0.2 Fw) (g := (mkF m 47 #[.val (.ref a1), .val (.ref a2), .val (.int at1), .val (.int (0 : Int32)), .val (.int (0 : Int32))] [(.ref a1), (.int at1), (.ref a2), (.int (0 : Int32))])) rfl rfl (hb hby d2_47)
  refine own_st st4 ?_
  show own_G p.tables e below _ (T4.setTop (mkF m 50 #[.val (.ref a1), .val (.ref a2), .val (.int at1), .val (.int (0 : Int32)), .val (.int (0 : Int32))] [(.int (4 : Int32)), (.int at1), (.ref a2), (.int (0 : Int32))]))
  refine own_st (fun _ kS => XS.iadd X4.here hx rfl (hb hby d2_50) rfl kS) ?_
  show own_G p.tables e below _ (T4.setTop (mkF m 51 #[.val (.ref a1), .val (.ref a2), .val (.int at1), .val (.int (0 : Int32)), .val (.int (0 : Int32))] [(.int (at1 + (4 : Int32))), (.ref a2), (.int (0 : Int32))]))
  refine own_st (fun _ kS => XS.iconst X4.here hx rfl (hb hby d2_51) kS) ?_
  show own_G p.tables e below _ (T4.setTop (mkF m 52 #[.val (.ref a1), .val (.ref a2), .val (.int at1), .val (.int (0 : Int32)), .val (.int (0 : Int32))] [(.int (1 : Int32)), (.int (at1 + (4 : Int32))), (.ref a2), (.int (0 : Int32))]))
  refine own_st (fun _ kS => XS.isub X4.here hx rfl (hb hby d2_52) rfl kS) ?_
  show own_G p.tables e below _ (T4.setTop (mkF m 53 #[.val (.ref a1), .val (.ref a2), .val (.int at1), .val (.int (0 : Int32)), .val (.int (0 : Int32))] [(.int ((at1 + (4 : Int32)) - (1 : Int32))), (.ref a2), (.int (0 : Int32))]))
  refine own_st (fun _ kS => XS.iload X4.here hx rfl (hb hby d2_53) rfl kS) ?_
  show own_G p.tables e below _ (T4.setTop (mkF m 55 #[.val (.ref a1), .val (.ref a2), .val (.int at1), .val (.int (0 : Int32)), .val (.int (0 : Int32))] [(.int (0 : Int32)), (.int ((at1 + (4 : Int32)) - (1 : Int32))), (.ref a2), (.int (0 : Int32))]))
  refine own_st (fun _ kS => XS.isub X4.here hx rfl (hb hby d2_55) rfl kS) ?_
  show own_G p.tables e below _ (T4.setTop (mkF m 56 #[.val (.ref a1), .val (.ref a2), .val (.int at1), .val (.int (0 : Int32)), .val (.int (0 : Int32))] [(.int (((at1 + (4 : Int32)) - (1 : Int32)) - (0 : Int32))), (.ref a2), (.int (0 : Int32))]))
  refine own_st (fun _ kS => XS.goto X4.here hx rfl (pc0 := 56) (pc' := 63) rfl (hb hby d2_56) (by decide) (by decide) kS) ?_
  show own_G p.tables e below _ (T4.setTop (mkF m 63 #[.val (.ref a1), .val (.ref a2), .val (.int at1), .val (.int (0 : Int32)), .val (.int (0 : Int32))] [(.int (((at1 + (4 : Int32)) - (1 : Int32)) - (0 : Int32))), (.ref a2), (.int (0 : Int32))]))
  rw [own_ixL at1 4 0 3 (by decide) (by decide) (by decide)]
  show own_G p.tables e below _ (T4.setTop (mkF m 63 #[.val (.ref a1), .val (.ref a2), .val (.int at1), .val (.int (0 : Int32)), .val (.int (0 : Int32))] [(.int (at1 + (3 : Int32))), (.ref a2), (.int (0 : Int32))]))
  have ib5 : ¬ ((at1 + (3 : Int32)) < 0 ∨ cB.slots.size ≤ ((at1 + (3 : Int32))).toNatClampNeg) := inb_of Tb.2.1 (own_inb hbn 3 (by decide))
  refine own_st (fun _ kS => X4.baloadBytes hx (j := (at1 + (3 : Int32))) (v := (.int (atv cB (at1 + (3 : Int32))))) (by rw [e4]; exact Tb.1.1) (State.isArrayOf_alike hZ.alike Tb.1.2.1) Tb.1.2.2 ib5 (Tb.2.2.2 _ ib5) (g := (mkF m 63 #[.val (.ref a1), .val (.ref a2), .val (.int at1), .val (.int (0 : Int32)), .val (.int (0 : Int32))] [(.int (at1 + (3 : Int32))), (.ref a2), (.int (0 : Int32))])) rfl rfl (hb hby d2_63) _ kS) ?_
  show own_G p.tables e below _ (T4.setTop (mkF m 64 #[.val (.ref a1), .val (.ref a2), .val (.int at1), .val (.int (0 : Int32)), .val (.int (0 : Int32))] [(.int (atv cB (at1 + (3 : Int32)))), (.int (0 : Int32))]))
  refine own_st (fun _ kS => XS.sipush X4.here hx rfl (hb hby d2_64) kS) ?_
  show own_G p.tables e below _ (T4.setTop (mkF m 67 #[.val (.ref a1), .val (.ref a2), .val (.int at1), .val (.int (0 : Int32)), .val (.int (0 : Int32))] [(.int (255 : Int32)), (.int (atv cB (at1 + (3 : Int32)))), (.int (0 : Int32))]))
  refine own_st (fun _ kS => XS.iand X4.here hx rfl (hb hby d2_67) rfl kS) ?_
  show own_G p.tables e below _ (T4.setTop (mkF m 68 #[.val (.ref a1), .val (.ref a2), .val (.int at1), .val (.int (0 : Int32)), .val (.int (0 : Int32))] [(.int ((atv cB (at1 + (3 : Int32))) &&& (255 : Int32))), (.int (0 : Int32))]))
  refine own_st (fun _ kS => XT.ior X4.here hx rfl (hb hby d2_68) rfl kS) ?_
  show own_G p.tables e below _ (T4.setTop (mkF m 69 #[.val (.ref a1), .val (.ref a2), .val (.int at1), .val (.int (0 : Int32)), .val (.int (0 : Int32))] [(.int ((0 : Int32) ||| ((atv cB (at1 + (3 : Int32))) &&& (255 : Int32))))]))
  refine own_st (fun _ kS => XS.istoreN X4.here hx rfl (hb hby d2_69) rfl (l' := #[.val (.ref a1), .val (.ref a2), .val (.int at1), .val (.int ((0 : Int32) ||| ((atv cB (at1 + (3 : Int32))) &&& (255 : Int32)))), .val (.int (0 : Int32))]) rfl kS) ?_
  show own_G p.tables e below _ (T4.setTop (mkF m 70 #[.val (.ref a1), .val (.ref a2), .val (.int at1), .val (.int ((0 : Int32) ||| ((atv cB (at1 + (3 : Int32))) &&& (255 : Int32)))), .val (.int (0 : Int32))] []))
  refine own_st (fun _ kS => XS.iinc X4.here hx rfl (hb hby d2_70) rfl (l' := #[.val (.ref a1), .val (.ref a2), .val (.int at1), .val (.int ((0 : Int32) ||| ((atv cB (at1 + (3 : Int32))) &&& (255 : Int32)))), .val (.int (1 : Int32))]) rfl kS) ?_
  show own_G p.tables e below _ (T4.setTop (mkF m 73 #[.val (.ref a1), .val (.ref a2), .val (.int at1), .val (.int ((0 : Int32) ||| ((atv cB (at1 + (3 : Int32))) &&& (255 : Int32)))), .val (.int (1 : Int32))] []))
  refine own_st (fun _ kS => XS.goto X4.here hx rfl (pc0 := 73) (pc' := 24) rfl (hb hby d2_73) (by decide) (by decide) kS) ?_
  show own_G p.tables e below _ (T4.setTop (mkF m 24 #[.val (.ref a1), .val (.ref a2), .val (.int at1), .val (.int ((0 : Int32) ||| ((atv cB (at1 + (3 : Int32))) &&& (255 : Int32)))), .val (.int (1 : Int32))] []))
  refine own_st (fun _ kS => XS.iload X4.here hx rfl (hb hby d2_24) rfl kS) ?_
  show own_G p.tables e below _ (T4.setTop (mkF m 26 #[.val (.ref a1), .val (.ref a2), .val (.int at1), .val (.int ((0 : Int32) ||| ((atv cB (at1 + (3 : Int32))) &&& (255 : Int32)))), .val (.int (1 : Int32))] [(.int (1 : Int32))]))
  refine own_st (fun _ kS => XS.aloadN X4.here hx rfl (hb hby d2_26) rfl rfl kS) ?_
  show own_G p.tables e below _ (T4.setTop (mkF m 27 #[.val (.ref a1), .val (.ref a2), .val (.int at1), .val (.int ((0 : Int32) ||| ((atv cB (at1 + (3 : Int32))) &&& (255 : Int32)))), .val (.int (1 : Int32))] [(.ref a1), (.int (1 : Int32))]))
  obtain ⟨T6, X6, e6, st6⟩ := getF X4 hx hZ hown (host := "") (Or.inl (hw _ (List.mem_of_getElem? (i := 14) rfl))) Via.refl e4 (Fld.ext O0.2 Fw) (g := (mkF m 27 #[.val (.ref a1), .val (.ref a2), .val (.int at1), .val (.int ((0 : Int32) ||| ((atv cB (at1 + (3 : Int32))) &&& (255 : Int32)))), .val (.int (1 : Int32))] [(.ref a1), (.int (1 : Int32))])) rfl rfl (hb hby d2_27)
  refine own_st st6 ?_
  show own_G p.tables e below _ (T6.setTop (mkF m 30 #[.val (.ref a1), .val (.ref a2), .val (.int at1), .val (.int ((0 : Int32) ||| ((atv cB (at1 + (3 : Int32))) &&& (255 : Int32)))), .val (.int (1 : Int32))] [(.int (4 : Int32)), (.int (1 : Int32))]))
  refine own_st (fun _ kS => XS.icmpNo X6.here hx rfl (hb hby d2_30) rfl (tlt (by decide : (1 : Int32) < (4 : Int32))).2.1 kS) ?_
  show own_G p.tables e below _ (T6.setTop (mkF m 33 #[.val (.ref a1), .val (.ref a2), .val (.int at1), .val (.int ((0 : Int32) ||| ((atv cB (at1 + (3 : Int32))) &&& (255 : Int32)))), .val (.int (1 : Int32))] []))
  refine own_st (fun _ kS => XS.iloadN X6.here hx rfl (hb hby d2_33) rfl kS) ?_
  show own_G p.tables e below _ (T6.setTop (mkF m 34 #[.val (.ref a1), .val (.ref a2), .val (.int at1), .val (.int ((0 : Int32) ||| ((atv cB (at1 + (3 : Int32))) &&& (255 : Int32)))), .val (.int (1 : Int32))] [(.int ((0 : Int32) ||| ((atv cB (at1 + (3 : Int32))) &&& (255 : Int32))))]))
  refine own_st (fun _ kS => XS.bipush X6.here hx rfl (hb hby d2_34) kS) ?_
  show own_G p.tables e below _ (T6.setTop (mkF m 36 #[.val (.ref a1), .val (.ref a2), .val (.int at1), .val (.int ((0 : Int32) ||| ((atv cB (at1 + (3 : Int32))) &&& (255 : Int32)))), .val (.int (1 : Int32))] [(.int (8 : Int32)), (.int ((0 : Int32) ||| ((atv cB (at1 + (3 : Int32))) &&& (255 : Int32))))]))
  refine own_st (fun _ kS => XT.ishl X6.here hx rfl (hb hby d2_36) rfl kS) ?_
  show own_G p.tables e below _ (T6.setTop (mkF m 37 #[.val (.ref a1), .val (.ref a2), .val (.int at1), .val (.int ((0 : Int32) ||| ((atv cB (at1 + (3 : Int32))) &&& (255 : Int32)))), .val (.int (1 : Int32))] [(.int (((0 : Int32) ||| ((atv cB (at1 + (3 : Int32))) &&& (255 : Int32))) <<< ((8 : Int32) &&& 31)))]))
  refine own_st (fun _ kS => XS.aloadN X6.here hx rfl (hb hby d2_37) rfl rfl kS) ?_
  show own_G p.tables e below _ (T6.setTop (mkF m 38 #[.val (.ref a1), .val (.ref a2), .val (.int at1), .val (.int ((0 : Int32) ||| ((atv cB (at1 + (3 : Int32))) &&& (255 : Int32)))), .val (.int (1 : Int32))] [(.ref a2), (.int (((0 : Int32) ||| ((atv cB (at1 + (3 : Int32))) &&& (255 : Int32))) <<< ((8 : Int32) &&& 31)))]))
  refine own_st (fun _ kS => XS.aloadN X6.here hx rfl (hb hby d2_38) rfl rfl kS) ?_
  show own_G p.tables e below _ (T6.setTop (mkF m 39 #[.val (.ref a1), .val (.ref a2), .val (.int at1), .val (.int ((0 : Int32) ||| ((atv cB (at1 + (3 : Int32))) &&& (255 : Int32)))), .val (.int (1 : Int32))] [(.ref a1), (.ref a2), (.int (((0 : Int32) ||| ((atv cB (at1 + (3 : Int32))) &&& (255 : Int32))) <<< ((8 : Int32) &&& 31)))]))
  obtain ⟨T7, X7, e7, st7⟩ := getF X6 hx hZ hown (host := "") (Or.inl (hw _ (List.mem_of_getElem? (i := 16) rfl))) Via.refl e6 (Fld.ext O0.2 Fl) (g := (mkF m 39 #[.val (.ref a1), .val (.ref a2), .val (.int at1), .val (.int ((0 : Int32) ||| ((atv cB (at1 + (3 : Int32))) &&& (255 : Int32)))), .val (.int (1 : Int32))] [(.ref a1), (.ref a2), (.int (((0 : Int32) ||| ((atv cB (at1 + (3 : Int32))) &&& (255 : Int32))) <<< ((8 : Int32) &&& 31)))])) rfl rfl (hb hby d2_39)
  refine own_st st7 ?_
  show own_G p.tables e below _ (T7.setTop (mkF m 42 #[.val (.ref a1), .val (.ref a2), .val (.int at1), .val (.int ((0 : Int32) ||| ((atv cB (at1 + (3 : Int32))) &&& (255 : Int32)))), .val (.int (1 : Int32))] [(.int (1 : Int32)), (.ref a2), (.int (((0 : Int32) ||| ((atv cB (at1 + (3 : Int32))) &&& (255 : Int32))) <<< ((8 : Int32) &&& 31)))]))
  refine own_st (fun _ kS => XS.ifNo X7.here hx rfl (hb hby d2_42) rfl ((if0 _ _).trans (feq (by decide : ¬ ((1 : Int32) = (0 : Int32)))).1) kS) ?_
  show own_G p.tables e below _ (T7.setTop (mkF m 45 #[.val (.ref a1), .val (.ref a2), .val (.int at1), .val (.int ((0 : Int32) ||| ((atv cB (at1 + (3 : Int32))) &&& (255 : Int32)))), .val (.int (1 : Int32))] [(.ref a2), (.int (((0 : Int32) ||| ((atv cB (at1 + (3 : Int32))) &&& (255 : Int32))) <<< ((8 : Int32) &&& 31)))]))
  refine own_st (fun _ kS => XS.iloadN X7.here hx rfl (hb hby d2_45) rfl kS) ?_
  show own_G p.tables e below _ (T7.setTop (mkF m 46 #[.val (.ref a1), .val (.ref a2), .val (.int at1), .val (.int ((0 : Int32) ||| ((atv cB (at1 + (3 : Int32))) &&& (255 : Int32)))), .val (.int (1 : Int32))] [(.int at1), (.ref a2), (.int (((0 : Int32) ||| ((atv cB (at1 + (3 : Int32))) &&& (255 : Int32))) <<< ((8 : Int32) &&& 31)))]))
  refine own_st (fun _ kS => XS.aloadN X7.here hx rfl (hb hby d2_46) rfl rfl kS) ?_
  show own_G p.tables e below _ (T7.setTop (mkF m 47 #[.val (.ref a1), .val (.ref a2), .val (.int at1), .val (.int ((0 : Int32) ||| ((atv cB (at1 + (3 : Int32))) &&& (255 : Int32)))), .val (.int (1 : Int32))] [(.ref a1), (.int at1), (.ref a2), (.int (((0 : Int32) ||| ((atv cB (at1 + (3 : Int32))) &&& (255 : Int32))) <<< ((8 : Int32) &&& 31)))]))
  obtain ⟨T8, X8, e8, st8⟩ := getF X7 hx hZ hown (host := "") (Or.inl (hw _ (List.mem_of_getElem? (i := 14) rfl))) Via.refl e7 (Fld.ext O0.2 Fw) (g := (mkF m 47 #[.val (.ref a1), .val (.ref a2), .val (.int at1), .val (.int ((0 : Int32) ||| ((atv cB (at1 + (3 : Int32))) &&& (255 : Int32)))), .val (.int (1 : Int32))] [(.ref a1), (.int at1), (.ref a2), (.int (((0 : Int32) ||| ((atv cB (at1 + (3 : Int32))) &&& (255 : Int32))) <<< ((8 : Int32) &&& 31)))])) rfl rfl (hb hby d2_47)
  refine own_st st8 ?_
  show own_G p.tables e below _ (T8.setTop (mkF m 50 #[.val (.ref a1), .val (.ref a2), .val (.int at1), .val (.int ((0 : Int32) ||| ((atv cB (at1 + (3 : Int32))) &&& (255 : Int32)))), .val (.int (1 : Int32))] [(.int (4 : Int32)), (.int at1), (.ref a2), (.int (((0 : Int32) ||| ((atv cB (at1 + (3 : Int32))) &&& (255 : Int32))) <<< ((8 : Int32) &&& 31)))]))
  refine own_st (fun _ kS => XS.iadd X8.here hx rfl (hb hby d2_50) rfl kS) ?_
  show own_G p.tables e below _ (T8.setTop (mkF m 51 #[.val (.ref a1), .val (.ref a2), .val (.int at1), .val (.int ((0 : Int32) ||| ((atv cB (at1 + (3 : Int32))) &&& (255 : Int32)))), .val (.int (1 : Int32))] [(.int (at1 + (4 : Int32))), (.ref a2), (.int (((0 : Int32) ||| ((atv cB (at1 + (3 : Int32))) &&& (255 : Int32))) <<< ((8 : Int32) &&& 31)))]))
  refine own_st (fun _ kS => XS.iconst X8.here hx rfl (hb hby d2_51) kS) ?_
  show own_G p.tables e below _ (T8.setTop (mkF m 52 #[.val (.ref a1), .val (.ref a2), .val (.int at1), .val (.int ((0 : Int32) ||| ((atv cB (at1 + (3 : Int32))) &&& (255 : Int32)))), .val (.int (1 : Int32))] [(.int (1 : Int32)), (.int (at1 + (4 : Int32))), (.ref a2), (.int (((0 : Int32) ||| ((atv cB (at1 + (3 : Int32))) &&& (255 : Int32))) <<< ((8 : Int32) &&& 31)))]))
  refine own_st (fun _ kS => XS.isub X8.here hx rfl (hb hby d2_52) rfl kS) ?_
  show own_G p.tables e below _ (T8.setTop (mkF m 53 #[.val (.ref a1), .val (.ref a2), .val (.int at1), .val (.int ((0 : Int32) ||| ((atv cB (at1 + (3 : Int32))) &&& (255 : Int32)))), .val (.int (1 : Int32))] [(.int ((at1 + (4 : Int32)) - (1 : Int32))), (.ref a2), (.int (((0 : Int32) ||| ((atv cB (at1 + (3 : Int32))) &&& (255 : Int32))) <<< ((8 : Int32) &&& 31)))]))
  refine own_st (fun _ kS => XS.iload X8.here hx rfl (hb hby d2_53) rfl kS) ?_
  show own_G p.tables e below _ (T8.setTop (mkF m 55 #[.val (.ref a1), .val (.ref a2), .val (.int at1), .val (.int ((0 : Int32) ||| ((atv cB (at1 + (3 : Int32))) &&& (255 : Int32)))), .val (.int (1 : Int32))] [(.int (1 : Int32)), (.int ((at1 + (4 : Int32)) - (1 : Int32))), (.ref a2), (.int (((0 : Int32) ||| ((atv cB (at1 + (3 : Int32))) &&& (255 : Int32))) <<< ((8 : Int32) &&& 31)))]))
  refine own_st (fun _ kS => XS.isub X8.here hx rfl (hb hby d2_55) rfl kS) ?_
  show own_G p.tables e below _ (T8.setTop (mkF m 56 #[.val (.ref a1), .val (.ref a2), .val (.int at1), .val (.int ((0 : Int32) ||| ((atv cB (at1 + (3 : Int32))) &&& (255 : Int32)))), .val (.int (1 : Int32))] [(.int (((at1 + (4 : Int32)) - (1 : Int32)) - (1 : Int32))), (.ref a2), (.int (((0 : Int32) ||| ((atv cB (at1 + (3 : Int32))) &&& (255 : Int32))) <<< ((8 : Int32) &&& 31)))]))
  refine own_st (fun _ kS => XS.goto X8.here hx rfl (pc0 := 56) (pc' := 63) rfl (hb hby d2_56) (by decide) (by decide) kS) ?_
  show own_G p.tables e below _ (T8.setTop (mkF m 63 #[.val (.ref a1), .val (.ref a2), .val (.int at1), .val (.int ((0 : Int32) ||| ((atv cB (at1 + (3 : Int32))) &&& (255 : Int32)))), .val (.int (1 : Int32))] [(.int (((at1 + (4 : Int32)) - (1 : Int32)) - (1 : Int32))), (.ref a2), (.int (((0 : Int32) ||| ((atv cB (at1 + (3 : Int32))) &&& (255 : Int32))) <<< ((8 : Int32) &&& 31)))]))
  rw [own_ixL at1 4 1 2 (by decide) (by decide) (by decide)]
  show own_G p.tables e below _ (T8.setTop (mkF m 63 #[.val (.ref a1), .val (.ref a2), .val (.int at1), .val (.int ((0 : Int32) ||| ((atv cB (at1 + (3 : Int32))) &&& (255 : Int32)))), .val (.int (1 : Int32))] [(.int (at1 + (2 : Int32))), (.ref a2), (.int (((0 : Int32) ||| ((atv cB (at1 + (3 : Int32))) &&& (255 : Int32))) <<< ((8 : Int32) &&& 31)))]))
  have ib9 : ¬ ((at1 + (2 : Int32)) < 0 ∨ cB.slots.size ≤ ((at1 + (2 : Int32))).toNatClampNeg) := inb_of Tb.2.1 (own_inb hbn 2 (by decide))
  refine own_st (fun _ kS => X8.baloadBytes hx (j := (at1 + (2 : Int32))) (v := (.int (atv cB (at1 + (2 : Int32))))) (by rw [e8]; exact Tb.1.1) (State.isArrayOf_alike hZ.alike Tb.1.2.1) Tb.1.2.2 ib9 (Tb.2.2.2 _ ib9) (g := (mkF m 63 #[.val (.ref a1), .val (.ref a2), .val (.int at1), .val (.int ((0 : Int32) ||| ((atv cB (at1 + (3 : Int32))) &&& (255 : Int32)))), .val (.int (1 : Int32))] [(.int (at1 + (2 : Int32))), (.ref a2), (.int (((0 : Int32) ||| ((atv cB (at1 + (3 : Int32))) &&& (255 : Int32))) <<< ((8 : Int32) &&& 31)))])) rfl rfl (hb hby d2_63) _ kS) ?_
  show own_G p.tables e below _ (T8.setTop (mkF m 64 #[.val (.ref a1), .val (.ref a2), .val (.int at1), .val (.int ((0 : Int32) ||| ((atv cB (at1 + (3 : Int32))) &&& (255 : Int32)))), .val (.int (1 : Int32))] [(.int (atv cB (at1 + (2 : Int32)))), (.int (((0 : Int32) ||| ((atv cB (at1 + (3 : Int32))) &&& (255 : Int32))) <<< ((8 : Int32) &&& 31)))]))
  refine own_st (fun _ kS => XS.sipush X8.here hx rfl (hb hby d2_64) kS) ?_
  show own_G p.tables e below _ (T8.setTop (mkF m 67 #[.val (.ref a1), .val (.ref a2), .val (.int at1), .val (.int ((0 : Int32) ||| ((atv cB (at1 + (3 : Int32))) &&& (255 : Int32)))), .val (.int (1 : Int32))] [(.int (255 : Int32)), (.int (atv cB (at1 + (2 : Int32)))), (.int (((0 : Int32) ||| ((atv cB (at1 + (3 : Int32))) &&& (255 : Int32))) <<< ((8 : Int32) &&& 31)))]))
  refine own_st (fun _ kS => XS.iand X8.here hx rfl (hb hby d2_67) rfl kS) ?_
  show own_G p.tables e below _ (T8.setTop (mkF m 68 #[.val (.ref a1), .val (.ref a2), .val (.int at1), .val (.int ((0 : Int32) ||| ((atv cB (at1 + (3 : Int32))) &&& (255 : Int32)))), .val (.int (1 : Int32))] [(.int ((atv cB (at1 + (2 : Int32))) &&& (255 : Int32))), (.int (((0 : Int32) ||| ((atv cB (at1 + (3 : Int32))) &&& (255 : Int32))) <<< ((8 : Int32) &&& 31)))]))
  refine own_st (fun _ kS => XT.ior X8.here hx rfl (hb hby d2_68) rfl kS) ?_
  show own_G p.tables e below _ (T8.setTop (mkF m 69 #[.val (.ref a1), .val (.ref a2), .val (.int at1), .val (.int ((0 : Int32) ||| ((atv cB (at1 + (3 : Int32))) &&& (255 : Int32)))), .val (.int (1 : Int32))] [(.int ((((0 : Int32) ||| ((atv cB (at1 + (3 : Int32))) &&& (255 : Int32))) <<< ((8 : Int32) &&& 31)) ||| ((atv cB (at1 + (2 : Int32))) &&& (255 : Int32))))]))
  refine own_st (fun _ kS => XS.istoreN X8.here hx rfl (hb hby d2_69) rfl (l' := #[.val (.ref a1), .val (.ref a2), .val (.int at1), .val (.int ((((0 : Int32) ||| ((atv cB (at1 + (3 : Int32))) &&& (255 : Int32))) <<< ((8 : Int32) &&& 31)) ||| ((atv cB (at1 + (2 : Int32))) &&& (255 : Int32)))), .val (.int (1 : Int32))]) rfl kS) ?_
  show own_G p.tables e below _ (T8.setTop (mkF m 70 #[.val (.ref a1), .val (.ref a2), .val (.int at1), .val (.int ((((0 : Int32) ||| ((atv cB (at1 + (3 : Int32))) &&& (255 : Int32))) <<< ((8 : Int32) &&& 31)) ||| ((atv cB (at1 + (2 : Int32))) &&& (255 : Int32)))), .val (.int (1 : Int32))] []))
  refine own_st (fun _ kS => XS.iinc X8.here hx rfl (hb hby d2_70) rfl (l' := #[.val (.ref a1), .val (.ref a2), .val (.int at1), .val (.int ((((0 : Int32) ||| ((atv cB (at1 + (3 : Int32))) &&& (255 : Int32))) <<< ((8 : Int32) &&& 31)) ||| ((atv cB (at1 + (2 : Int32))) &&& (255 : Int32)))), .val (.int (2 : Int32))]) rfl kS) ?_
  show own_G p.tables e below _ (T8.setTop (mkF m 73 #[.val (.ref a1), .val (.ref a2), .val (.int at1), .val (.int ((((0 : Int32) ||| ((atv cB (at1 + (3 : Int32))) &&& (255 : Int32))) <<< ((8 : Int32) &&& 31)) ||| ((atv cB (at1 + (2 : Int32))) &&& (255 : Int32)))), .val (.int (2 : Int32))] []))
  refine own_st (fun _ kS => XS.goto X8.here hx rfl (pc0 := 73) (pc' := 24) rfl (hb hby d2_73) (by decide) (by decide) kS) ?_
  show own_G p.tables e below _ (T8.setTop (mkF m 24 #[.val (.ref a1), .val (.ref a2), .val (.int at1), .val (.int ((((0 : Int32) ||| ((atv cB (at1 + (3 : Int32))) &&& (255 : Int32))) <<< ((8 : Int32) &&& 31)) ||| ((atv cB (at1 + (2 : Int32))) &&& (255 : Int32)))), .val (.int (2 : Int32))] []))
  refine own_st (fun _ kS => XS.iload X8.here hx rfl (hb hby d2_24) rfl kS) ?_
  show own_G p.tables e below _ (T8.setTop (mkF m 26 #[.val (.ref a1), .val (.ref a2), .val (.int at1), .val (.int ((((0 : Int32) ||| ((atv cB (at1 + (3 : Int32))) &&& (255 : Int32))) <<< ((8 : Int32) &&& 31)) ||| ((atv cB (at1 + (2 : Int32))) &&& (255 : Int32)))), .val (.int (2 : Int32))] [(.int (2 : Int32))]))
  refine own_st (fun _ kS => XS.aloadN X8.here hx rfl (hb hby d2_26) rfl rfl kS) ?_
  show own_G p.tables e below _ (T8.setTop (mkF m 27 #[.val (.ref a1), .val (.ref a2), .val (.int at1), .val (.int ((((0 : Int32) ||| ((atv cB (at1 + (3 : Int32))) &&& (255 : Int32))) <<< ((8 : Int32) &&& 31)) ||| ((atv cB (at1 + (2 : Int32))) &&& (255 : Int32)))), .val (.int (2 : Int32))] [(.ref a1), (.int (2 : Int32))]))
  obtain ⟨T10, X10, e10, st10⟩ := getF X8 hx hZ hown (host := "") (Or.inl (hw _ (List.mem_of_getElem? (i := 14) rfl))) Via.refl e8 (Fld.ext O0.2 Fw) (g := (mkF m 27 #[.val (.ref a1), .val (.ref a2), .val (.int at1), .val (.int ((((0 : Int32) ||| ((atv cB (at1 + (3 : Int32))) &&& (255 : Int32))) <<< ((8 : Int32) &&& 31)) ||| ((atv cB (at1 + (2 : Int32))) &&& (255 : Int32)))), .val (.int (2 : Int32))] [(.ref a1), (.int (2 : Int32))])) rfl rfl (hb hby d2_27)
  refine own_st st10 ?_
  show own_G p.tables e below _ (T10.setTop (mkF m 30 #[.val (.ref a1), .val (.ref a2), .val (.int at1), .val (.int ((((0 : Int32) ||| ((atv cB (at1 + (3 : Int32))) &&& (255 : Int32))) <<< ((8 : Int32) &&& 31)) ||| ((atv cB (at1 + (2 : Int32))) &&& (255 : Int32)))), .val (.int (2 : Int32))] [(.int (4 : Int32)), (.int (2 : Int32))]))
  refine own_st (fun _ kS => XS.icmpNo X10.here hx rfl (hb hby d2_30) rfl (tlt (by decide : (2 : Int32) < (4 : Int32))).2.1 kS) ?_
  show own_G p.tables e below _ (T10.setTop (mkF m 33 #[.val (.ref a1), .val (.ref a2), .val (.int at1), .val (.int ((((0 : Int32) ||| ((atv cB (at1 + (3 : Int32))) &&& (255 : Int32))) <<< ((8 : Int32) &&& 31)) ||| ((atv cB (at1 + (2 : Int32))) &&& (255 : Int32)))), .val (.int (2 : Int32))] []))
  refine own_st (fun _ kS => XS.iloadN X10.here hx rfl (hb hby d2_33) rfl kS) ?_
  show own_G p.tables e below _ (T10.setTop (mkF m 34 #[.val (.ref a1), .val (.ref a2), .val (.int at1), .val (.int ((((0 : Int32) ||| ((atv cB (at1 + (3 : Int32))) &&& (255 : Int32))) <<< ((8 : Int32) &&& 31)) ||| ((atv cB (at1 + (2 : Int32))) &&& (255 : Int32)))), .val (.int (2 : Int32))] [(.int ((((0 : Int32) ||| ((atv cB (at1 + (3 : Int32))) &&& (255 : Int32))) <<< ((8 : Int32) &&& 31)) ||| ((atv cB (at1 + (2 : Int32))) &&& (255 : Int32))))]))
  refine own_st (fun _ kS => XS.bipush X10.here hx rfl (hb hby d2_34) kS) ?_
  show own_G p.tables e below _ (T10.setTop (mkF m 36 #[.val (.ref a1), .val (.ref a2), .val (.int at1), .val (.int ((((0 : Int32) ||| ((atv cB (at1 + (3 : Int32))) &&& (255 : Int32))) <<< ((8 : Int32) &&& 31)) ||| ((atv cB (at1 + (2 : Int32))) &&& (255 : Int32)))), .val (.int (2 : Int32))] [(.int (8 : Int32)), (.int ((((0 : Int32) ||| ((atv cB (at1 + (3 : Int32))) &&& (255 : Int32))) <<< ((8 : Int32) &&& 31)) ||| ((atv cB (at1 + (2 : Int32))) &&& (255 : Int32))))]))
  refine own_st (fun _ kS => XT.ishl X10.here hx rfl (hb hby d2_36) rfl kS) ?_
  show own_G p.tables e below _ (T10.setTop (mkF m 37 #[.val (.ref a1), .val (.ref a2), .val (.int at1), .val (.int ((((0 : Int32) ||| ((atv cB (at1 + (3 : Int32))) &&& (255 : Int32))) <<< ((8 : Int32) &&& 31)) ||| ((atv cB (at1 + (2 : Int32))) &&& (255 : Int32)))), .val (.int (2 : Int32))] [(.int (((((0 : Int32) ||| ((atv cB (at1 + (3 : Int32))) &&& (255 : Int32))) <<< ((8 : Int32) &&& 31)) ||| ((atv cB (at1 + (2 : Int32))) &&& (255 : Int32))) <<< ((8 : Int32) &&& 31)))]))
  refine own_st (fun _ kS => XS.aloadN X10.here hx rfl (hb hby d2_37) rfl rfl kS) ?_
  show own_G p.tables e below _ (T10.setTop (mkF m 38 #[.val (.ref a1), .val (.ref a2), .val (.int at1), .val (.int ((((0 : Int32) ||| ((atv cB (at1 + (3 : Int32))) &&& (255 : Int32))) <<< ((8 : Int32) &&& 31)) ||| ((atv cB (at1 + (2 : Int32))) &&& (255 : Int32)))), .val (.int (2 : Int32))] [(.ref a2), (.int (((((0 : Int32) ||| ((atv cB (at1 + (3 : Int32))) &&& (255 : Int32))) <<< ((8 : Int32) &&& 31)) ||| ((atv cB (at1 + (2 : Int32))) &&& (255 : Int32))) <<< ((8 : Int32) &&& 31)))]))
  refine own_st (fun _ kS => XS.aloadN X10.here hx rfl (hb hby d2_38) rfl rfl kS) ?_
  show own_G p.tables e below _ (T10.setTop (mkF m 39 #[.val (.ref a1), .val (.ref a2), .val (.int at1), .val (.int ((((0 : Int32) ||| ((atv cB (at1 + (3 : Int32))) &&& (255 : Int32))) <<< ((8 : Int32) &&& 31)) ||| ((atv cB (at1 + (2 : Int32))) &&& (255 : Int32)))), .val (.int (2 : Int32))] [(.ref a1), (.ref a2), (.int (((((0 : Int32) ||| ((atv cB (at1 + (3 : Int32))) &&& (255 : Int32))) <<< ((8 : Int32) &&& 31)) ||| ((atv cB (at1 + (2 : Int32))) &&& (255 : Int32))) <<< ((8 : Int32) &&& 31)))]))
  obtain ⟨T11, X11, e11, st11⟩ := getF X10 hx hZ hown (host := "") (Or.inl (hw _ (List.mem_of_getElem? (i := 16) rfl))) Via.refl e10 (Fld.ext O0.2 Fl) (g := (mkF m 39 #[.val (.ref a1), .val (.ref a2), .val (.int at1), .val (.int ((((0 : Int32) ||| ((atv cB (at1 + (3 : Int32))) &&& (255 : Int32))) <<< ((8 : Int32) &&& 31)) ||| ((atv cB (at1 + (2 : Int32))) &&& (255 : Int32)))), .val (.int (2 : Int32))] [(.ref a1), (.ref a2), (.int (((((0 : Int32) ||| ((atv cB (at1 + (3 : Int32))) &&& (255 : Int32))) <<< ((8 : Int32) &&& 31)) ||| ((atv cB (at1 + (2 : Int32))) &&& (255 : Int32))) <<< ((8 : Int32) &&& 31)))])) rfl rfl (hb hby d2_39)
  refine own_st st11 ?_
  show own_G p.tables e below _ (T11.setTop (mkF m 42 #[.val (.ref a1), .val (.ref a2), .val (.int at1), .val (.int ((((0 : Int32) ||| ((atv cB (at1 + (3 : Int32))) &&& (255 : Int32))) <<< ((8 : Int32) &&& 31)) ||| ((atv cB (at1 + (2 : Int32))) &&& (255 : Int32)))), .val (.int (2 : Int32))] [(.int (1 : Int32)), (.ref a2), (.int (((((0 : Int32) ||| ((atv cB (at1 + (3 : Int32))) &&& (255 : Int32))) <<< ((8 : Int32) &&& 31)) ||| ((atv cB (at1 + (2 : Int32))) &&& (255 : Int32))) <<< ((8 : Int32) &&& 31)))]))
  refine own_st (fun _ kS => XS.ifNo X11.here hx rfl (hb hby d2_42) rfl ((if0 _ _).trans (feq (by decide : ¬ ((1 : Int32) = (0 : Int32)))).1) kS) ?_
  show own_G p.tables e below _ (T11.setTop (mkF m 45 #[.val (.ref a1), .val (.ref a2), .val (.int at1), .val (.int ((((0 : Int32) ||| ((atv cB (at1 + (3 : Int32))) &&& (255 : Int32))) <<< ((8 : Int32) &&& 31)) ||| ((atv cB (at1 + (2 : Int32))) &&& (255 : Int32)))), .val (.int (2 : Int32))] [(.ref a2), (.int (((((0 : Int32) ||| ((atv cB (at1 + (3 : Int32))) &&& (255 : Int32))) <<< ((8 : Int32) &&& 31)) ||| ((atv cB (at1 + (2 : Int32))) &&& (255 : Int32))) <<< ((8 : Int32) &&& 31)))]))
  refine own_st (fun _ kS => XS.iloadN X11.here hx rfl (hb hby d2_45) rfl kS) ?_
  show own_G p.tables e below _ (T11.setTop (mkF m 46 #[.val (.ref a1), .val (.ref a2), .val (.int at1), .val (.int ((((0 : Int32) ||| ((atv cB (at1 + (3 : Int32))) &&& (255 : Int32))) <<< ((8 : Int32) &&& 31)) ||| ((atv cB (at1 + (2 : Int32))) &&& (255 : Int32)))), .val (.int (2 : Int32))] [(.int at1), (.ref a2), (.int (((((0 : Int32) ||| ((atv cB (at1 + (3 : Int32))) &&& (255 : Int32))) <<< ((8 : Int32) &&& 31)) ||| ((atv cB (at1 + (2 : Int32))) &&& (255 : Int32))) <<< ((8 : Int32) &&& 31)))]))
  refine own_st (fun _ kS => XS.aloadN X11.here hx rfl (hb hby d2_46) rfl rfl kS) ?_
  show own_G p.tables e below _ (T11.setTop (mkF m 47 #[.val (.ref a1), .val (.ref a2), .val (.int at1), .val (.int ((((0 : Int32) ||| ((atv cB (at1 + (3 : Int32))) &&& (255 : Int32))) <<< ((8 : Int32) &&& 31)) ||| ((atv cB (at1 + (2 : Int32))) &&& (255 : Int32)))), .val (.int (2 : Int32))] [(.ref a1), (.int at1), (.ref a2), (.int (((((0 : Int32) ||| ((atv cB (at1 + (3 : Int32))) &&& (255 : Int32))) <<< ((8 : Int32) &&& 31)) ||| ((atv cB (at1 + (2 : Int32))) &&& (255 : Int32))) <<< ((8 : Int32) &&& 31)))]))
  obtain ⟨T12, X12, e12, st12⟩ := getF X11 hx hZ hown (host := "") (Or.inl (hw _ (List.mem_of_getElem? (i := 14) rfl))) Via.refl e11 (Fld.ext O0.2 Fw) (g := (mkF m 47 #[.val (.ref a1), .val (.ref a2), .val (.int at1), .val (.int ((((0 : Int32) ||| ((atv cB (at1 + (3 : Int32))) &&& (255 : Int32))) <<< ((8 : Int32) &&& 31)) ||| ((atv cB (at1 + (2 : Int32))) &&& (255 : Int32)))), .val (.int (2 : Int32))] [(.ref a1), (.int at1), (.ref a2), (.int (((((0 : Int32) ||| ((atv cB (at1 + (3 : Int32))) &&& (255 : Int32))) <<< ((8 : Int32) &&& 31)) ||| ((atv cB (at1 + (2 : Int32))) &&& (255 : Int32))) <<< ((8 : Int32) &&& 31)))])) rfl rfl (hb hby d2_47)
  refine own_st st12 ?_
  show own_G p.tables e below _ (T12.setTop (mkF m 50 #[.val (.ref a1), .val (.ref a2), .val (.int at1), .val (.int ((((0 : Int32) ||| ((atv cB (at1 + (3 : Int32))) &&& (255 : Int32))) <<< ((8 : Int32) &&& 31)) ||| ((atv cB (at1 + (2 : Int32))) &&& (255 : Int32)))), .val (.int (2 : Int32))] [(.int (4 : Int32)), (.int at1), (.ref a2), (.int (((((0 : Int32) ||| ((atv cB (at1 + (3 : Int32))) &&& (255 : Int32))) <<< ((8 : Int32) &&& 31)) ||| ((atv cB (at1 + (2 : Int32))) &&& (255 : Int32))) <<< ((8 : Int32) &&& 31)))]))
  refine own_st (fun _ kS => XS.iadd X12.here hx rfl (hb hby d2_50) rfl kS) ?_
  show own_G p.tables e below _ (T12.setTop (mkF m 51 #[.val (.ref a1), .val (.ref a2), .val (.int at1), .val (.int ((((0 : Int32) ||| ((atv cB (at1 + (3 : Int32))) &&& (255 : Int32))) <<< ((8 : Int32) &&& 31)) ||| ((atv cB (at1 + (2 : Int32))) &&& (255 : Int32)))), .val (.int (2 : Int32))] [(.int (at1 + (4 : Int32))), (.ref a2), (.int (((((0 : Int32) ||| ((atv cB (at1 + (3 : Int32))) &&& (255 : Int32))) <<< ((8 : Int32) &&& 31)) ||| ((atv cB (at1 + (2 : Int32))) &&& (255 : Int32))) <<< ((8 : Int32) &&& 31)))]))
  refine own_st (fun _ kS => XS.iconst X12.here hx rfl (hb hby d2_51) kS) ?_
  show own_G p.tables e below _ (T12.setTop (mkF m 52 #[.val (.ref a1), .val (.ref a2), .val (.int at1), .val (.int ((((0 : Int32) ||| ((atv cB (at1 + (3 : Int32))) &&& (255 : Int32))) <<< ((8 : Int32) &&& 31)) ||| ((atv cB (at1 + (2 : Int32))) &&& (255 : Int32)))), .val (.int (2 : Int32))] [(.int (1 : Int32)), (.int (at1 + (4 : Int32))), (.ref a2), (.int (((((0 : Int32) ||| ((atv cB (at1 + (3 : Int32))) &&& (255 : Int32))) <<< ((8 : Int32) &&& 31)) ||| ((atv cB (at1 + (2 : Int32))) &&& (255 : Int32))) <<< ((8 : Int32) &&& 31)))]))
  refine own_st (fun _ kS => XS.isub X12.here hx rfl (hb hby d2_52) rfl kS) ?_
  show own_G p.tables e below _ (T12.setTop (mkF m 53 #[.val (.ref a1), .val (.ref a2), .val (.int at1), .val (.int ((((0 : Int32) ||| ((atv cB (at1 + (3 : Int32))) &&& (255 : Int32))) <<< ((8 : Int32) &&& 31)) ||| ((atv cB (at1 + (2 : Int32))) &&& (255 : Int32)))), .val (.int (2 : Int32))] [(.int ((at1 + (4 : Int32)) - (1 : Int32))), (.ref a2), (.int (((((0 : Int32) ||| ((atv cB (at1 + (3 : Int32))) &&& (255 : Int32))) <<< ((8 : Int32) &&& 31)) ||| ((atv cB (at1 + (2 : Int32))) &&& (255 : Int32))) <<< ((8 : Int32) &&& 31)))]))
  refine own_st (fun _ kS => XS.iload X12.here hx rfl (hb hby d2_53) rfl kS) ?_
  show own_G p.tables e below _ (T12.setTop (mkF m 55 #[.val (.ref a1), .val (.ref a2), .val (.int at1), .val (.int ((((0 : Int32) ||| ((atv cB (at1 + (3 : Int32))) &&& (255 : Int32))) <<< ((8 : Int32) &&& 31)) ||| ((atv cB (at1 + (2 : Int32))) &&& (255 : Int32)))), .val (.int (2 : Int32))] [(.int (2 : Int32)), (.int ((at1 + (4 : Int32)) - (1 : Int32))), (.ref a2), (.int (((((0 : Int32) ||| ((atv cB (at1 + (3 : Int32))) &&& (255 : Int32))) <<< ((8 : Int32) &&& 31)) ||| ((atv cB (at1 + (2 : Int32))) &&& (255 : Int32))) <<< ((8 : Int32) &&& 31)))]))
  refine own_st (fun _ kS => XS.isub X12.here hx rfl (hb hby d2_55) rfl kS) ?_
  show own_G p.tables e below _ (T12.setTop (mkF m 56 #[.val (.ref a1), .val (.ref a2), .val (.int at1), .val (.int ((((0 : Int32) ||| ((atv cB (at1 + (3 : Int32))) &&& (255 : Int32))) <<< ((8 : Int32) &&& 31)) ||| ((atv cB (at1 + (2 : Int32))) &&& (255 : Int32)))), .val (.int (2 : Int32))] [(.int (((at1 + (4 : Int32)) - (1 : Int32)) - (2 : Int32))), (.ref a2), (.int (((((0 : Int32) ||| ((atv cB (at1 + (3 : Int32))) &&& (255 : Int32))) <<< ((8 : Int32) &&& 31)) ||| ((atv cB (at1 + (2 : Int32))) &&& (255 : Int32))) <<< ((8 : Int32) &&& 31)))]))
  refine own_st (fun _ kS => XS.goto X12.here hx rfl (pc0 := 56) (pc' := 63) rfl (hb hby d2_56) (by decide) (by decide) kS) ?_
  show own_G p.tables e below _ (T12.setTop (mkF m 63 #[.val (.ref a1), .val (.ref a2), .val (.int at1), .val (.int ((((0 : Int32) ||| ((atv cB (at1 + (3 : Int32))) &&& (255 : Int32))) <<< ((8 : Int32) &&& 31)) ||| ((atv cB (at1 + (2 : Int32))) &&& (255 : Int32)))), .val (.int (2 : Int32))] [(.int (((at1 + (4 : Int32)) - (1 : Int32)) - (2 : Int32))), (.ref a2), (.int (((((0 : Int32) ||| ((atv cB (at1 + (3 : Int32))) &&& (255 : Int32))) <<< ((8 : Int32) &&& 31)) ||| ((atv cB (at1 + (2 : Int32))) &&& (255 : Int32))) <<< ((8 : Int32) &&& 31)))]))
  rw [own_ixL at1 4 2 1 (by decide) (by decide) (by decide)]
  show own_G p.tables e below _ (T12.setTop (mkF m 63 #[.val (.ref a1), .val (.ref a2), .val (.int at1), .val (.int ((((0 : Int32) ||| ((atv cB (at1 + (3 : Int32))) &&& (255 : Int32))) <<< ((8 : Int32) &&& 31)) ||| ((atv cB (at1 + (2 : Int32))) &&& (255 : Int32)))), .val (.int (2 : Int32))] [(.int (at1 + (1 : Int32))), (.ref a2), (.int (((((0 : Int32) ||| ((atv cB (at1 + (3 : Int32))) &&& (255 : Int32))) <<< ((8 : Int32) &&& 31)) ||| ((atv cB (at1 + (2 : Int32))) &&& (255 : Int32))) <<< ((8 : Int32) &&& 31)))]))
  have ib13 : ¬ ((at1 + (1 : Int32)) < 0 ∨ cB.slots.size ≤ ((at1 + (1 : Int32))).toNatClampNeg) := inb_of Tb.2.1 (own_inb hbn 1 (by decide))
  refine own_st (fun _ kS => X12.baloadBytes hx (j := (at1 + (1 : Int32))) (v := (.int (atv cB (at1 + (1 : Int32))))) (by rw [e12]; exact Tb.1.1) (State.isArrayOf_alike hZ.alike Tb.1.2.1) Tb.1.2.2 ib13 (Tb.2.2.2 _ ib13) (g := (mkF m 63 #[.val (.ref a1), .val (.ref a2), .val (.int at1), .val (.int ((((0 : Int32) ||| ((atv cB (at1 + (3 : Int32))) &&& (255 : Int32))) <<< ((8 : Int32) &&& 31)) ||| ((atv cB (at1 + (2 : Int32))) &&& (255 : Int32)))), .val (.int (2 : Int32))] [(.int (at1 + (1 : Int32))), (.ref a2), (.int (((((0 : Int32) ||| ((atv cB (at1 + (3 : Int32))) &&& (255 : Int32))) <<< ((8 : Int32) &&& 31)) ||| ((atv cB (at1 + (2 : Int32))) &&& (255 : Int32))) <<< ((8 : Int32) &&& 31)))])) rfl rfl (hb hby d2_63) _ kS) ?_
  show own_G p.tables e below _ (T12.setTop (mkF m 64 #[.val (.ref a1), .val (.ref a2), .val (.int at1), .val (.int ((((0 : Int32) ||| ((atv cB (at1 + (3 : Int32))) &&& (255 : Int32))) <<< ((8 : Int32) &&& 31)) ||| ((atv cB (at1 + (2 : Int32))) &&& (255 : Int32)))), .val (.int (2 : Int32))] [(.int (atv cB (at1 + (1 : Int32)))), (.int (((((0 : Int32) ||| ((atv cB (at1 + (3 : Int32))) &&& (255 : Int32))) <<< ((8 : Int32) &&& 31)) ||| ((atv cB (at1 + (2 : Int32))) &&& (255 : Int32))) <<< ((8 : Int32) &&& 31)))]))
  refine own_st (fun _ kS => XS.sipush X12.here hx rfl (hb hby d2_64) kS) ?_
  show own_G p.tables e below _ (T12.setTop (mkF m 67 #[.val (.ref a1), .val (.ref a2), .val (.int at1), .val (.int ((((0 : Int32) ||| ((atv cB (at1 + (3 : Int32))) &&& (255 : Int32))) <<< ((8 : Int32) &&& 31)) ||| ((atv cB (at1 + (2 : Int32))) &&& (255 : Int32)))), .val (.int (2 : Int32))] [(.int (255 : Int32)), (.int (atv cB (at1 + (1 : Int32)))), (.int (((((0 : Int32) ||| ((atv cB (at1 + (3 : Int32))) &&& (255 : Int32))) <<< ((8 : Int32) &&& 31)) ||| ((atv cB (at1 + (2 : Int32))) &&& (255 : Int32))) <<< ((8 : Int32) &&& 31)))]))
  refine own_st (fun _ kS => XS.iand X12.here hx rfl (hb hby d2_67) rfl kS) ?_
  show own_G p.tables e below _ (T12.setTop (mkF m 68 #[.val (.ref a1), .val (.ref a2), .val (.int at1), .val (.int ((((0 : Int32) ||| ((atv cB (at1 + (3 : Int32))) &&& (255 : Int32))) <<< ((8 : Int32) &&& 31)) ||| ((atv cB (at1 + (2 : Int32))) &&& (255 : Int32)))), .val (.int (2 : Int32))] [(.int ((atv cB (at1 + (1 : Int32))) &&& (255 : Int32))), (.int (((((0 : Int32) ||| ((atv cB (at1 + (3 : Int32))) &&& (255 : Int32))) <<< ((8 : Int32) &&& 31)) ||| ((atv cB (at1 + (2 : Int32))) &&& (255 : Int32))) <<< ((8 : Int32) &&& 31)))]))
  refine own_st (fun _ kS => XT.ior X12.here hx rfl (hb hby d2_68) rfl kS) ?_
  show own_G p.tables e below _ (T12.setTop (mkF m 69 #[.val (.ref a1), .val (.ref a2), .val (.int at1), .val (.int ((((0 : Int32) ||| ((atv cB (at1 + (3 : Int32))) &&& (255 : Int32))) <<< ((8 : Int32) &&& 31)) ||| ((atv cB (at1 + (2 : Int32))) &&& (255 : Int32)))), .val (.int (2 : Int32))] [(.int ((((((0 : Int32) ||| ((atv cB (at1 + (3 : Int32))) &&& (255 : Int32))) <<< ((8 : Int32) &&& 31)) ||| ((atv cB (at1 + (2 : Int32))) &&& (255 : Int32))) <<< ((8 : Int32) &&& 31)) ||| ((atv cB (at1 + (1 : Int32))) &&& (255 : Int32))))]))
  refine own_st (fun _ kS => XS.istoreN X12.here hx rfl (hb hby d2_69) rfl (l' := #[.val (.ref a1), .val (.ref a2), .val (.int at1), .val (.int ((((((0 : Int32) ||| ((atv cB (at1 + (3 : Int32))) &&& (255 : Int32))) <<< ((8 : Int32) &&& 31)) ||| ((atv cB (at1 + (2 : Int32))) &&& (255 : Int32))) <<< ((8 : Int32) &&& 31)) ||| ((atv cB (at1 + (1 : Int32))) &&& (255 : Int32)))), .val (.int (2 : Int32))]) rfl kS) ?_
  show own_G p.tables e below _ (T12.setTop (mkF m 70 #[.val (.ref a1), .val (.ref a2), .val (.int at1), .val (.int ((((((0 : Int32) ||| ((atv cB (at1 + (3 : Int32))) &&& (255 : Int32))) <<< ((8 : Int32) &&& 31)) ||| ((atv cB (at1 + (2 : Int32))) &&& (255 : Int32))) <<< ((8 : Int32) &&& 31)) ||| ((atv cB (at1 + (1 : Int32))) &&& (255 : Int32)))), .val (.int (2 : Int32))] []))
  refine own_st (fun _ kS => XS.iinc X12.here hx rfl (hb hby d2_70) rfl (l' := #[.val (.ref a1), .val (.ref a2), .val (.int at1), .val (.int ((((((0 : Int32) ||| ((atv cB (at1 + (3 : Int32))) &&& (255 : Int32))) <<< ((8 : Int32) &&& 31)) ||| ((atv cB (at1 + (2 : Int32))) &&& (255 : Int32))) <<< ((8 : Int32) &&& 31)) ||| ((atv cB (at1 + (1 : Int32))) &&& (255 : Int32)))), .val (.int (3 : Int32))]) rfl kS) ?_
  show own_G p.tables e below _ (T12.setTop (mkF m 73 #[.val (.ref a1), .val (.ref a2), .val (.int at1), .val (.int ((((((0 : Int32) ||| ((atv cB (at1 + (3 : Int32))) &&& (255 : Int32))) <<< ((8 : Int32) &&& 31)) ||| ((atv cB (at1 + (2 : Int32))) &&& (255 : Int32))) <<< ((8 : Int32) &&& 31)) ||| ((atv cB (at1 + (1 : Int32))) &&& (255 : Int32)))), .val (.int (3 : Int32))] []))
  refine own_st (fun _ kS => XS.goto X12.here hx rfl (pc0 := 73) (pc' := 24) rfl (hb hby d2_73) (by decide) (by decide) kS) ?_
  show own_G p.tables e below _ (T12.setTop (mkF m 24 #[.val (.ref a1), .val (.ref a2), .val (.int at1), .val (.int ((((((0 : Int32) ||| ((atv cB (at1 + (3 : Int32))) &&& (255 : Int32))) <<< ((8 : Int32) &&& 31)) ||| ((atv cB (at1 + (2 : Int32))) &&& (255 : Int32))) <<< ((8 : Int32) &&& 31)) ||| ((atv cB (at1 + (1 : Int32))) &&& (255 : Int32)))), .val (.int (3 : Int32))] []))
  refine own_st (fun _ kS => XS.iload X12.here hx rfl (hb hby d2_24) rfl kS) ?_
  show own_G p.tables e below _ (T12.setTop (mkF m 26 #[.val (.ref a1), .val (.ref a2), .val (.int at1), .val (.int ((((((0 : Int32) ||| ((atv cB (at1 + (3 : Int32))) &&& (255 : Int32))) <<< ((8 : Int32) &&& 31)) ||| ((atv cB (at1 + (2 : Int32))) &&& (255 : Int32))) <<< ((8 : Int32) &&& 31)) ||| ((atv cB (at1 + (1 : Int32))) &&& (255 : Int32)))), .val (.int (3 : Int32))] [(.int (3 : Int32))]))
  refine own_st (fun _ kS => XS.aloadN X12.here hx rfl (hb hby d2_26) rfl rfl kS) ?_
  show own_G p.tables e below _ (T12.setTop (mkF m 27 #[.val (.ref a1), .val (.ref a2), .val (.int at1), .val (.int ((((((0 : Int32) ||| ((atv cB (at1 + (3 : Int32))) &&& (255 : Int32))) <<< ((8 : Int32) &&& 31)) ||| ((atv cB (at1 + (2 : Int32))) &&& (255 : Int32))) <<< ((8 : Int32) &&& 31)) ||| ((atv cB (at1 + (1 : Int32))) &&& (255 : Int32)))), .val (.int (3 : Int32))] [(.ref a1), (.int (3 : Int32))]))
  obtain ⟨T14, X14, e14, st14⟩ := getF X12 hx hZ hown (host := "") (Or.inl (hw _ (List.mem_of_getElem? (i := 14) rfl))) Via.refl e12 (Fld.ext O0.2 Fw) (g := (mkF m 27 #[.val (.ref a1), .val (.ref a2), .val (.int at1), .val (.int ((((((0 : Int32) ||| ((atv cB (at1 + (3 : Int32))) &&& (255 : Int32))) <<< ((8 : Int32) &&& 31)) ||| ((atv cB (at1 + (2 : Int32))) &&& (255 : Int32))) <<< ((8 : Int32) &&& 31)) ||| ((atv cB (at1 + (1 : Int32))) &&& (255 : Int32)))), .val (.int (3 : Int32))] [(.ref a1), (.int (3 : Int32))])) rfl rfl (hb hby d2_27)
  refine own_st st14 ?_
  show own_G p.tables e below _ (T14.setTop (mkF m 30 #[.val (.ref a1), .val (.ref a2), .val (.int at1), .val (.int ((((((0 : Int32) ||| ((atv cB (at1 + (3 : Int32))) &&& (255 : Int32))) <<< ((8 : Int32) &&& 31)) ||| ((atv cB (at1 + (2 : Int32))) &&& (255 : Int32))) <<< ((8 : Int32) &&& 31)) ||| ((atv cB (at1 + (1 : Int32))) &&& (255 : Int32)))), .val (.int (3 : Int32))] [(.int (4 : Int32)), (.int (3 : Int32))]))
  refine own_st (fun _ kS => XS.icmpNo X14.here hx rfl (hb hby d2_30) rfl (tlt (by decide : (3 : Int32) < (4 : Int32))).2.1 kS) ?_
  show own_G p.tables e below _ (T14.setTop (mkF m 33 #[.val (.ref a1), .val (.ref a2), .val (.int at1), .val (.int ((((((0 : Int32) ||| ((atv cB (at1 + (3 : Int32))) &&& (255 : Int32))) <<< ((8 : Int32) &&& 31)) ||| ((atv cB (at1 + (2 : Int32))) &&& (255 : Int32))) <<< ((8 : Int32) &&& 31)) ||| ((atv cB (at1 + (1 : Int32))) &&& (255 : Int32)))), .val (.int (3 : Int32))] []))
  refine own_st (fun _ kS => XS.iloadN X14.here hx rfl (hb hby d2_33) rfl kS) ?_
  show own_G p.tables e below _ (T14.setTop (mkF m 34 #[.val (.ref a1), .val (.ref a2), .val (.int at1), .val (.int ((((((0 : Int32) ||| ((atv cB (at1 + (3 : Int32))) &&& (255 : Int32))) <<< ((8 : Int32) &&& 31)) ||| ((atv cB (at1 + (2 : Int32))) &&& (255 : Int32))) <<< ((8 : Int32) &&& 31)) ||| ((atv cB (at1 + (1 : Int32))) &&& (255 : Int32)))), .val (.int (3 : Int32))] [(.int ((((((0 : Int32) ||| ((atv cB (at1 + (3 : Int32))) &&& (255 : Int32))) <<< ((8 : Int32) &&& 31)) ||| ((atv cB (at1 + (2 : Int32))) &&& (255 : Int32))) <<< ((8 : Int32) &&& 31)) ||| ((atv cB (at1 + (1 : Int32))) &&& (255 : Int32))))]))
  refine own_st (fun _ kS => XS.bipush X14.here hx rfl (hb hby d2_34) kS) ?_
  show own_G p.tables e below _ (T14.setTop (mkF m 36 #[.val (.ref a1), .val (.ref a2), .val (.int at1), .val (.int ((((((0 : Int32) ||| ((atv cB (at1 + (3 : Int32))) &&& (255 : Int32))) <<< ((8 : Int32) &&& 31)) ||| ((atv cB (at1 + (2 : Int32))) &&& (255 : Int32))) <<< ((8 : Int32) &&& 31)) ||| ((atv cB (at1 + (1 : Int32))) &&& (255 : Int32)))), .val (.int (3 : Int32))] [(.int (8 : Int32)), (.int ((((((0 : Int32) ||| ((atv cB (at1 + (3 : Int32))) &&& (255 : Int32))) <<< ((8 : Int32) &&& 31)) ||| ((atv cB (at1 + (2 : Int32))) &&& (255 : Int32))) <<< ((8 : Int32) &&& 31)) ||| ((atv cB (at1 + (1 : Int32))) &&& (255 : Int32))))]))
  refine own_st (fun _ kS => XT.ishl X14.here hx rfl (hb hby d2_36) rfl kS) ?_
  show own_G p.tables e below _ (T14.setTop (mkF m 37 #[.val (.ref a1), .val (.ref a2), .val (.int at1), .val (.int ((((((0 : Int32) ||| ((atv cB (at1 + (3 : Int32))) &&& (255 : Int32))) <<< ((8 : Int32) &&& 31)) ||| ((atv cB (at1 + (2 : Int32))) &&& (255 : Int32))) <<< ((8 : Int32) &&& 31)) ||| ((atv cB (at1 + (1 : Int32))) &&& (255 : Int32)))), .val (.int (3 : Int32))] [(.int (((((((0 : Int32) ||| ((atv cB (at1 + (3 : Int32))) &&& (255 : Int32))) <<< ((8 : Int32) &&& 31)) ||| ((atv cB (at1 + (2 : Int32))) &&& (255 : Int32))) <<< ((8 : Int32) &&& 31)) ||| ((atv cB (at1 + (1 : Int32))) &&& (255 : Int32))) <<< ((8 : Int32) &&& 31)))]))
  refine own_st (fun _ kS => XS.aloadN X14.here hx rfl (hb hby d2_37) rfl rfl kS) ?_
  show own_G p.tables e below _ (T14.setTop (mkF m 38 #[.val (.ref a1), .val (.ref a2), .val (.int at1), .val (.int ((((((0 : Int32) ||| ((atv cB (at1 + (3 : Int32))) &&& (255 : Int32))) <<< ((8 : Int32) &&& 31)) ||| ((atv cB (at1 + (2 : Int32))) &&& (255 : Int32))) <<< ((8 : Int32) &&& 31)) ||| ((atv cB (at1 + (1 : Int32))) &&& (255 : Int32)))), .val (.int (3 : Int32))] [(.ref a2), (.int (((((((0 : Int32) ||| ((atv cB (at1 + (3 : Int32))) &&& (255 : Int32))) <<< ((8 : Int32) &&& 31)) ||| ((atv cB (at1 + (2 : Int32))) &&& (255 : Int32))) <<< ((8 : Int32) &&& 31)) ||| ((atv cB (at1 + (1 : Int32))) &&& (255 : Int32))) <<< ((8 : Int32) &&& 31)))]))
  refine own_st (fun _ kS => XS.aloadN X14.here hx rfl (hb hby d2_38) rfl rfl kS) ?_
  show own_G p.tables e below _ (T14.setTop (mkF m 39 #[.val (.ref a1), .val (.ref a2), .val (.int at1), .val (.int ((((((0 : Int32) ||| ((atv cB (at1 + (3 : Int32))) &&& (255 : Int32))) <<< ((8 : Int32) &&& 31)) ||| ((atv cB (at1 + (2 : Int32))) &&& (255 : Int32))) <<< ((8 : Int32) &&& 31)) ||| ((atv cB (at1 + (1 : Int32))) &&& (255 : Int32)))), .val (.int (3 : Int32))] [(.ref a1), (.ref a2), (.int (((((((0 : Int32) ||| ((atv cB (at1 + (3 : Int32))) &&& (255 : Int32))) <<< ((8 : Int32) &&& 31)) ||| ((atv cB (at1 + (2 : Int32))) &&& (255 : Int32))) <<< ((8 : Int32) &&& 31)) ||| ((atv cB (at1 + (1 : Int32))) &&& (255 : Int32))) <<< ((8 : Int32) &&& 31)))]))
  obtain ⟨T15, X15, e15, st15⟩ := getF X14 hx hZ hown (host := "") (Or.inl (hw _ (List.mem_of_getElem? (i := 16) rfl))) Via.refl e14 (Fld.ext O0.2 Fl) (g := (mkF m 39 #[.val (.ref a1), .val (.ref a2), .val (.int at1), .val (.int ((((((0 : Int32) ||| ((atv cB (at1 + (3 : Int32))) &&& (255 : Int32))) <<< ((8 : Int32) &&& 31)) ||| ((atv cB (at1 + (2 : Int32))) &&& (255 : Int32))) <<< ((8 : Int32) &&& 31)) ||| ((atv cB (at1 + (1 : Int32))) &&& (255 : Int32)))), .val (.int (3 : Int32))] [(.ref a1), (.ref a2), (.int (((((((0 : Int32) ||| ((atv cB (at1 + (3 : Int32))) &&& (255 : Int32))) <<< ((8 : Int32) &&& 31)) ||| ((atv cB (at1 + (2 : Int32))) &&& (255 : Int32))) <<< ((8 : Int32) &&& 31)) ||| ((atv cB (at1 + (1 : Int32))) &&& (255 : Int32))) <<< ((8 : Int32) &&& 31)))])) rfl rfl (hb hby d2_39)
  refine own_st st15 ?_
  show own_G p.tables e below _ (T15.setTop (mkF m 42 #[.val (.ref a1), .val (.ref a2), .val (.int at1), .val (.int ((((((0 : Int32) ||| ((atv cB (at1 + (3 : Int32))) &&& (255 : Int32))) <<< ((8 : Int32) &&& 31)) ||| ((atv cB (at1 + (2 : Int32))) &&& (255 : Int32))) <<< ((8 : Int32) &&& 31)) ||| ((atv cB (at1 + (1 : Int32))) &&& (255 : Int32)))), .val (.int (3 : Int32))] [(.int (1 : Int32)), (.ref a2), (.int (((((((0 : Int32) ||| ((atv cB (at1 + (3 : Int32))) &&& (255 : Int32))) <<< ((8 : Int32) &&& 31)) ||| ((atv cB (at1 + (2 : Int32))) &&& (255 : Int32))) <<< ((8 : Int32) &&& 31)) ||| ((atv cB (at1 + (1 : Int32))) &&& (255 : Int32))) <<< ((8 : Int32) &&& 31)))]))
  refine own_st (fun _ kS => XS.ifNo X15.here hx rfl (hb hby d2_42) rfl ((if0 _ _).trans (feq (by decide : ¬ ((1 : Int32) = (0 : Int32)))).1) kS) ?_
  show own_G p.tables e below _ (T15.setTop (mkF m 45 #[.val (.ref a1), .val (.ref a2), .val (.int at1), .val (.int ((((((0 : Int32) ||| ((atv cB (at1 + (3 : Int32))) &&& (255 : Int32))) <<< ((8 : Int32) &&& 31)) ||| ((atv cB (at1 + (2 : Int32))) &&& (255 : Int32))) <<< ((8 : Int32) &&& 31)) ||| ((atv cB (at1 + (1 : Int32))) &&& (255 : Int32)))), .val (.int (3 : Int32))] [(.ref a2), (.int (((((((0 : Int32) ||| ((atv cB (at1 + (3 : Int32))) &&& (255 : Int32))) <<< ((8 : Int32) &&& 31)) ||| ((atv cB (at1 + (2 : Int32))) &&& (255 : Int32))) <<< ((8 : Int32) &&& 31)) ||| ((atv cB (at1 + (1 : Int32))) &&& (255 : Int32))) <<< ((8 : Int32) &&& 31)))]))
  refine own_st (fun _ kS => XS.iloadN X15.here hx rfl (hb hby d2_45) rfl kS) ?_
  show own_G p.tables e below _ (T15.setTop (mkF m 46 #[.val (.ref a1), .val (.ref a2), .val (.int at1), .val (.int ((((((0 : Int32) ||| ((atv cB (at1 + (3 : Int32))) &&& (255 : Int32))) <<< ((8 : Int32) &&& 31)) ||| ((atv cB (at1 + (2 : Int32))) &&& (255 : Int32))) <<< ((8 : Int32) &&& 31)) ||| ((atv cB (at1 + (1 : Int32))) &&& (255 : Int32)))), .val (.int (3 : Int32))] [(.int at1), (.ref a2), (.int (((((((0 : Int32) ||| ((atv cB (at1 + (3 : Int32))) &&& (255 : Int32))) <<< ((8 : Int32) &&& 31)) ||| ((atv cB (at1 + (2 : Int32))) &&& (255 : Int32))) <<< ((8 : Int32) &&& 31)) ||| ((atv cB (at1 + (1 : Int32))) &&& (255 : Int32))) <<< ((8 : Int32) &&& 31)))]))
  refine own_st (fun _ kS => XS.aloadN X15.here hx rfl (hb hby d2_46) rfl rfl kS) ?_
  show own_G p.tables e below _ (T15.setTop (mkF m 47 #[.val (.ref a1), .val (.ref a2), .val (.int at1), .val (.int ((((((0 : Int32) ||| ((atv cB (at1 + (3 : Int32))) &&& (255 : Int32))) <<< ((8 : Int32) &&& 31)) ||| ((atv cB (at1 + (2 : Int32))) &&& (255 : Int32))) <<< ((8 : Int32) &&& 31)) ||| ((atv cB (at1 + (1 : Int32))) &&& (255 : Int32)))), .val (.int (3 : Int32))] [(.ref a1), (.int at1), (.ref a2), (.int (((((((0 : Int32) ||| ((atv cB (at1 + (3 : Int32))) &&& (255 : Int32))) <<< ((8 : Int32) &&& 31)) ||| ((atv cB (at1 + (2 : Int32))) &&& (255 : Int32))) <<< ((8 : Int32) &&& 31)) ||| ((atv cB (at1 + (1 : Int32))) &&& (255 : Int32))) <<< ((8 : Int32) &&& 31)))]))
  obtain ⟨T16, X16, e16, st16⟩ := getF X15 hx hZ hown (host := "") (Or.inl (hw _ (List.mem_of_getElem? (i := 14) rfl))) Via.refl e15 (Fld.ext O0.2 Fw) (g := (mkF m 47 #[.val (.ref a1), .val (.ref a2), .val (.int at1), .val (.int ((((((0 : Int32) ||| ((atv cB (at1 + (3 : Int32))) &&& (255 : Int32))) <<< ((8 : Int32) &&& 31)) ||| ((atv cB (at1 + (2 : Int32))) &&& (255 : Int32))) <<< ((8 : Int32) &&& 31)) ||| ((atv cB (at1 + (1 : Int32))) &&& (255 : Int32)))), .val (.int (3 : Int32))] [(.ref a1), (.int at1), (.ref a2), (.int (((((((0 : Int32) ||| ((atv cB (at1 + (3 : Int32))) &&& (255 : Int32))) <<< ((8 : Int32) &&& 31)) ||| ((atv cB (at1 + (2 : Int32))) &&& (255 : Int32))) <<< ((8 : Int32) &&& 31)) ||| ((atv cB (at1 + (1 : Int32))) &&& (255 : Int32))) <<< ((8 : Int32) &&& 31)))])) rfl rfl (hb hby d2_47)
  refine own_st st16 ?_
  show own_G p.tables e below _ (T16.setTop (mkF m 50 #[.val (.ref a1), .val (.ref a2), .val (.int at1), .val (.int ((((((0 : Int32) ||| ((atv cB (at1 + (3 : Int32))) &&& (255 : Int32))) <<< ((8 : Int32) &&& 31)) ||| ((atv cB (at1 + (2 : Int32))) &&& (255 : Int32))) <<< ((8 : Int32) &&& 31)) ||| ((atv cB (at1 + (1 : Int32))) &&& (255 : Int32)))), .val (.int (3 : Int32))] [(.int (4 : Int32)), (.int at1), (.ref a2), (.int (((((((0 : Int32) ||| ((atv cB (at1 + (3 : Int32))) &&& (255 : Int32))) <<< ((8 : Int32) &&& 31)) ||| ((atv cB (at1 + (2 : Int32))) &&& (255 : Int32))) <<< ((8 : Int32) &&& 31)) ||| ((atv cB (at1 + (1 : Int32))) &&& (255 : Int32))) <<< ((8 : Int32) &&& 31)))]))
  refine own_st (fun _ kS => XS.iadd X16.here hx rfl (hb hby d2_50) rfl kS) ?_
  show own_G p.tables e below _ (T16.setTop (mkF m 51 #[.val (.ref a1), .val (.ref a2), .val (.int at1), .val (.int ((((((0 : Int32) ||| ((atv cB (at1 + (3 : Int32))) &&& (255 : Int32))) <<< ((8 : Int32) &&& 31)) ||| ((atv cB (at1 + (2 : Int32))) &&& (255 : Int32))) <<< ((8 : Int32) &&& 31)) ||| ((atv cB (at1 + (1 : Int32))) &&& (255 : Int32)))), .val (.int (3 : Int32))] [(.int (at1 + (4 : Int32))), (.ref a2), (.int (((((((0 : Int32) ||| ((atv cB (at1 + (3 : Int32))) &&& (255 : Int32))) <<< ((8 : Int32) &&& 31)) ||| ((atv cB (at1 + (2 : Int32))) &&& (255 : Int32))) <<< ((8 : Int32) &&& 31)) ||| ((atv cB (at1 + (1 : Int32))) &&& (255 : Int32))) <<< ((8 : Int32) &&& 31)))]))
  refine own_st (fun _ kS => XS.iconst X16.here hx rfl (hb hby d2_51) kS) ?_
  show own_G p.tables e below _ (T16.setTop (mkF m 52 #[.val (.ref a1), .val (.ref a2), .val (.int at1), .val (.int ((((((0 : Int32) ||| ((atv cB (at1 + (3 : Int32))) &&& (255 : Int32))) <<< ((8 : Int32) &&& 31)) ||| ((atv cB (at1 + (2 : Int32))) &&& (255 : Int32))) <<< ((8 : Int32) &&& 31)) ||| ((atv cB (at1 + (1 : Int32))) &&& (255 : Int32)))), .val (.int (3 : Int32))] [(.int (1 : Int32)), (.int (at1 + (4 : Int32))), (.ref a2), (.int (((((((0 : Int32) ||| ((atv cB (at1 + (3 : Int32))) &&& (255 : Int32))) <<< ((8 : Int32) &&& 31)) ||| ((atv cB (at1 + (2 : Int32))) &&& (255 : Int32))) <<< ((8 : Int32) &&& 31)) ||| ((atv cB (at1 + (1 : Int32))) &&& (255 : Int32))) <<< ((8 : Int32) &&& 31)))]))
  refine own_st (fun _ kS => XS.isub X16.here hx rfl (hb hby d2_52) rfl kS) ?_
  show own_G p.tables e below _ (T16.setTop (mkF m 53 #[.val (.ref a1), .val (.ref a2), .val (.int at1), .val (.int ((((((0 : Int32) ||| ((atv cB (at1 + (3 : Int32))) &&& (255 : Int32))) <<< ((8 : Int32) &&& 31)) ||| ((atv cB (at1 + (2 : Int32))) &&& (255 : Int32))) <<< ((8 : Int32) &&& 31)) ||| ((atv cB (at1 + (1 : Int32))) &&& (255 : Int32)))), .val (.int (3 : Int32))] [(.int ((at1 + (4 : Int32)) - (1 : Int32))), (.ref a2), (.int (((((((0 : Int32) ||| ((atv cB (at1 + (3 : Int32))) &&& (255 : Int32))) <<< ((8 : Int32) &&& 31)) ||| ((atv cB (at1 + (2 : Int32))) &&& (255 : Int32))) <<< ((8 : Int32) &&& 31)) ||| ((atv cB (at1 + (1 : Int32))) &&& (255 : Int32))) <<< ((8 : Int32) &&& 31)))]))
  refine own_st (fun _ kS => XS.iload X16.here hx rfl (hb hby d2_53) rfl kS) ?_
  show own_G p.tables e below _ (T16.setTop (mkF m 55 #[.val (.ref a1), .val (.ref a2), .val (.int at1), .val (.int ((((((0 : Int32) ||| ((atv cB (at1 + (3 : Int32))) &&& (255 : Int32))) <<< ((8 : Int32) &&& 31)) ||| ((atv cB (at1 + (2 : Int32))) &&& (255 : Int32))) <<< ((8 : Int32) &&& 31)) ||| ((atv cB (at1 + (1 : Int32))) &&& (255 : Int32)))), .val (.int (3 : Int32))] [(.int (3 : Int32)), (.int ((at1 + (4 : Int32)) - (1 : Int32))), (.ref a2), (.int (((((((0 : Int32) ||| ((atv cB (at1 + (3 : Int32))) &&& (255 : Int32))) <<< ((8 : Int32) &&& 31)) ||| ((atv cB (at1 + (2 : Int32))) &&& (255 : Int32))) <<< ((8 : Int32) &&& 31)) ||| ((atv cB (at1 + (1 : Int32))) &&& (255 : Int32))) <<< ((8 : Int32) &&& 31)))]))
  refine own_st (fun _ kS => XS.isub X16.here hx rfl (hb hby d2_55) rfl kS) ?_
  show own_G p.tables e below _ (T16.setTop (mkF m 56 #[.val (.ref a1), .val (.ref a2), .val (.int at1), .val (.int ((((((0 : Int32) ||| ((atv cB (at1 + (3 : Int32))) &&& (255 : Int32))) <<< ((8 : Int32) &&& 31)) ||| ((atv cB (at1 + (2 : Int32))) &&& (255 : Int32))) <<< ((8 : Int32) &&& 31)) ||| ((atv cB (at1 + (1 : Int32))) &&& (255 : Int32)))), .val (.int (3 : Int32))] [(.int (((at1 + (4 : Int32)) - (1 : Int32)) - (3 : Int32))), (.ref a2), (.int (((((((0 : Int32) ||| ((atv cB (at1 + (3 : Int32))) &&& (255 : Int32))) <<< ((8 : Int32) &&& 31)) ||| ((atv cB (at1 + (2 : Int32))) &&& (255 : Int32))) <<< ((8 : Int32) &&& 31)) ||| ((atv cB (at1 + (1 : Int32))) &&& (255 : Int32))) <<< ((8 : Int32) &&& 31)))]))
  refine own_st (fun _ kS => XS.goto X16.here hx rfl (pc0 := 56) (pc' := 63) rfl (hb hby d2_56) (by decide) (by decide) kS) ?_
  show own_G p.tables e below _ (T16.setTop (mkF m 63 #[.val (.ref a1), .val (.ref a2), .val (.int at1), .val (.int ((((((0 : Int32) ||| ((atv cB (at1 + (3 : Int32))) &&& (255 : Int32))) <<< ((8 : Int32) &&& 31)) ||| ((atv cB (at1 + (2 : Int32))) &&& (255 : Int32))) <<< ((8 : Int32) &&& 31)) ||| ((atv cB (at1 + (1 : Int32))) &&& (255 : Int32)))), .val (.int (3 : Int32))] [(.int (((at1 + (4 : Int32)) - (1 : Int32)) - (3 : Int32))), (.ref a2), (.int (((((((0 : Int32) ||| ((atv cB (at1 + (3 : Int32))) &&& (255 : Int32))) <<< ((8 : Int32) &&& 31)) ||| ((atv cB (at1 + (2 : Int32))) &&& (255 : Int32))) <<< ((8 : Int32) &&& 31)) ||| ((atv cB (at1 + (1 : Int32))) &&& (255 : Int32))) <<< ((8 : Int32) &&& 31)))]))
  rw [own_ixL at1 4 3 0 (by decide) (by decide) (by decide)]
  rw [own_add0 at1]
  show own_G p.tables e below _ (T16.setTop (mkF m 63 #[.val (.ref a1), .val (.ref a2), .val (.int at1), .val (.int ((((((0 : Int32) ||| ((atv cB (at1 + (3 : Int32))) &&& (255 : Int32))) <<< ((8 : Int32) &&& 31)) ||| ((atv cB (at1 + (2 : Int32))) &&& (255 : Int32))) <<< ((8 : Int32) &&& 31)) ||| ((atv cB (at1 + (1 : Int32))) &&& (255 : Int32)))), .val (.int (3 : Int32))] [(.int at1), (.ref a2), (.int (((((((0 : Int32) ||| ((atv cB (at1 + (3 : Int32))) &&& (255 : Int32))) <<< ((8 : Int32) &&& 31)) ||| ((atv cB (at1 + (2 : Int32))) &&& (255 : Int32))) <<< ((8 : Int32) &&& 31)) ||| ((atv cB (at1 + (1 : Int32))) &&& (255 : Int32))) <<< ((8 : Int32) &&& 31)))]))
  have ib17 : ¬ (at1 < 0 ∨ cB.slots.size ≤ (at1).toNatClampNeg) := inb_of Tb.2.1 (own_inb0 hbn (by decide))
  refine own_st (fun _ kS => X16.baloadBytes hx (j := at1) (v := (.int (atv cB at1))) (by rw [e16]; exact Tb.1.1) (State.isArrayOf_alike hZ.alike Tb.1.2.1) Tb.1.2.2 ib17 (Tb.2.2.2 _ ib17) (g := (mkF m 63 #[.val (.ref a1), .val (.ref a2), .val (.int at1), .val (.int ((((((0 : Int32) ||| ((atv cB (at1 + (3 : Int32))) &&& (255 : Int32))) <<< ((8 : Int32) &&& 31)) ||| ((atv cB (at1 + (2 : Int32))) &&& (255 : Int32))) <<< ((8 : Int32) &&& 31)) ||| ((atv cB (at1 + (1 : Int32))) &&& (255 : Int32)))), .val (.int (3 : Int32))] [(.int at1), (.ref a2), (.int (((((((0 : Int32) ||| ((atv cB (at1 + (3 : Int32))) &&& (255 : Int32))) <<< ((8 : Int32) &&& 31)) ||| ((atv cB (at1 + (2 : Int32))) &&& (255 : Int32))) <<< ((8 : Int32) &&& 31)) ||| ((atv cB (at1 + (1 : Int32))) &&& (255 : Int32))) <<< ((8 : Int32) &&& 31)))])) rfl rfl (hb hby d2_63) _ kS) ?_
  show own_G p.tables e below _ (T16.setTop (mkF m 64 #[.val (.ref a1), .val (.ref a2), .val (.int at1), .val (.int ((((((0 : Int32) ||| ((atv cB (at1 + (3 : Int32))) &&& (255 : Int32))) <<< ((8 : Int32) &&& 31)) ||| ((atv cB (at1 + (2 : Int32))) &&& (255 : Int32))) <<< ((8 : Int32) &&& 31)) ||| ((atv cB (at1 + (1 : Int32))) &&& (255 : Int32)))), .val (.int (3 : Int32))] [(.int (atv cB at1)), (.int (((((((0 : Int32) ||| ((atv cB (at1 + (3 : Int32))) &&& (255 : Int32))) <<< ((8 : Int32) &&& 31)) ||| ((atv cB (at1 + (2 : Int32))) &&& (255 : Int32))) <<< ((8 : Int32) &&& 31)) ||| ((atv cB (at1 + (1 : Int32))) &&& (255 : Int32))) <<< ((8 : Int32) &&& 31)))]))
  refine own_st (fun _ kS => XS.sipush X16.here hx rfl (hb hby d2_64) kS) ?_
  show own_G p.tables e below _ (T16.setTop (mkF m 67 #[.val (.ref a1), .val (.ref a2), .val (.int at1), .val (.int ((((((0 : Int32) ||| ((atv cB (at1 + (3 : Int32))) &&& (255 : Int32))) <<< ((8 : Int32) &&& 31)) ||| ((atv cB (at1 + (2 : Int32))) &&& (255 : Int32))) <<< ((8 : Int32) &&& 31)) ||| ((atv cB (at1 + (1 : Int32))) &&& (255 : Int32)))), .val (.int (3 : Int32))] [(.int (255 : Int32)), (.int (atv cB at1)), (.int (((((((0 : Int32) ||| ((atv cB (at1 + (3 : Int32))) &&& (255 : Int32))) <<< ((8 : Int32) &&& 31)) ||| ((atv cB (at1 + (2 : Int32))) &&& (255 : Int32))) <<< ((8 : Int32) &&& 31)) ||| ((atv cB (at1 + (1 : Int32))) &&& (255 : Int32))) <<< ((8 : Int32) &&& 31)))]))
  refine own_st (fun _ kS => XS.iand X16.here hx rfl (hb hby d2_67) rfl kS) ?_
  show own_G p.tables e below _ (T16.setTop (mkF m 68 #[.val (.ref a1), .val (.ref a2), .val (.int at1), .val (.int ((((((0 : Int32) ||| ((atv cB (at1 + (3 : Int32))) &&& (255 : Int32))) <<< ((8 : Int32) &&& 31)) ||| ((atv cB (at1 + (2 : Int32))) &&& (255 : Int32))) <<< ((8 : Int32) &&& 31)) ||| ((atv cB (at1 + (1 : Int32))) &&& (255 : Int32)))), .val (.int (3 : Int32))] [(.int ((atv cB at1) &&& (255 : Int32))), (.int (((((((0 : Int32) ||| ((atv cB (at1 + (3 : Int32))) &&& (255 : Int32))) <<< ((8 : Int32) &&& 31)) ||| ((atv cB (at1 + (2 : Int32))) &&& (255 : Int32))) <<< ((8 : Int32) &&& 31)) ||| ((atv cB (at1 + (1 : Int32))) &&& (255 : Int32))) <<< ((8 : Int32) &&& 31)))]))
  refine own_st (fun _ kS => XT.ior X16.here hx rfl (hb hby d2_68) rfl kS) ?_
  show own_G p.tables e below _ (T16.setTop (mkF m 69 #[.val (.ref a1), .val (.ref a2), .val (.int at1), .val (.int ((((((0 : Int32) ||| ((atv cB (at1 + (3 : Int32))) &&& (255 : Int32))) <<< ((8 : Int32) &&& 31)) ||| ((atv cB (at1 + (2 : Int32))) &&& (255 : Int32))) <<< ((8 : Int32) &&& 31)) ||| ((atv cB (at1 + (1 : Int32))) &&& (255 : Int32)))), .val (.int (3 : Int32))] [(.int ((((((((0 : Int32) ||| ((atv cB (at1 + (3 : Int32))) &&& (255 : Int32))) <<< ((8 : Int32) &&& 31)) ||| ((atv cB (at1 + (2 : Int32))) &&& (255 : Int32))) <<< ((8 : Int32) &&& 31)) ||| ((atv cB (at1 + (1 : Int32))) &&& (255 : Int32))) <<< ((8 : Int32) &&& 31)) ||| ((atv cB at1) &&& (255 : Int32))))]))
  refine own_st (fun _ kS => XS.istoreN X16.here hx rfl (hb hby d2_69) rfl (l' := #[.val (.ref a1), .val (.ref a2), .val (.int at1), .val (.int ((((((((0 : Int32) ||| ((atv cB (at1 + (3 : Int32))) &&& (255 : Int32))) <<< ((8 : Int32) &&& 31)) ||| ((atv cB (at1 + (2 : Int32))) &&& (255 : Int32))) <<< ((8 : Int32) &&& 31)) ||| ((atv cB (at1 + (1 : Int32))) &&& (255 : Int32))) <<< ((8 : Int32) &&& 31)) ||| ((atv cB at1) &&& (255 : Int32)))), .val (.int (3 : Int32))]) rfl kS) ?_
  show own_G p.tables e below _ (T16.setTop (mkF m 70 #[.val (.ref a1), .val (.ref a2), .val (.int at1), .val (.int ((((((((0 : Int32) ||| ((atv cB (at1 + (3 : Int32))) &&& (255 : Int32))) <<< ((8 : Int32) &&& 31)) ||| ((atv cB (at1 + (2 : Int32))) &&& (255 : Int32))) <<< ((8 : Int32) &&& 31)) ||| ((atv cB (at1 + (1 : Int32))) &&& (255 : Int32))) <<< ((8 : Int32) &&& 31)) ||| ((atv cB at1) &&& (255 : Int32)))), .val (.int (3 : Int32))] []))
  refine own_st (fun _ kS => XS.iinc X16.here hx rfl (hb hby d2_70) rfl (l' := #[.val (.ref a1), .val (.ref a2), .val (.int at1), .val (.int ((((((((0 : Int32) ||| ((atv cB (at1 + (3 : Int32))) &&& (255 : Int32))) <<< ((8 : Int32) &&& 31)) ||| ((atv cB (at1 + (2 : Int32))) &&& (255 : Int32))) <<< ((8 : Int32) &&& 31)) ||| ((atv cB (at1 + (1 : Int32))) &&& (255 : Int32))) <<< ((8 : Int32) &&& 31)) ||| ((atv cB at1) &&& (255 : Int32)))), .val (.int (4 : Int32))]) rfl kS) ?_
  show own_G p.tables e below _ (T16.setTop (mkF m 73 #[.val (.ref a1), .val (.ref a2), .val (.int at1), .val (.int ((((((((0 : Int32) ||| ((atv cB (at1 + (3 : Int32))) &&& (255 : Int32))) <<< ((8 : Int32) &&& 31)) ||| ((atv cB (at1 + (2 : Int32))) &&& (255 : Int32))) <<< ((8 : Int32) &&& 31)) ||| ((atv cB (at1 + (1 : Int32))) &&& (255 : Int32))) <<< ((8 : Int32) &&& 31)) ||| ((atv cB at1) &&& (255 : Int32)))), .val (.int (4 : Int32))] []))
  refine own_st (fun _ kS => XS.goto X16.here hx rfl (pc0 := 73) (pc' := 24) rfl (hb hby d2_73) (by decide) (by decide) kS) ?_
  show own_G p.tables e below _ (T16.setTop (mkF m 24 #[.val (.ref a1), .val (.ref a2), .val (.int at1), .val (.int ((((((((0 : Int32) ||| ((atv cB (at1 + (3 : Int32))) &&& (255 : Int32))) <<< ((8 : Int32) &&& 31)) ||| ((atv cB (at1 + (2 : Int32))) &&& (255 : Int32))) <<< ((8 : Int32) &&& 31)) ||| ((atv cB (at1 + (1 : Int32))) &&& (255 : Int32))) <<< ((8 : Int32) &&& 31)) ||| ((atv cB at1) &&& (255 : Int32)))), .val (.int (4 : Int32))] []))
  refine own_st (fun _ kS => XS.iload X16.here hx rfl (hb hby d2_24) rfl kS) ?_
  show own_G p.tables e below _ (T16.setTop (mkF m 26 #[.val (.ref a1), .val (.ref a2), .val (.int at1), .val (.int ((((((((0 : Int32) ||| ((atv cB (at1 + (3 : Int32))) &&& (255 : Int32))) <<< ((8 : Int32) &&& 31)) ||| ((atv cB (at1 + (2 : Int32))) &&& (255 : Int32))) <<< ((8 : Int32) &&& 31)) ||| ((atv cB (at1 + (1 : Int32))) &&& (255 : Int32))) <<< ((8 : Int32) &&& 31)) ||| ((atv cB at1) &&& (255 : Int32)))), .val (.int (4 : Int32))] [(.int (4 : Int32))]))
  refine own_st (fun _ kS => XS.aloadN X16.here hx rfl (hb hby d2_26) rfl rfl kS) ?_
  show own_G p.tables e below _ (T16.setTop (mkF m 27 #[.val (.ref a1), .val (.ref a2), .val (.int at1), .val (.int ((((((((0 : Int32) ||| ((atv cB (at1 + (3 : Int32))) &&& (255 : Int32))) <<< ((8 : Int32) &&& 31)) ||| ((atv cB (at1 + (2 : Int32))) &&& (255 : Int32))) <<< ((8 : Int32) &&& 31)) ||| ((atv cB (at1 + (1 : Int32))) &&& (255 : Int32))) <<< ((8 : Int32) &&& 31)) ||| ((atv cB at1) &&& (255 : Int32)))), .val (.int (4 : Int32))] [(.ref a1), (.int (4 : Int32))]))
  obtain ⟨T18, X18, e18, st18⟩ := getF X16 hx hZ hown (host := "") (Or.inl (hw _ (List.mem_of_getElem? (i := 14) rfl))) Via.refl e16 (Fld.ext O0.2 Fw) (g := (mkF m 27 #[.val (.ref a1), .val (.ref a2), .val (.int at1), .val (.int ((((((((0 : Int32) ||| ((atv cB (at1 + (3 : Int32))) &&& (255 : Int32))) <<< ((8 : Int32) &&& 31)) ||| ((atv cB (at1 + (2 : Int32))) &&& (255 : Int32))) <<< ((8 : Int32) &&& 31)) ||| ((atv cB (at1 + (1 : Int32))) &&& (255 : Int32))) <<< ((8 : Int32) &&& 31)) ||| ((atv cB at1) &&& (255 : Int32)))), .val (.int (4 : Int32))] [(.ref a1), (.int (4 : Int32))])) rfl rfl (hb hby d2_27)
  refine own_st st18 ?_
  show own_G p.tables e below _ (T18.setTop (mkF m 30 #[.val (.ref a1), .val (.ref a2), .val (.int at1), .val (.int ((((((((0 : Int32) ||| ((atv cB (at1 + (3 : Int32))) &&& (255 : Int32))) <<< ((8 : Int32) &&& 31)) ||| ((atv cB (at1 + (2 : Int32))) &&& (255 : Int32))) <<< ((8 : Int32) &&& 31)) ||| ((atv cB (at1 + (1 : Int32))) &&& (255 : Int32))) <<< ((8 : Int32) &&& 31)) ||| ((atv cB at1) &&& (255 : Int32)))), .val (.int (4 : Int32))] [(.int (4 : Int32)), (.int (4 : Int32))]))
  refine own_st (fun _ kS => XS.icmpYes X18.here hx rfl (pc0 := 30) (pc' := 76) rfl (hb hby d2_30) rfl (flt (by decide : ¬ ((4 : Int32) < (4 : Int32)))).2.1 (by decide) (by decide) kS) ?_
  show own_G p.tables e below _ (T18.setTop (mkF m 76 #[.val (.ref a1), .val (.ref a2), .val (.int at1), .val (.int ((((((((0 : Int32) ||| ((atv cB (at1 + (3 : Int32))) &&& (255 : Int32))) <<< ((8 : Int32) &&& 31)) ||| ((atv cB (at1 + (2 : Int32))) &&& (255 : Int32))) <<< ((8 : Int32) &&& 31)) ||| ((atv cB (at1 + (1 : Int32))) &&& (255 : Int32))) <<< ((8 : Int32) &&& 31)) ||| ((atv cB at1) &&& (255 : Int32)))), .val (.int (4 : Int32))] []))
  refine own_st (fun _ kS => XS.iloadN X18.here hx rfl (hb hby d2_76) rfl kS) ?_
  show own_G p.tables e below _ (T18.setTop (mkF m 77 #[.val (.ref a1), .val (.ref a2), .val (.int at1), .val (.int ((((((((0 : Int32) ||| ((atv cB (at1 + (3 : Int32))) &&& (255 : Int32))) <<< ((8 : Int32) &&& 31)) ||| ((atv cB (at1 + (2 : Int32))) &&& (255 : Int32))) <<< ((8 : Int32) &&& 31)) ||| ((atv cB (at1 + (1 : Int32))) &&& (255 : Int32))) <<< ((8 : Int32) &&& 31)) ||| ((atv cB at1) &&& (255 : Int32)))), .val (.int (4 : Int32))] [(.int ((((((((0 : Int32) ||| ((atv cB (at1 + (3 : Int32))) &&& (255 : Int32))) <<< ((8 : Int32) &&& 31)) ||| ((atv cB (at1 + (2 : Int32))) &&& (255 : Int32))) <<< ((8 : Int32) &&& 31)) ||| ((atv cB (at1 + (1 : Int32))) &&& (255 : Int32))) <<< ((8 : Int32) &&& 31)) ||| ((atv cB at1) &&& (255 : Int32))))]))
  exact own_retI X18 hx hlk hret (hb hby d2_77) (by decide) (by decide) (by rw [e18]; exact ⟨rfl, N0, rfl⟩)
theorem ef_unitAt_2_0 (m : MethodId) (x0 : Addr) (x1 : Addr) (x2 : Int32) : entryFrame m #[(.ref x0), (.ref x1), (.int x2)] 5 = mkF m 0 #[.val (.ref x0), .val (.ref x1), .val (.int x2), .unset, .unset] [] := by first | (simp [entryFrame, mkF, argsToLocals, Value.category]; done) | rfl
def Q_unitAt_2_0 (Z : State) (a1 : Addr) (a2 : Addr) (cB : Cell) (at1 : Int32) (h0 : Heap) (n0 : Nat) (v : Option Value) (h : Heap) (L : List Loc) : Prop := v = some (.int ((((0 : Int32) ||| ((atv cB at1) &&& (255 : Int32))) <<< ((8 : Int32) &&& 31)) ||| ((atv cB (at1 + (1 : Int32))) &&& (255 : Int32)))) ∧ Fr n0 L ∧ h = h0
set_option maxRecDepth 65536 in
set_option maxHeartbeats 40000000 in
theorem rm_unitAt_2_0 (l : Launch) (Z : State) (a0 : Array Value) (hw : ∀ d ∈ tables_1, d.before a0 Z = true) (ws : List Jvm.Cond) (a1 : Addr) (a2 : Addr) (cB : Cell) (at1 : Int32) (h0 : Heap) (n0 : Nat) (Z0 : n0 ≤ h0.size) (O0 : Old Z n0 h0) (Fw : Fld Z Z.heap a1 "com/example/provenir/provenir/TextEncoding" "width" "I" (.int (2 : Int32))) (Fl : Fld Z Z.heap a1 "com/example/provenir/provenir/TextEncoding" "littleEndian" "Z" (.int (0 : Int32))) (Tb : Tab Z h0 a2 cB .byte (8 : Int32)) (hbn : 0 ≤ at1.toInt ∧ at1.toInt < 7) :
    MetFree l (⟨"com/example/provenir/provenir/TextEncoding", "unitAt", "([BI)I"⟩ : MethodName) (head1 (Jvm.Cond.code (⟨"com/example/provenir/provenir/TextEncoding", "unitAt", "([BI)I"⟩ : MethodName) prog_73_method_8_code 5 (some .int) :: ws) ({ frames := 0, cells := 0, slots := 0, locals := 0 } : Room)) (fun a U => a = #[(.ref a1), (.ref a2), (.int at1)] ∧ Z.Warmed39 U.vm ∧ U.heap = h0) (fun _ _ _ _ _ => True) (fun _ U o U' => ∃ v L, o = .returned v ∧ Q_unitAt_2_0 Z a1 a2 cB at1 h0 n0 v U'.heap L ∧ FrameEnd U o U' L ({ frames := 0, cells := 0, slots := 0, locals := 0 } : Room).cells ({ frames := 0, cells := 0, slots := 0, locals := 0 } : Room).slots) := by
  refine MetFree.of_bodySF (plainFor_of_name pn_2) hisR ?_
  intro p e s m args below meth c s₁ Bd hml0 hP hK
  obtain ⟨rfl, hZ, hh⟩ := hP
  have hx := Bd.exec
  have hby := Bd.bytes
  have hml : c.maxLocals = 5 := hml0
  have hown : s.vm.findClass "com/example/provenir/provenir/TextEncoding" = some m.cls := findClass_of_methodNamed Bd.named
  have hnm := (name_of_methodNamed Bd.named Bd.method).1
  have hlk := Bd.notSynchronized
  have hret := Bd.returns
  have X0 : Stand p l e ({ frames := 0, cells := 0, slots := 0, locals := 0 } : Room) s m #[(.ref a1), (.ref a2), (.int at1)] below meth c s₁ [] 0 0 := Stand.of_body Bd
  have e0 : s₁.heap = h0 := by rw [← hh, Bd.state]; rfl
  have N0 := Fr.nil n0
  refine own_in ({ frames := 0, cells := 0, slots := 0, locals := 0 } : Room).cells ({ frames := 0, cells := 0, slots := 0, locals := 0 } : Room).slots (Q_unitAt_2_0 Z a1 a2 cB at1 h0 n0) (ef_unitAt_2_0 m a1 a2 at1) ?_
  show own_G p.tables e below _ (s₁.setTop (mkF m 0 #[.val (.ref a1), .val (.ref a2), .val (.int at1), .unset, .unset] []))
  refine own_st (fun _ kS => XS.aloadN X0.here hx rfl (hb hby d2_0) rfl rfl kS) ?_
  show own_G p.tables e below _ (s₁.setTop (mkF m 1 #[.val (.ref a1), .val (.ref a2), .val (.int at1), .unset, .unset] [(.ref a1)]))
  obtain ⟨T1, X1, e1, st1⟩ := getF X0 hx hZ hown (host := "") (Or.inl (hw _ (List.mem_of_getElem? (i := 14) rfl))) Via.refl e0 (Fld.ext O0.2 Fw) (g := (mkF m 1 #[.val (.ref a1), .val (.ref a2), .val (.int at1), .unset, .unset] [(.ref a1)])) rfl rfl (hb hby d2_1)
  refine own_st st1 ?_
  show own_G p.tables e below _ (T1.setTop (mkF m 4 #[.val (.ref a1), .val (.ref a2), .val (.int at1), .unset, .unset] [(.int (2 : Int32))]))
  refine own_st (fun _ kS => XS.iconst X1.here hx rfl (hb hby d2_4) kS) ?_
  show own_G p.tables e below _ (T1.setTop (mkF m 5 #[.val (.ref a1), .val (.ref a2), .val (.int at1), .unset, .unset] [(.int (1 : Int32)), (.int (2 : Int32))]))
  refine own_st (fun _ kS => XS.icmpYes X1.here hx rfl (pc0 := 5) (pc' := 19) rfl (hb hby d2_5) rfl (feq (by decide : ¬ ((2 : Int32) = (1 : Int32)))).2 (by decide) (by decide) kS) ?_
  show own_G p.tables e below _ (T1.setTop (mkF m 19 #[.val (.ref a1), .val (.ref a2), .val (.int at1), .unset, .unset] []))
  refine own_st (fun _ kS => XS.iconst X1.here hx rfl (hb hby d2_19) kS) ?_
  show own_G p.tables e below _ (T1.setTop (mkF m 20 #[.val (.ref a1), .val (.ref a2), .val (.int at1), .unset, .unset] [(.int (0 : Int32))]))
  refine own_st (fun _ kS => XS.istoreN X1.here hx rfl (hb hby d2_20) rfl (l' := #[.val (.ref a1), .val (.ref a2), .val (.int at1), .val (.int (0 : Int32)), .unset]) rfl kS) ?_
  show own_G p.tables e below _ (T1.setTop (mkF m 21 #[.val (.ref a1), .val (.ref a2), .val (.int at1), .val (.int (0 : Int32)), .unset] []))
  refine own_st (fun _ kS => XS.iconst X1.here hx rfl (hb hby d2_21) kS) ?_
  show own_G p.tables e below _ (T1.setTop (mkF m 22 #[.val (.ref a1), .val (.ref a2), .val (.int at1), .val (.int (0 : Int32)), .unset] [(.int (0 : Int32))]))
  refine own_st (fun _ kS => XS.istore X1.here hx rfl (hb hby d2_22) rfl (l' := #[.val (.ref a1), .val (.ref a2), .val (.int at1), .val (.int (0 : Int32)), .val (.int (0 : Int32))]) rfl kS) ?_
  show own_G p.tables e below _ (T1.setTop (mkF m 24 #[.val (.ref a1), .val (.ref a2), .val (.int at1), .val (.int (0 : Int32)), .val (.int (0 : Int32))] []))
  refine own_st (fun _ kS => XS.iload X1.here hx rfl (hb hby d2_24) rfl kS) ?_
  show own_G p.tables e below _ (T1.setTop (mkF m 26 #[.val (.ref a1), .val (.ref a2), .val (.int at1), .val (.int (0 : Int32)), .val (.int (0 : Int32))] [(.int (0 : Int32))]))
  refine own_st (fun _ kS => XS.aloadN X1.here hx rfl (hb hby d2_26) rfl rfl kS) ?_
  show own_G p.tables e below _ (T1.setTop (mkF m 27 #[.val (.ref a1), .val (.ref a2), .val (.int at1), .val (.int (0 : Int32)), .val (.int (0 : Int32))] [(.ref a1), (.int (0 : Int32))]))
  obtain ⟨T2, X2, e2, st2⟩ := getF X1 hx hZ hown (host := "") (Or.inl (hw _ (List.mem_of_getElem? (i := 14) rfl))) Via.refl e1 (Fld.ext O0.2 Fw) (g := (mkF m 27 #[.val (.ref a1), .val (.ref a2), .val (.int at1), .val (.int (0 : Int32)), .val (.int (0 : Int32))] [(.ref a1), (.int (0 : Int32))])) rfl rfl (hb hby d2_27)
  refine own_st st2 ?_
  show own_G p.tables e below _ (T2.setTop (mkF m 30 #[.val (.ref a1), .val (.ref a2), .val (.int at1), .val (.int (0 : Int32)), .val (.int (0 : Int32))] [(.int (2 : Int32)), (.int (0 : Int32))]))
  refine own_st (fun _ kS => XS.icmpNo X2.here hx rfl (hb hby d2_30) rfl (tlt (by decide : (0 : Int32) < (2 : Int32))).2.1 kS) ?_
  show own_G p.tables e below _ (T2.setTop (mkF m 33 #[.val (.ref a1), .val (.ref a2), .val (.int at1), .val (.int (0 : Int32)), .val (.int (0 : Int32))] []))
  refine own_st (fun _ kS => XS.iloadN X2.here hx rfl (hb hby d2_33) rfl kS) ?_
  show own_G p.tables e below _ (T2.setTop (mkF m 34 #[.val (.ref a1), .val (.ref a2), .val (.int at1), .val (.int (0 : Int32)), .val (.int (0 : Int32))] [(.int (0 : Int32))]))
  refine own_st (fun _ kS => XS.bipush X2.here hx rfl (hb hby d2_34) kS) ?_
  show own_G p.tables e below _ (T2.setTop (mkF m 36 #[.val (.ref a1), .val (.ref a2), .val (.int at1), .val (.int (0 : Int32)), .val (.int (0 : Int32))] [(.int (8 : Int32)), (.int (0 : Int32))]))
  refine own_st (fun _ kS => XT.ishl X2.here hx rfl (hb hby d2_36) rfl kS) ?_
  show own_G p.tables e below _ (T2.setTop (mkF m 37 #[.val (.ref a1), .val (.ref a2), .val (.int at1), .val (.int (0 : Int32)), .val (.int (0 : Int32))] [(.int (0 : Int32))]))
  refine own_st (fun _ kS => XS.aloadN X2.here hx rfl (hb hby d2_37) rfl rfl kS) ?_
  show own_G p.tables e below _ (T2.setTop (mkF m 38 #[.val (.ref a1), .val (.ref a2), .val (.int at1), .val (.int (0 : Int32)), .val (.int (0 : Int32))] [(.ref a2), (.int (0 : Int32))]))
  refine own_st (fun _ kS => XS.aloadN X2.here hx rfl (hb hby d2_38) rfl rfl kS) ?_
  show own_G p.tables e below _ (T2.setTop (mkF m 39 #[.val (.ref a1), .val (.ref a2), .val (.int at1), .val (.int (0 : Int32)), .val (.int (0 : Int32))] [(.ref a1), (.ref a2), (.int (0 : Int32))]))
  obtain ⟨T3, X3, e3, st3⟩ := getF X2 hx hZ hown (host := "") (Or.inl (hw _ (List.mem_of_getElem? (i := 16) rfl))) Via.refl e2 (Fld.ext O0.2 Fl) (g := (mkF m 39 #[.val (.ref a1), .val (.ref a2), .val (.int at1), .val (.int (0 : Int32)), .val (.int (0 : Int32))] [(.ref a1), (.ref a2), (.int (0 : Int32))])) rfl rfl (hb hby d2_39)
  refine own_st st3 ?_
  show own_G p.tables e below _ (T3.setTop (mkF m 42 #[.val (.ref a1), .val (.ref a2), .val (.int at1), .val (.int (0 : Int32)), .val (.int (0 : Int32))] [(.int (0 : Int32)), (.ref a2), (.int (0 : Int32))]))
  refine own_st (fun _ kS => XS.ifYes X3.here hx rfl (pc0 := 42) (pc' := 59) rfl (hb hby d2_42) rfl ((if0 _ _).trans (teq (by decide : (0 : Int32) = (0 : Int32))).1) (by decide) (by decide) kS) ?_
  show own_G p.tables e below _ (T3.setTop (mkF m 59 #[.val (.ref a1), .val (.ref a2), .val (.int at1), .val (.int (0 : Int32)), .val (.int (0 : Int32))] [(.ref a2), (.int (0 : Int32))]))
  refine own_st (fun _ kS => XS.iloadN X3.here hx rfl (hb hby d2_59) rfl kS) ?_
  show own_G p.tables e below _ (T3.setTop (mkF m 60 #[.val (.ref a1), .val (.ref a2), .val (.int at1), .val (.int (0 : Int32)), .val (.int (0 : Int32))] [(.int at1), (.ref a2), (.int (0 : Int32))]))
  refine own_st (fun _ kS => XS.iload X3.here hx rfl (hb hby d2_60) rfl kS) ?_
  show own_G p.tables e below _ (T3.setTop (mkF m 62 #[.val (.ref a1), .val (.ref a2), .val (.int at1), .val (.int (0 : Int32)), .val (.int (0 : Int32))] [(.int (0 : Int32)), (.int at1), (.ref a2), (.int (0 : Int32))]))
  refine own_st (fun _ kS => XS.iadd X3.here hx rfl (hb hby d2_62) rfl kS) ?_
  show own_G p.tables e below _ (T3.setTop (mkF m 63 #[.val (.ref a1), .val (.ref a2), .val (.int at1), .val (.int (0 : Int32)), .val (.int (0 : Int32))] [(.int (at1 + (0 : Int32))), (.ref a2), (.int (0 : Int32))]))
  rw [own_add0 at1]
  show own_G p.tables e below _ (T3.setTop (mkF m 63 #[.val (.ref a1), .val (.ref a2), .val (.int at1), .val (.int (0 : Int32)), .val (.int (0 : Int32))] [(.int at1), (.ref a2), (.int (0 : Int32))]))
  have ib4 : ¬ (at1 < 0 ∨ cB.slots.size ≤ (at1).toNatClampNeg) := inb_of Tb.2.1 (own_inb0 hbn (by decide))
  refine own_st (fun _ kS => X3.baloadBytes hx (j := at1) (v := (.int (atv cB at1))) (by rw [e3]; exact Tb.1.1) (State.isArrayOf_alike hZ.alike Tb.1.2.1) Tb.1.2.2 ib4 (Tb.2.2.2 _ ib4) (g := (mkF m 63 #[.val (.ref a1), .val (.ref a2), .val (.int at1), .val (.int (0 : Int32)), .val (.int (0 : Int32))] [(.int at1), (.ref a2), (.int (0 : Int32))])) rfl rfl (hb hby d2_63) _ kS) ?_
  show own_G p.tables e below _ (T3.setTop (mkF m 64 #[.val (.ref a1), .val (.ref a2), .val (.int at1), .val (.int (0 : Int32)), .val (.int (0 : Int32))] [(.int (atv cB at1)), (.int (0 : Int32))]))
  refine own_st (fun _ kS => XS.sipush X3.here hx rfl (hb hby d2_64) kS) ?_
  show own_G p.tables e below _ (T3.setTop (mkF m 67 #[.val (.ref a1), .val (.ref a2), .val (.int at1), .val (.int (0 : Int32)), .val (.int (0 : Int32))] [(.int (255 : Int32)), (.int (atv cB at1)), (.int (0 : Int32))]))
  refine own_st (fun _ kS => XS.iand X3.here hx rfl (hb hby d2_67) rfl kS) ?_
  show own_G p.tables e below _ (T3.setTop (mkF m 68 #[.val (.ref a1), .val (.ref a2), .val (.int at1), .val (.int (0 : Int32)), .val (.int (0 : Int32))] [(.int ((atv cB at1) &&& (255 : Int32))), (.int (0 : Int32))]))
  refine own_st (fun _ kS => XT.ior X3.here hx rfl (hb hby d2_68) rfl kS) ?_
  show own_G p.tables e below _ (T3.setTop (mkF m 69 #[.val (.ref a1), .val (.ref a2), .val (.int at1), .val (.int (0 : Int32)), .val (.int (0 : Int32))] [(.int ((0 : Int32) ||| ((atv cB at1) &&& (255 : Int32))))]))
  refine own_st (fun _ kS => XS.istoreN X3.here hx rfl (hb hby d2_69) rfl (l' := #[.val (.ref a1), .val (.ref a2), .val (.int at1), .val (.int ((0 : Int32) ||| ((atv cB at1) &&& (255 : Int32)))), .val (.int (0 : Int32))]) rfl kS) ?_
  show own_G p.tables e below _ (T3.setTop (mkF m 70 #[.val (.ref a1), .val (.ref a2), .val (.int at1), .val (.int ((0 : Int32) ||| ((atv cB at1) &&& (255 : Int32)))), .val (.int (0 : Int32))] []))
  refine own_st (fun _ kS => XS.iinc X3.here hx rfl (hb hby d2_70) rfl (l' := #[.val (.ref a1), .val (.ref a2), .val (.int at1), .val (.int ((0 : Int32) ||| ((atv cB at1) &&& (255 : Int32)))), .val (.int (1 : Int32))]) rfl kS) ?_
  show own_G p.tables e below _ (T3.setTop (mkF m 73 #[.val (.ref a1), .val (.ref a2), .val (.int at1), .val (.int ((0 : Int32) ||| ((atv cB at1) &&& (255 : Int32)))), .val (.int (1 : Int32))] []))
  refine own_st (fun _ kS => XS.goto X3.here hx rfl (pc0 := 73) (pc' := 24) rfl (hb hby d2_73) (by decide) (by decide) kS) ?_
  show own_G p.tables e below _ (T3.setTop (mkF m 24 #[.val (.ref a1), .val (.ref a2), .val (.int at1), .val (.int ((0 : Int32) ||| ((atv cB at1) &&& (255 : Int32)))), .val (.int (1 : Int32))] []))
  refine own_st (fun _ kS => XS.iload X3.here hx rfl (hb hby d2_24) rfl kS) ?_
  show own_G p.tables e below _ (T3.setTop (mkF m 26 #[.val (.ref a1), .val (.ref a2), .val (.int at1), .val (.int ((0 : Int32) ||| ((atv cB at1) &&& (255 : Int32)))), .val (.int (1 : Int32))] [(.int (1 : Int32))]))
  refine own_st (fun _ kS => XS.aloadN X3.here hx rfl (hb hby d2_26) rfl rfl kS) ?_
  show own_G p.tables e below _ (T3.setTop (mkF m 27 #[.val (.ref a1), .val (.ref a2), .val (.int at1), .val (.int ((0 : Int32) ||| ((atv cB at1) &&& (255 : Int32)))), .val (.int (1 : Int32))] [(.ref a1), (.int (1 : Int32))]))
  obtain ⟨T5, X5, e5, st5⟩ := getF X3 hx hZ hown (host := "") (Or.inl (hw _ (List.mem_of_getElem? (i := 14) rfl))) Via.refl e3 (Fld.ext O0.2 Fw) (g := (mkF m 27 #[.val (.ref a1), .val (.ref a2), .val (.int at1), .val (.int ((0 : Int32) ||| ((atv cB at1) &&& (255 : Int32)))), .val (.int (1 : Int32))] [(.ref a1), (.int (1 : Int32))])) rfl rfl (hb hby d2_27)
  refine own_st st5 ?_
  show own_G p.tables e below _ (T5.setTop (mkF m 30 #[.val (.ref a1), .val (.ref a2), .val (.int at1), .val (.int ((0 : Int32) ||| ((atv cB at1) &&& (255 : Int32)))), .val (.int (1 : Int32))] [(.int (2 : Int32)), (.int (1 : Int32))]))
  refine own_st (fun _ kS => XS.icmpNo X5.here hx rfl (hb hby d2_30) rfl (tlt (by decide : (1 : Int32) < (2 : Int32))).2.1 kS) ?_
  show own_G p.tables e below _ (T5.setTop (mkF m 33 #[.val (.ref a1), .val (.ref a2), .val (.int at1), .val (.int ((0 : Int32) ||| ((atv cB at1) &&& (255 : Int32)))), .val (.int (1 : Int32))] []))
  refine own_st (fun _ kS => XS.iloadN X5.here hx rfl (hb hby d2_33) rfl kS) ?_
  show own_G p.tables e below _ (T5.setTop (mkF m 34 #[.val (.ref a1), .val (.ref a2), .val (.int at1), .val (.int ((0 : Int32) ||| ((atv cB at1) &&& (255 : Int32)))), .val (.int (1 : Int32))] [(.int ((0 : Int32) ||| ((atv cB at1) &&& (255 : Int32))))]))
  refine own_st (fun _ kS => XS.bipush X5.here hx rfl (hb hby d2_34) kS) ?_
  show own_G p.tables e below _ (T5.setTop (mkF m 36 #[.val (.ref a1), .val (.ref a2), .val (.int at1), .val (.int ((0 : Int32) ||| ((atv cB at1) &&& (255 : Int32)))), .val (.int (1 : Int32))] [(.int (8 : Int32)), (.int ((0 : Int32) ||| ((atv cB at1) &&& (255 : Int32))))]))
  refine own_st (fun _ kS => XT.ishl X5.here hx rfl (hb hby d2_36) rfl kS) ?_
  show own_G p.tables e below _ (T5.setTop (mkF m 37 #[.val (.ref a1), .val (.ref a2), .val (.int at1), .val (.int ((0 : Int32) ||| ((atv cB at1) &&& (255 : Int32)))), .val (.int (1 : Int32))] [(.int (((0 : Int32) ||| ((atv cB at1) &&& (255 : Int32))) <<< ((8 : Int32) &&& 31)))]))
  refine own_st (fun _ kS => XS.aloadN X5.here hx rfl (hb hby d2_37) rfl rfl kS) ?_
  show own_G p.tables e below _ (T5.setTop (mkF m 38 #[.val (.ref a1), .val (.ref a2), .val (.int at1), .val (.int ((0 : Int32) ||| ((atv cB at1) &&& (255 : Int32)))), .val (.int (1 : Int32))] [(.ref a2), (.int (((0 : Int32) ||| ((atv cB at1) &&& (255 : Int32))) <<< ((8 : Int32) &&& 31)))]))
  refine own_st (fun _ kS => XS.aloadN X5.here hx rfl (hb hby d2_38) rfl rfl kS) ?_
  show own_G p.tables e below _ (T5.setTop (mkF m 39 #[.val (.ref a1), .val (.ref a2), .val (.int at1), .val (.int ((0 : Int32) ||| ((atv cB at1) &&& (255 : Int32)))), .val (.int (1 : Int32))] [(.ref a1), (.ref a2), (.int (((0 : Int32) ||| ((atv cB at1) &&& (255 : Int32))) <<< ((8 : Int32) &&& 31)))]))
  obtain ⟨T6, X6, e6, st6⟩ := getF X5 hx hZ hown (host := "") (Or.inl (hw _ (List.mem_of_getElem? (i := 16) rfl))) Via.refl e5 (Fld.ext O0.2 Fl) (g := (mkF m 39 #[.val (.ref a1), .val (.ref a2), .val (.int at1), .val (.int ((0 : Int32) ||| ((atv cB at1) &&& (255 : Int32)))), .val (.int (1 : Int32))] [(.ref a1), (.ref a2), (.int (((0 : Int32) ||| ((atv cB at1) &&& (255 : Int32))) <<< ((8 : Int32) &&& 31)))])) rfl rfl (hb hby d2_39)
  refine own_st st6 ?_
  show own_G p.tables e below _ (T6.setTop (mkF m 42 #[.val (.ref a1), .val (.ref a2), .val (.int at1), .val (.int ((0 : Int32) ||| ((atv cB at1) &&& (255 : Int32)))), .val (.int (1 : Int32))] [(.int (0 : Int32)), (.ref a2), (.int (((0 : Int32) ||| ((atv cB at1) &&& (255 : Int32))) <<< ((8 : Int32) &&& 31)))]))
  refine own_st (fun _ kS => XS.ifYes X6.here hx rfl (pc0 := 42) (pc' := 59) rfl (hb hby d2_42) rfl ((if0 _ _).trans (teq (by decide : (0 : Int32) = (0 : Int32))).1) (by decide) (by decide) kS) ?_
  show own_G p.tables e below _ (T6.setTop (mkF m 59 #[.val (.ref a1), .val (.ref a2), .val (.int at1), .val (.int ((0 : Int32) ||| ((atv cB at1) &&& (255 : Int32)))), .val (.int (1 : Int32))] [(.ref a2), (.int (((0 : Int32) ||| ((atv cB at1) &&& (255 : Int32))) <<< ((8 : Int32) &&& 31)))]))
  refine own_st (fun _ kS => XS.iloadN X6.here hx rfl (hb hby d2_59) rfl kS) ?_
  show own_G p.tables e below _ (T6.setTop (mkF m 60 #[.val (.ref a1), .val (.ref a2), .val (.int at1), .val (.int ((0 : Int32) ||| ((atv cB at1) &&& (255 : Int32)))), .val (.int (1 : Int32))] [(.int at1), (.ref a2), (.int (((0 : Int32) ||| ((atv cB at1) &&& (255 : Int32))) <<< ((8 : Int32) &&& 31)))]))
  refine own_st (fun _ kS => XS.iload X6.here hx rfl (hb hby d2_60) rfl kS) ?_
  show own_G p.tables e below _ (T6.setTop (mkF m 62 #[.val (.ref a1), .val (.ref a2), .val (.int at1), .val (.int ((0 : Int32) ||| ((atv cB at1) &&& (255 : Int32)))), .val (.int (1 : Int32))] [(.int (1 : Int32)), (.int at1), (.ref a2), (.int (((0 : Int32) ||| ((atv cB at1) &&& (255 : Int32))) <<< ((8 : Int32) &&& 31)))]))
  refine own_st (fun _ kS => XS.iadd X6.here hx rfl (hb hby d2_62) rfl kS) ?_
  show own_G p.tables e below _ (T6.setTop (mkF m 63 #[.val (.ref a1), .val (.ref a2), .val (.int at1), .val (.int ((0 : Int32) ||| ((atv cB at1) &&& (255 : Int32)))), .val (.int (1 : Int32))] [(.int (at1 + (1 : Int32))), (.ref a2), (.int (((0 : Int32) ||| ((atv cB at1) &&& (255 : Int32))) <<< ((8 : Int32) &&& 31)))]))
  have ib7 : ¬ ((at1 + (1 : Int32)) < 0 ∨ cB.slots.size ≤ ((at1 + (1 : Int32))).toNatClampNeg) := inb_of Tb.2.1 (own_inb hbn 1 (by decide))
  refine own_st (fun _ kS => X6.baloadBytes hx (j := (at1 + (1 : Int32))) (v := (.int (atv cB (at1 + (1 : Int32))))) (by rw [e6]; exact Tb.1.1) (State.isArrayOf_alike hZ.alike Tb.1.2.1) Tb.1.2.2 ib7 (Tb.2.2.2 _ ib7) (g := (mkF m 63 #[.val (.ref a1), .val (.ref a2), .val (.int at1), .val (.int ((0 : Int32) ||| ((atv cB at1) &&& (255 : Int32)))), .val (.int (1 : Int32))] [(.int (at1 + (1 : Int32))), (.ref a2), (.int (((0 : Int32) ||| ((atv cB at1) &&& (255 : Int32))) <<< ((8 : Int32) &&& 31)))])) rfl rfl (hb hby d2_63) _ kS) ?_
  show own_G p.tables e below _ (T6.setTop (mkF m 64 #[.val (.ref a1), .val (.ref a2), .val (.int at1), .val (.int ((0 : Int32) ||| ((atv cB at1) &&& (255 : Int32)))), .val (.int (1 : Int32))] [(.int (atv cB (at1 + (1 : Int32)))), (.int (((0 : Int32) ||| ((atv cB at1) &&& (255 : Int32))) <<< ((8 : Int32) &&& 31)))]))
  refine own_st (fun _ kS => XS.sipush X6.here hx rfl (hb hby d2_64) kS) ?_
  show own_G p.tables e below _ (T6.setTop (mkF m 67 #[.val (.ref a1), .val (.ref a2), .val (.int at1), .val (.int ((0 : Int32) ||| ((atv cB at1) &&& (255 : Int32)))), .val (.int (1 : Int32))] [(.int (255 : Int32)), (.int (atv cB (at1 + (1 : Int32)))), (.int (((0 : Int32) ||| ((atv cB at1) &&& (255 : Int32))) <<< ((8 : Int32) &&& 31)))]))
  refine own_st (fun _ kS => XS.iand X6.here hx rfl (hb hby d2_67) rfl kS) ?_
  show own_G p.tables e below _ (T6.setTop (mkF m 68 #[.val (.ref a1), .val (.ref a2), .val (.int at1), .val (.int ((0 : Int32) ||| ((atv cB at1) &&& (255 : Int32)))), .val (.int (1 : Int32))] [(.int ((atv cB (at1 + (1 : Int32))) &&& (255 : Int32))), (.int (((0 : Int32) ||| ((atv cB at1) &&& (255 : Int32))) <<< ((8 : Int32) &&& 31)))]))
  refine own_st (fun _ kS => XT.ior X6.here hx rfl (hb hby d2_68) rfl kS) ?_
  show own_G p.tables e below _ (T6.setTop (mkF m 69 #[.val (.ref a1), .val (.ref a2), .val (.int at1), .val (.int ((0 : Int32) ||| ((atv cB at1) &&& (255 : Int32)))), .val (.int (1 : Int32))] [(.int ((((0 : Int32) ||| ((atv cB at1) &&& (255 : Int32))) <<< ((8 : Int32) &&& 31)) ||| ((atv cB (at1 + (1 : Int32))) &&& (255 : Int32))))]))
  refine own_st (fun _ kS => XS.istoreN X6.here hx rfl (hb hby d2_69) rfl (l' := #[.val (.ref a1), .val (.ref a2), .val (.int at1), .val (.int ((((0 : Int32) ||| ((atv cB at1) &&& (255 : Int32))) <<< ((8 : Int32) &&& 31)) ||| ((atv cB (at1 + (1 : Int32))) &&& (255 : Int32)))), .val (.int (1 : Int32))]) rfl kS) ?_
  show own_G p.tables e below _ (T6.setTop (mkF m 70 #[.val (.ref a1), .val (.ref a2), .val (.int at1), .val (.int ((((0 : Int32) ||| ((atv cB at1) &&& (255 : Int32))) <<< ((8 : Int32) &&& 31)) ||| ((atv cB (at1 + (1 : Int32))) &&& (255 : Int32)))), .val (.int (1 : Int32))] []))
  refine own_st (fun _ kS => XS.iinc X6.here hx rfl (hb hby d2_70) rfl (l' := #[.val (.ref a1), .val (.ref a2), .val (.int at1), .val (.int ((((0 : Int32) ||| ((atv cB at1) &&& (255 : Int32))) <<< ((8 : Int32) &&& 31)) ||| ((atv cB (at1 + (1 : Int32))) &&& (255 : Int32)))), .val (.int (2 : Int32))]) rfl kS) ?_
  show own_G p.tables e below _ (T6.setTop (mkF m 73 #[.val (.ref a1), .val (.ref a2), .val (.int at1), .val (.int ((((0 : Int32) ||| ((atv cB at1) &&& (255 : Int32))) <<< ((8 : Int32) &&& 31)) ||| ((atv cB (at1 + (1 : Int32))) &&& (255 : Int32)))), .val (.int (2 : Int32))] []))
  refine own_st (fun _ kS => XS.goto X6.here hx rfl (pc0 := 73) (pc' := 24) rfl (hb hby d2_73) (by decide) (by decide) kS) ?_
  show own_G p.tables e below _ (T6.setTop (mkF m 24 #[.val (.ref a1), .val (.ref a2), .val (.int at1), .val (.int ((((0 : Int32) ||| ((atv cB at1) &&& (255 : Int32))) <<< ((8 : Int32) &&& 31)) ||| ((atv cB (at1 + (1 : Int32))) &&& (255 : Int32)))), .val (.int (2 : Int32))] []))
  refine own_st (fun _ kS => XS.iload X6.here hx rfl (hb hby d2_24) rfl kS) ?_
  show own_G p.tables e below _ (T6.setTop (mkF m 26 #[.val (.ref a1), .val (.ref a2), .val (.int at1), .val (.int ((((0 : Int32) ||| ((atv cB at1) &&& (255 : Int32))) <<< ((8 : Int32) &&& 31)) ||| ((atv cB (at1 + (1 : Int32))) &&& (255 : Int32)))), .val (.int (2 : Int32))] [(.int (2 : Int32))]))
  refine own_st (fun _ kS => XS.aloadN X6.here hx rfl (hb hby d2_26) rfl rfl kS) ?_
  show own_G p.tables e below _ (T6.setTop (mkF m 27 #[.val (.ref a1), .val (.ref a2), .val (.int at1), .val (.int ((((0 : Int32) ||| ((atv cB at1) &&& (255 : Int32))) <<< ((8 : Int32) &&& 31)) ||| ((atv cB (at1 + (1 : Int32))) &&& (255 : Int32)))), .val (.int (2 : Int32))] [(.ref a1), (.int (2 : Int32))]))
  obtain ⟨T8, X8, e8, st8⟩ := getF X6 hx hZ hown (host := "") (Or.inl (hw _ (List.mem_of_getElem? (i := 14) rfl))) Via.refl e6 (Fld.ext O0.2 Fw) (g := (mkF m 27 #[.val (.ref a1), .val (.ref a2), .val (.int at1), .val (.int ((((0 : Int32) ||| ((atv cB at1) &&& (255 : Int32))) <<< ((8 : Int32) &&& 31)) ||| ((atv cB (at1 + (1 : Int32))) &&& (255 : Int32)))), .val (.int (2 : Int32))] [(.ref a1), (.int (2 : Int32))])) rfl rfl (hb hby d2_27)
  refine own_st st8 ?_
  show own_G p.tables e below _ (T8.setTop (mkF m 30 #[.val (.ref a1), .val (.ref a2), .val (.int at1), .val (.int ((((0 : Int32) ||| ((atv cB at1) &&& (255 : Int32))) <<< ((8 : Int32) &&& 31)) ||| ((atv cB (at1 + (1 : Int32))) &&& (255 : Int32)))), .val (.int (2 : Int32))] [(.int (2 : Int32)), (.int (2 : Int32))]))
  refine own_st (fun _ kS => XS.icmpYes X8.here hx rfl (pc0 := 30) (pc' := 76) rfl (hb hby d2_30) rfl (flt (by decide : ¬ ((2 : Int32) < (2 : Int32)))).2.1 (by decide) (by decide) kS) ?_
  show own_G p.tables e below _ (T8.setTop (mkF m 76 #[.val (.ref a1), .val (.ref a2), .val (.int at1), .val (.int ((((0 : Int32) ||| ((atv cB at1) &&& (255 : Int32))) <<< ((8 : Int32) &&& 31)) ||| ((atv cB (at1 + (1 : Int32))) &&& (255 : Int32)))), .val (.int (2 : Int32))] []))
  refine own_st (fun _ kS => XS.iloadN X8.here hx rfl (hb hby d2_76) rfl kS) ?_
  show own_G p.tables e below _ (T8.setTop (mkF m 77 #[.val (.ref a1), .val (.ref a2), .val (.int at1), .val (.int ((((0 : Int32) ||| ((atv cB at1) &&& (255 : Int32))) <<< ((8 : Int32) &&& 31)) ||| ((atv cB (at1 + (1 : Int32))) &&& (255 : Int32)))), .val (.int (2 : Int32))] [(.int ((((0 : Int32) ||| ((atv cB at1) &&& (255 : Int32))) <<< ((8 : Int32) &&& 31)) ||| ((atv cB (at1 + (1 : Int32))) &&& (255 : Int32))))]))
  exact own_retI X8 hx hlk hret (hb hby d2_77) (by decide) (by decide) (by rw [e8]; exact ⟨rfl, N0, rfl⟩)
theorem ef_unitAt_2_1 (m : MethodId) (x0 : Addr) (x1 : Addr) (x2 : Int32) : entryFrame m #[(.ref x0), (.ref x1), (.int x2)] 5 = mkF m 0 #[.val (.ref x0), .val (.ref x1), .val (.int x2), .unset, .unset] [] := by first | (simp [entryFrame, mkF, argsToLocals, Value.category]; done) | rfl
def Q_unitAt_2_1 (Z : State) (a1 : Addr) (a2 : Addr) (cB : Cell) (at1 : Int32) (h0 : Heap) (n0 : Nat) (v : Option Value) (h : Heap) (L : List Loc) : Prop := v = some (.int ((((0 : Int32) ||| ((atv cB (at1 + (1 : Int32))) &&& (255 : Int32))) <<< ((8 : Int32) &&& 31)) ||| ((atv cB at1) &&& (255 : Int32)))) ∧ Fr n0 L ∧ h = h0
set_option maxRecDepth 65536 in
set_option maxHeartbeats 40000000 in
theorem rm_unitAt_2_1 (l : Launch) (Z : State) (a0 : Array Value) (hw : ∀ d ∈ tables_1, d.before a0 Z = true) (ws : List Jvm.Cond) (a1 : Addr) (a2 : Addr) (cB : Cell) (at1 : Int32) (h0 : Heap) (n0 : Nat) (Z0 : n0 ≤ h0.size) (O0 : Old Z n0 h0) (Fw : Fld Z Z.heap a1 "com/example/provenir/provenir/TextEncoding" "width" "I" (.int (2 : Int32))) (Fl : Fld Z Z.heap a1 "com/example/provenir/provenir/TextEncoding" "littleEndian" "Z" (.int (1 : Int32))) (Tb : Tab Z h0 a2 cB .byte (8 : Int32)) (hbn : 0 ≤ at1.toInt ∧ at1.toInt < 7) :
    MetFree l (⟨"com/example/provenir/provenir/TextEncoding", "unitAt", "([BI)I"⟩ : MethodName) (head1 (Jvm.Cond.code (⟨"com/example/provenir/provenir/TextEncoding", "unitAt", "([BI)I"⟩ : MethodName) prog_73_method_8_code 5 (some .int) :: ws) ({ frames := 0, cells := 0, slots := 0, locals := 0 } : Room)) (fun a U => a = #[(.ref a1), (.ref a2), (.int at1)] ∧ Z.Warmed39 U.vm ∧ U.heap = h0) (fun _ _ _ _ _ => True) (fun _ U o U' => ∃ v L, o = .returned v ∧ Q_unitAt_2_1 Z a1 a2 cB at1 h0 n0 v U'.heap L ∧ FrameEnd U o U' L ({ frames := 0, cells := 0, slots := 0, locals := 0 } : Room).cells ({ frames := 0, cells := 0, slots := 0, locals := 0 } : Room).slots) := by
  refine MetFree.of_bodySF (plainFor_of_name pn_2) hisR ?_
  intro p e s m args below meth c s₁ Bd hml0 hP hK
  obtain ⟨rfl, hZ, hh⟩ := hP
  have hx := Bd.exec
  have hby := Bd.bytes
  have hml : c.maxLocals = 5 := hml0
  have hown : s.vm.findClass "com/example/provenir/provenir/TextEncoding" = some m.cls := findClass_of_methodNamed Bd.named
  have hnm := (name_of_methodNamed Bd.named Bd.method).1
  have hlk := Bd.notSynchronized
  have hret := Bd.returns
  have X0 : Stand p l e ({ frames := 0, cells := 0, slots := 0, locals := 0 } : Room) s m #[(.ref a1), (.ref a2), (.int at1)] below meth c s₁ [] 0 0 := Stand.of_body Bd
  have e0 : s₁.heap = h0 := by rw [← hh, Bd.state]; rfl
  have N0 := Fr.nil n0
  refine own_in ({ frames := 0, cells := 0, slots := 0, locals := 0 } : Room).cells ({ frames := 0, cells := 0, slots := 0, locals := 0 } : Room).slots (Q_unitAt_2_1 Z a1 a2 cB at1 h0 n0) (ef_unitAt_2_1 m a1 a2 at1) ?_
  show own_G p.tables e below _ (s₁.setTop (mkF m 0 #[.val (.ref a1), .val (.ref a2), .val (.int at1), .unset, .unset] []))
  refine own_st (fun _ kS => XS.aloadN X0.here hx rfl (hb hby d2_0) rfl rfl kS) ?_
  show own_G p.tables e below _ (s₁.setTop (mkF m 1 #[.val (.ref a1), .val (.ref a2), .val (.int at1), .unset, .unset] [(.ref a1)]))
  obtain ⟨T1, X1, e1, st1⟩ := getF X0 hx hZ hown (host := "") (Or.inl (hw _ (List.mem_of_getElem? (i := 14) rfl))) Via.refl e0 (Fld.ext O0.2 Fw) (g := (mkF m 1 #[.val (.ref a1), .val (.ref a2), .val (.int at1), .unset, .unset] [(.ref a1)])) rfl rfl (hb hby d2_1)
  refine own_st st1 ?_
  show own_G p.tables e below _ (T1.setTop (mkF m 4 #[.val (.ref a1), .val (.ref a2), .val (.int at1), .unset, .unset] [(.int (2 : Int32))]))
  refine own_st (fun _ kS => XS.iconst X1.here hx rfl (hb hby d2_4) kS) ?_
  show own_G p.tables e below _ (T1.setTop (mkF m 5 #[.val (.ref a1), .val (.ref a2), .val (.int at1), .unset, .unset] [(.int (1 : Int32)), (.int (2 : Int32))]))
  refine own_st (fun _ kS => XS.icmpYes X1.here hx rfl (pc0 := 5) (pc' := 19) rfl (hb hby d2_5) rfl (feq (by decide : ¬ ((2 : Int32) = (1 : Int32)))).2 (by decide) (by decide) kS) ?_
  show own_G p.tables e below _ (T1.setTop (mkF m 19 #[.val (.ref a1), .val (.ref a2), .val (.int at1), .unset, .unset] []))
  refine own_st (fun _ kS => XS.iconst X1.here hx rfl (hb hby d2_19) kS) ?_
  show own_G p.tables e below _ (T1.setTop (mkF m 20 #[.val (.ref a1), .val (.ref a2), .val (.int at1), .unset, .unset] [(.int (0 : Int32))]))
  refine own_st (fun _ kS => XS.istoreN X1.here hx rfl (hb hby d2_20) rfl (l' := #[.val (.ref a1), .val (.ref a2), .val (.int at1), .val (.int (0 : Int32)), .unset]) rfl kS) ?_
  show own_G p.tables e below _ (T1.setTop (mkF m 21 #[.val (.ref a1), .val (.ref a2), .val (.int at1), .val (.int (0 : Int32)), .unset] []))
  refine own_st (fun _ kS => XS.iconst X1.here hx rfl (hb hby d2_21) kS) ?_
  show own_G p.tables e below _ (T1.setTop (mkF m 22 #[.val (.ref a1), .val (.ref a2), .val (.int at1), .val (.int (0 : Int32)), .unset] [(.int (0 : Int32))]))
  refine own_st (fun _ kS => XS.istore X1.here hx rfl (hb hby d2_22) rfl (l' := #[.val (.ref a1), .val (.ref a2), .val (.int at1), .val (.int (0 : Int32)), .val (.int (0 : Int32))]) rfl kS) ?_
  show own_G p.tables e below _ (T1.setTop (mkF m 24 #[.val (.ref a1), .val (.ref a2), .val (.int at1), .val (.int (0 : Int32)), .val (.int (0 : Int32))] []))
  refine own_st (fun _ kS => XS.iload X1.here hx rfl (hb hby d2_24) rfl kS) ?_
  show own_G p.tables e below _ (T1.setTop (mkF m 26 #[.val (.ref a1), .val (.ref a2), .val (.int at1), .val (.int (0 : Int32)), .val (.int (0 : Int32))] [(.int (0 : Int32))]))
  refine own_st (fun _ kS => XS.aloadN X1.here hx rfl (hb hby d2_26) rfl rfl kS) ?_
  show own_G p.tables e below _ (T1.setTop (mkF m 27 #[.val (.ref a1), .val (.ref a2), .val (.int at1), .val (.int (0 : Int32)), .val (.int (0 : Int32))] [(.ref a1), (.int (0 : Int32))]))
  obtain ⟨T2, X2, e2, st2⟩ := getF X1 hx hZ hown (host := "") (Or.inl (hw _ (List.mem_of_getElem? (i := 14) rfl))) Via.refl e1 (Fld.ext O0.2 Fw) (g := (mkF m 27 #[.val (.ref a1), .val (.ref a2), .val (.int at1), .val (.int (0 : Int32)), .val (.int (0 : Int32))] [(.ref a1), (.int (0 : Int32))])) rfl rfl (hb hby d2_27)
  refine own_st st2 ?_
  show own_G p.tables e below _ (T2.setTop (mkF m 30 #[.val (.ref a1), .val (.ref a2), .val (.int at1), .val (.int (0 : Int32)), .val (.int (0 : Int32))] [(.int (2 : Int32)), (.int (0 : Int32))]))
  refine own_st (fun _ kS => XS.icmpNo X2.here hx rfl (hb hby d2_30) rfl (tlt (by decide : (0 : Int32) < (2 : Int32))).2.1 kS) ?_
  show own_G p.tables e below _ (T2.setTop (mkF m 33 #[.val (.ref a1), .val (.ref a2), .val (.int at1), .val (.int (0 : Int32)), .val (.int (0 : Int32))] []))
  refine own_st (fun _ kS => XS.iloadN X2.here hx rfl (hb hby d2_33) rfl kS) ?_
  show own_G p.tables e below _ (T2.setTop (mkF m 34 #[.val (.ref a1), .val (.ref a2), .val (.int at1), .val (.int (0 : Int32)), .val (.int (0 : Int32))] [(.int (0 : Int32))]))
  refine own_st (fun _ kS => XS.bipush X2.here hx rfl (hb hby d2_34) kS) ?_
  show own_G p.tables e below _ (T2.setTop (mkF m 36 #[.val (.ref a1), .val (.ref a2), .val (.int at1), .val (.int (0 : Int32)), .val (.int (0 : Int32))] [(.int (8 : Int32)), (.int (0 : Int32))]))
  refine own_st (fun _ kS => XT.ishl X2.here hx rfl (hb hby d2_36) rfl kS) ?_
  show own_G p.tables e below _ (T2.setTop (mkF m 37 #[.val (.ref a1), .val (.ref a2), .val (.int at1), .val (.int (0 : Int32)), .val (.int (0 : Int32))] [(.int (0 : Int32))]))
  refine own_st (fun _ kS => XS.aloadN X2.here hx rfl (hb hby d2_37) rfl rfl kS) ?_
  show own_G p.tables e below _ (T2.setTop (mkF m 38 #[.val (.ref a1), .val (.ref a2), .val (.int at1), .val (.int (0 : Int32)), .val (.int (0 : Int32))] [(.ref a2), (.int (0 : Int32))]))
  refine own_st (fun _ kS => XS.aloadN X2.here hx rfl (hb hby d2_38) rfl rfl kS) ?_
  show own_G p.tables e below _ (T2.setTop (mkF m 39 #[.val (.ref a1), .val (.ref a2), .val (.int at1), .val (.int (0 : Int32)), .val (.int (0 : Int32))] [(.ref a1), (.ref a2), (.int (0 : Int32))]))
  obtain ⟨T3, X3, e3, st3⟩ := getF X2 hx hZ hown (host := "") (Or.inl (hw _ (List.mem_of_getElem? (i := 16) rfl))) Via.refl e2 (Fld.ext O0.2 Fl) (g := (mkF m 39 #[.val (.ref a1), .val (.ref a2), .val (.int at1), .val (.int (0 : Int32)), .val (.int (0 : Int32))] [(.ref a1), (.ref a2), (.int (0 : Int32))])) rfl rfl (hb hby d2_39)
  refine own_st st3 ?_
  show own_G p.tables e below _ (T3.setTop (mkF m 42 #[.val (.ref a1), .val (.ref a2), .val (.int at1), .val (.int (0 : Int32)), .val (.int (0 : Int32))] [(.int (1 : Int32)), (.ref a2), (.int (0 : Int32))]))
  refine own_st (fun _ kS => XS.ifNo X3.here hx rfl (hb hby d2_42) rfl ((if0 _ _).trans (feq (by decide : ¬ ((1 : Int32) = (0 : Int32)))).1) kS) ?_
  show own_G p.tables e below _ (T3.setTop (mkF m 45 #[.val (.ref a1), .val (.ref a2), .val (.int at1), .val (.int (0 : Int32)), .val (.int (0 : Int32))] [(.ref a2), (.int (0 : Int32))]))
  refine own_st (fun _ kS => XS.iloadN X3.here hx rfl (hb hby d2_45) rfl kS) ?_
  show own_G p.tables e below _ (T3.setTop (mkF m 46 #[.val (.ref a1), .val (.ref a2), .val (.int at1), .val (.int (0 : Int32)), .val (.int (0 : Int32))] [(.int at1), (.ref a2), (.int (0 : Int32))]))
  refine own_st (fun _ kS => XS.aloadN X3.here hx rfl (hb hby d2_46) rfl rfl kS) ?_
  show own_G p.tables e below _ (T3.setTop (mkF m 47 #[.val (.ref a1), .val (.ref a2), .val (.int at1), .val (.int (0 : Int32)), .val (.int (0 : Int32))] [(.ref a1), (.int at1), (.ref a2), (.int (0 : Int32))]))
  obtain ⟨T4, X4, e4, st4⟩ := getF X3 hx hZ hown (host := "") (Or.inl (hw _ (List.mem_of_getElem? (i := 14) rfl))) Via.refl e3 (Fld.ext O0.2 Fw) (g := (mkF m 47 #[.val (.ref a1), .val (.ref a2), .val (.int at1), .val (.int (0 : Int32)), .val (.int (0 : Int32))] [(.ref a1), (.int at1), (.ref a2), (.int (0 : Int32))])) rfl rfl (hb hby d2_47)
  refine own_st st4 ?_
  show own_G p.tables e below _ (T4.setTop (mkF m 50 #[.val (.ref a1), .val (.ref a2), .val (.int at1), .val (.int (0 : Int32)), .val (.int (0 : Int32))] [(.int (2 : Int32)), (.int at1), (.ref a2), (.int (0 : Int32))]))
  refine own_st (fun _ kS => XS.iadd X4.here hx rfl (hb hby d2_50) rfl kS) ?_
  show own_G p.tables e below _ (T4.setTop (mkF m 51 #[.val (.ref a1), .val (.ref a2), .val (.int at1), .val (.int (0 : Int32)), .val (.int (0 : Int32))] [(.int (at1 + (2 : Int32))), (.ref a2), (.int (0 : Int32))]))
  refine own_st (fun _ kS => XS.iconst X4.here hx rfl (hb hby d2_51) kS) ?_
  show own_G p.tables e below _ (T4.setTop (mkF m 52 #[.val (.ref a1), .val (.ref a2), .val (.int at1), .val (.int (0 : Int32)), .val (.int (0 : Int32))] [(.int (1 : Int32)), (.int (at1 + (2 : Int32))), (.ref a2), (.int (0 : Int32))]))
  refine own_st (fun _ kS => XS.isub X4.here hx rfl (hb hby d2_52) rfl kS) ?_
  show own_G p.tables e below _ (T4.setTop (mkF m 53 #[.val (.ref a1), .val (.ref a2), .val (.int at1), .val (.int (0 : Int32)), .val (.int (0 : Int32))] [(.int ((at1 + (2 : Int32)) - (1 : Int32))), (.ref a2), (.int (0 : Int32))]))
  refine own_st (fun _ kS => XS.iload X4.here hx rfl (hb hby d2_53) rfl kS) ?_
  show own_G p.tables e below _ (T4.setTop (mkF m 55 #[.val (.ref a1), .val (.ref a2), .val (.int at1), .val (.int (0 : Int32)), .val (.int (0 : Int32))] [(.int (0 : Int32)), (.int ((at1 + (2 : Int32)) - (1 : Int32))), (.ref a2), (.int (0 : Int32))]))
  refine own_st (fun _ kS => XS.isub X4.here hx rfl (hb hby d2_55) rfl kS) ?_
  show own_G p.tables e below _ (T4.setTop (mkF m 56 #[.val (.ref a1), .val (.ref a2), .val (.int at1), .val (.int (0 : Int32)), .val (.int (0 : Int32))] [(.int (((at1 + (2 : Int32)) - (1 : Int32)) - (0 : Int32))), (.ref a2), (.int (0 : Int32))]))
  refine own_st (fun _ kS => XS.goto X4.here hx rfl (pc0 := 56) (pc' := 63) rfl (hb hby d2_56) (by decide) (by decide) kS) ?_
  show own_G p.tables e below _ (T4.setTop (mkF m 63 #[.val (.ref a1), .val (.ref a2), .val (.int at1), .val (.int (0 : Int32)), .val (.int (0 : Int32))] [(.int (((at1 + (2 : Int32)) - (1 : Int32)) - (0 : Int32))), (.ref a2), (.int (0 : Int32))]))
  rw [own_ixL at1 2 0 1 (by decide) (by decide) (by decide)]
  show own_G p.tables e below _ (T4.setTop (mkF m 63 #[.val (.ref a1), .val (.ref a2), .val (.int at1), .val (.int (0 : Int32)), .val (.int (0 : Int32))] [(.int (at1 + (1 : Int32))), (.ref a2), (.int (0 : Int32))]))
  have ib5 : ¬ ((at1 + (1 : Int32)) < 0 ∨ cB.slots.size ≤ ((at1 + (1 : Int32))).toNatClampNeg) := inb_of Tb.2.1 (own_inb hbn 1 (by decide))
  refine own_st (fun _ kS => X4.baloadBytes hx (j := (at1 + (1 : Int32))) (v := (.int (atv cB (at1 + (1 : Int32))))) (by rw [e4]; exact Tb.1.1) (State.isArrayOf_alike hZ.alike Tb.1.2.1) Tb.1.2.2 ib5 (Tb.2.2.2 _ ib5) (g := (mkF m 63 #[.val (.ref a1), .val (.ref a2), .val (.int at1), .val (.int (0 : Int32)), .val (.int (0 : Int32))] [(.int (at1 + (1 : Int32))), (.ref a2), (.int (0 : Int32))])) rfl rfl (hb hby d2_63) _ kS) ?_
  show own_G p.tables e below _ (T4.setTop (mkF m 64 #[.val (.ref a1), .val (.ref a2), .val (.int at1), .val (.int (0 : Int32)), .val (.int (0 : Int32))] [(.int (atv cB (at1 + (1 : Int32)))), (.int (0 : Int32))]))
  refine own_st (fun _ kS => XS.sipush X4.here hx rfl (hb hby d2_64) kS) ?_
  show own_G p.tables e below _ (T4.setTop (mkF m 67 #[.val (.ref a1), .val (.ref a2), .val (.int at1), .val (.int (0 : Int32)), .val (.int (0 : Int32))] [(.int (255 : Int32)), (.int (atv cB (at1 + (1 : Int32)))), (.int (0 : Int32))]))
  refine own_st (fun _ kS => XS.iand X4.here hx rfl (hb hby d2_67) rfl kS) ?_
  show own_G p.tables e below _ (T4.setTop (mkF m 68 #[.val (.ref a1), .val (.ref a2), .val (.int at1), .val (.int (0 : Int32)), .val (.int (0 : Int32))] [(.int ((atv cB (at1 + (1 : Int32))) &&& (255 : Int32))), (.int (0 : Int32))]))
  refine own_st (fun _ kS => XT.ior X4.here hx rfl (hb hby d2_68) rfl kS) ?_
  show own_G p.tables e below _ (T4.setTop (mkF m 69 #[.val (.ref a1), .val (.ref a2), .val (.int at1), .val (.int (0 : Int32)), .val (.int (0 : Int32))] [(.int ((0 : Int32) ||| ((atv cB (at1 + (1 : Int32))) &&& (255 : Int32))))]))
  refine own_st (fun _ kS => XS.istoreN X4.here hx rfl (hb hby d2_69) rfl (l' := #[.val (.ref a1), .val (.ref a2), .val (.int at1), .val (.int ((0 : Int32) ||| ((atv cB (at1 + (1 : Int32))) &&& (255 : Int32)))), .val (.int (0 : Int32))]) rfl kS) ?_
  show own_G p.tables e below _ (T4.setTop (mkF m 70 #[.val (.ref a1), .val (.ref a2), .val (.int at1), .val (.int ((0 : Int32) ||| ((atv cB (at1 + (1 : Int32))) &&& (255 : Int32)))), .val (.int (0 : Int32))] []))
  refine own_st (fun _ kS => XS.iinc X4.here hx rfl (hb hby d2_70) rfl (l' := #[.val (.ref a1), .val (.ref a2), .val (.int at1), .val (.int ((0 : Int32) ||| ((atv cB (at1 + (1 : Int32))) &&& (255 : Int32)))), .val (.int (1 : Int32))]) rfl kS) ?_
  show own_G p.tables e below _ (T4.setTop (mkF m 73 #[.val (.ref a1), .val (.ref a2), .val (.int at1), .val (.int ((0 : Int32) ||| ((atv cB (at1 + (1 : Int32))) &&& (255 : Int32)))), .val (.int (1 : Int32))] []))
  refine own_st (fun _ kS => XS.goto X4.here hx rfl (pc0 := 73) (pc' := 24) rfl (hb hby d2_73) (by decide) (by decide) kS) ?_
  show own_G p.tables e below _ (T4.setTop (mkF m 24 #[.val (.ref a1), .val (.ref a2), .val (.int at1), .val (.int ((0 : Int32) ||| ((atv cB (at1 + (1 : Int32))) &&& (255 : Int32)))), .val (.int (1 : Int32))] []))
  refine own_st (fun _ kS => XS.iload X4.here hx rfl (hb hby d2_24) rfl kS) ?_
  show own_G p.tables e below _ (T4.setTop (mkF m 26 #[.val (.ref a1), .val (.ref a2), .val (.int at1), .val (.int ((0 : Int32) ||| ((atv cB (at1 + (1 : Int32))) &&& (255 : Int32)))), .val (.int (1 : Int32))] [(.int (1 : Int32))]))
  refine own_st (fun _ kS => XS.aloadN X4.here hx rfl (hb hby d2_26) rfl rfl kS) ?_
  show own_G p.tables e below _ (T4.setTop (mkF m 27 #[.val (.ref a1), .val (.ref a2), .val (.int at1), .val (.int ((0 : Int32) ||| ((atv cB (at1 + (1 : Int32))) &&& (255 : Int32)))), .val (.int (1 : Int32))] [(.ref a1), (.int (1 : Int32))]))
  obtain ⟨T6, X6, e6, st6⟩ := getF X4 hx hZ hown (host := "") (Or.inl (hw _ (List.mem_of_getElem? (i := 14) rfl))) Via.refl e4 (Fld.ext O0.2 Fw) (g := (mkF m 27 #[.val (.ref a1), .val (.ref a2), .val (.int at1), .val (.int ((0 : Int32) ||| ((atv cB (at1 + (1 : Int32))) &&& (255 : Int32)))), .val (.int (1 : Int32))] [(.ref a1), (.int (1 : Int32))])) rfl rfl (hb hby d2_27)
  refine own_st st6 ?_
  show own_G p.tables e below _ (T6.setTop (mkF m 30 #[.val (.ref a1), .val (.ref a2), .val (.int at1), .val (.int ((0 : Int32) ||| ((atv cB (at1 + (1 : Int32))) &&& (255 : Int32)))), .val (.int (1 : Int32))] [(.int (2 : Int32)), (.int (1 : Int32))]))
  refine own_st (fun _ kS => XS.icmpNo X6.here hx rfl (hb hby d2_30) rfl (tlt (by decide : (1 : Int32) < (2 : Int32))).2.1 kS) ?_
  show own_G p.tables e below _ (T6.setTop (mkF m 33 #[.val (.ref a1), .val (.ref a2), .val (.int at1), .val (.int ((0 : Int32) ||| ((atv cB (at1 + (1 : Int32))) &&& (255 : Int32)))), .val (.int (1 : Int32))] []))
  refine own_st (fun _ kS => XS.iloadN X6.here hx rfl (hb hby d2_33) rfl kS) ?_
  show own_G p.tables e below _ (T6.setTop (mkF m 34 #[.val (.ref a1), .val (.ref a2), .val (.int at1), .val (.int ((0 : Int32) ||| ((atv cB (at1 + (1 : Int32))) &&& (255 : Int32)))), .val (.int (1 : Int32))] [(.int ((0 : Int32) ||| ((atv cB (at1 + (1 : Int32))) &&& (255 : Int32))))]))
  refine own_st (fun _ kS => XS.bipush X6.here hx rfl (hb hby d2_34) kS) ?_
  show own_G p.tables e below _ (T6.setTop (mkF m 36 #[.val (.ref a1), .val (.ref a2), .val (.int at1), .val (.int ((0 : Int32) ||| ((atv cB (at1 + (1 : Int32))) &&& (255 : Int32)))), .val (.int (1 : Int32))] [(.int (8 : Int32)), (.int ((0 : Int32) ||| ((atv cB (at1 + (1 : Int32))) &&& (255 : Int32))))]))
  refine own_st (fun _ kS => XT.ishl X6.here hx rfl (hb hby d2_36) rfl kS) ?_
  show own_G p.tables e below _ (T6.setTop (mkF m 37 #[.val (.ref a1), .val (.ref a2), .val (.int at1), .val (.int ((0 : Int32) ||| ((atv cB (at1 + (1 : Int32))) &&& (255 : Int32)))), .val (.int (1 : Int32))] [(.int (((0 : Int32) ||| ((atv cB (at1 + (1 : Int32))) &&& (255 : Int32))) <<< ((8 : Int32) &&& 31)))]))
  refine own_st (fun _ kS => XS.aloadN X6.here hx rfl (hb hby d2_37) rfl rfl kS) ?_
  show own_G p.tables e below _ (T6.setTop (mkF m 38 #[.val (.ref a1), .val (.ref a2), .val (.int at1), .val (.int ((0 : Int32) ||| ((atv cB (at1 + (1 : Int32))) &&& (255 : Int32)))), .val (.int (1 : Int32))] [(.ref a2), (.int (((0 : Int32) ||| ((atv cB (at1 + (1 : Int32))) &&& (255 : Int32))) <<< ((8 : Int32) &&& 31)))]))
  refine own_st (fun _ kS => XS.aloadN X6.here hx rfl (hb hby d2_38) rfl rfl kS) ?_
  show own_G p.tables e below _ (T6.setTop (mkF m 39 #[.val (.ref a1), .val (.ref a2), .val (.int at1), .val (.int ((0 : Int32) ||| ((atv cB (at1 + (1 : Int32))) &&& (255 : Int32)))), .val (.int (1 : Int32))] [(.ref a1), (.ref a2), (.int (((0 : Int32) ||| ((atv cB (at1 + (1 : Int32))) &&& (255 : Int32))) <<< ((8 : Int32) &&& 31)))]))
  obtain ⟨T7, X7, e7, st7⟩ := getF X6 hx hZ hown (host := "") (Or.inl (hw _ (List.mem_of_getElem? (i := 16) rfl))) Via.refl e6 (Fld.ext O0.2 Fl) (g := (mkF m 39 #[.val (.ref a1), .val (.ref a2), .val (.int at1), .val (.int ((0 : Int32) ||| ((atv cB (at1 + (1 : Int32))) &&& (255 : Int32)))), .val (.int (1 : Int32))] [(.ref a1), (.ref a2), (.int (((0 : Int32) ||| ((atv cB (at1 + (1 : Int32))) &&& (255 : Int32))) <<< ((8 : Int32) &&& 31)))])) rfl rfl (hb hby d2_39)
  refine own_st st7 ?_
  show own_G p.tables e below _ (T7.setTop (mkF m 42 #[.val (.ref a1), .val (.ref a2), .val (.int at1), .val (.int ((0 : Int32) ||| ((atv cB (at1 + (1 : Int32))) &&& (255 : Int32)))), .val (.int (1 : Int32))] [(.int (1 : Int32)), (.ref a2), (.int (((0 : Int32) ||| ((atv cB (at1 + (1 : Int32))) &&& (255 : Int32))) <<< ((8 : Int32) &&& 31)))]))
  refine own_st (fun _ kS => XS.ifNo X7.here hx rfl (hb hby d2_42) rfl ((if0 _ _).trans (feq (by decide : ¬ ((1 : Int32) = (0 : Int32)))).1) kS) ?_
  show own_G p.tables e below _ (T7.setTop (mkF m 45 #[.val (.ref a1), .val (.ref a2), .val (.int at1), .val (.int ((0 : Int32) ||| ((atv cB (at1 + (1 : Int32))) &&& (255 : Int32)))), .val (.int (1 : Int32))] [(.ref a2), (.int (((0 : Int32) ||| ((atv cB (at1 + (1 : Int32))) &&& (255 : Int32))) <<< ((8 : Int32) &&& 31)))]))
  refine own_st (fun _ kS => XS.iloadN X7.here hx rfl (hb hby d2_45) rfl kS) ?_
  show own_G p.tables e below _ (T7.setTop (mkF m 46 #[.val (.ref a1), .val (.ref a2), .val (.int at1), .val (.int ((0 : Int32) ||| ((atv cB (at1 + (1 : Int32))) &&& (255 : Int32)))), .val (.int (1 : Int32))] [(.int at1), (.ref a2), (.int (((0 : Int32) ||| ((atv cB (at1 + (1 : Int32))) &&& (255 : Int32))) <<< ((8 : Int32) &&& 31)))]))
  refine own_st (fun _ kS => XS.aloadN X7.here hx rfl (hb hby d2_46) rfl rfl kS) ?_
  show own_G p.tables e below _ (T7.setTop (mkF m 47 #[.val (.ref a1), .val (.ref a2), .val (.int at1), .val (.int ((0 : Int32) ||| ((atv cB (at1 + (1 : Int32))) &&& (255 : Int32)))), .val (.int (1 : Int32))] [(.ref a1), (.int at1), (.ref a2), (.int (((0 : Int32) ||| ((atv cB (at1 + (1 : Int32))) &&& (255 : Int32))) <<< ((8 : Int32) &&& 31)))]))
  obtain ⟨T8, X8, e8, st8⟩ := getF X7 hx hZ hown (host := "") (Or.inl (hw _ (List.mem_of_getElem? (i := 14) rfl))) Via.refl e7 (Fld.ext O0.2 Fw) (g := (mkF m 47 #[.val (.ref a1), .val (.ref a2), .val (.int at1), .val (.int ((0 : Int32) ||| ((atv cB (at1 + (1 : Int32))) &&& (255 : Int32)))), .val (.int (1 : Int32))] [(.ref a1), (.int at1), (.ref a2), (.int (((0 : Int32) ||| ((atv cB (at1 + (1 : Int32))) &&& (255 : Int32))) <<< ((8 : Int32) &&& 31)))])) rfl rfl (hb hby d2_47)
  refine own_st st8 ?_
  show own_G p.tables e below _ (T8.setTop (mkF m 50 #[.val (.ref a1), .val (.ref a2), .val (.int at1), .val (.int ((0 : Int32) ||| ((atv cB (at1 + (1 : Int32))) &&& (255 : Int32)))), .val (.int (1 : Int32))] [(.int (2 : Int32)), (.int at1), (.ref a2), (.int (((0 : Int32) ||| ((atv cB (at1 + (1 : Int32))) &&& (255 : Int32))) <<< ((8 : Int32) &&& 31)))]))
  refine own_st (fun _ kS => XS.iadd X8.here hx rfl (hb hby d2_50) rfl kS) ?_
  show own_G p.tables e below _ (T8.setTop (mkF m 51 #[.val (.ref a1), .val (.ref a2), .val (.int at1), .val (.int ((0 : Int32) ||| ((atv cB (at1 + (1 : Int32))) &&& (255 : Int32)))), .val (.int (1 : Int32))] [(.int (at1 + (2 : Int32))), (.ref a2), (.int (((0 : Int32) ||| ((atv cB (at1 + (1 : Int32))) &&& (255 : Int32))) <<< ((8 : Int32) &&& 31)))]))
  refine own_st (fun _ kS => XS.iconst X8.here hx rfl (hb hby d2_51) kS) ?_
  show own_G p.tables e below _ (T8.setTop (mkF m 52 #[.val (.ref a1), .val (.ref a2), .val (.int at1), .val (.int ((0 : Int32) ||| ((atv cB (at1 + (1 : Int32))) &&& (255 : Int32)))), .val (.int (1 : Int32))] [(.int (1 : Int32)), (.int (at1 + (2 : Int32))), (.ref a2), (.int (((0 : Int32) ||| ((atv cB (at1 + (1 : Int32))) &&& (255 : Int32))) <<< ((8 : Int32) &&& 31)))]))
  refine own_st (fun _ kS => XS.isub X8.here hx rfl (hb hby d2_52) rfl kS) ?_
  show own_G p.tables e below _ (T8.setTop (mkF m 53 #[.val (.ref a1), .val (.ref a2), .val (.int at1), .val (.int ((0 : Int32) ||| ((atv cB (at1 + (1 : Int32))) &&& (255 : Int32)))), .val (.int (1 : Int32))] [(.int ((at1 + (2 : Int32)) - (1 : Int32))), (.ref a2), (.int (((0 : Int32) ||| ((atv cB (at1 + (1 : Int32))) &&& (255 : Int32))) <<< ((8 : Int32) &&& 31)))]))
  refine own_st (fun _ kS => XS.iload X8.here hx rfl (hb hby d2_53) rfl kS) ?_
  show own_G p.tables e below _ (T8.setTop (mkF m 55 #[.val (.ref a1), .val (.ref a2), .val (.int at1), .val (.int ((0 : Int32) ||| ((atv cB (at1 + (1 : Int32))) &&& (255 : Int32)))), .val (.int (1 : Int32))] [(.int (1 : Int32)), (.int ((at1 + (2 : Int32)) - (1 : Int32))), (.ref a2), (.int (((0 : Int32) ||| ((atv cB (at1 + (1 : Int32))) &&& (255 : Int32))) <<< ((8 : Int32) &&& 31)))]))
  refine own_st (fun _ kS => XS.isub X8.here hx rfl (hb hby d2_55) rfl kS) ?_
  show own_G p.tables e below _ (T8.setTop (mkF m 56 #[.val (.ref a1), .val (.ref a2), .val (.int at1), .val (.int ((0 : Int32) ||| ((atv cB (at1 + (1 : Int32))) &&& (255 : Int32)))), .val (.int (1 : Int32))] [(.int (((at1 + (2 : Int32)) - (1 : Int32)) - (1 : Int32))), (.ref a2), (.int (((0 : Int32) ||| ((atv cB (at1 + (1 : Int32))) &&& (255 : Int32))) <<< ((8 : Int32) &&& 31)))]))
  refine own_st (fun _ kS => XS.goto X8.here hx rfl (pc0 := 56) (pc' := 63) rfl (hb hby d2_56) (by decide) (by decide) kS) ?_
  show own_G p.tables e below _ (T8.setTop (mkF m 63 #[.val (.ref a1), .val (.ref a2), .val (.int at1), .val (.int ((0 : Int32) ||| ((atv cB (at1 + (1 : Int32))) &&& (255 : Int32)))), .val (.int (1 : Int32))] [(.int (((at1 + (2 : Int32)) - (1 : Int32)) - (1 : Int32))), (.ref a2), (.int (((0 : Int32) ||| ((atv cB (at1 + (1 : Int32))) &&& (255 : Int32))) <<< ((8 : Int32) &&& 31)))]))
  rw [own_ixL at1 2 1 0 (by decide) (by decide) (by decide)]
  rw [own_add0 at1]
  show own_G p.tables e below _ (T8.setTop (mkF m 63 #[.val (.ref a1), .val (.ref a2), .val (.int at1), .val (.int ((0 : Int32) ||| ((atv cB (at1 + (1 : Int32))) &&& (255 : Int32)))), .val (.int (1 : Int32))] [(.int at1), (.ref a2), (.int (((0 : Int32) ||| ((atv cB (at1 + (1 : Int32))) &&& (255 : Int32))) <<< ((8 : Int32) &&& 31)))]))
  have ib9 : ¬ (at1 < 0 ∨ cB.slots.size ≤ (at1).toNatClampNeg) := inb_of Tb.2.1 (own_inb0 hbn (by decide))
  refine own_st (fun _ kS => X8.baloadBytes hx (j := at1) (v := (.int (atv cB at1))) (by rw [e8]; exact Tb.1.1) (State.isArrayOf_alike hZ.alike Tb.1.2.1) Tb.1.2.2 ib9 (Tb.2.2.2 _ ib9) (g := (mkF m 63 #[.val (.ref a1), .val (.ref a2), .val (.int at1), .val (.int ((0 : Int32) ||| ((atv cB (at1 + (1 : Int32))) &&& (255 : Int32)))), .val (.int (1 : Int32))] [(.int at1), (.ref a2), (.int (((0 : Int32) ||| ((atv cB (at1 + (1 : Int32))) &&& (255 : Int32))) <<< ((8 : Int32) &&& 31)))])) rfl rfl (hb hby d2_63) _ kS) ?_
  show own_G p.tables e below _ (T8.setTop (mkF m 64 #[.val (.ref a1), .val (.ref a2), .val (.int at1), .val (.int ((0 : Int32) ||| ((atv cB (at1 + (1 : Int32))) &&& (255 : Int32)))), .val (.int (1 : Int32))] [(.int (atv cB at1)), (.int (((0 : Int32) ||| ((atv cB (at1 + (1 : Int32))) &&& (255 : Int32))) <<< ((8 : Int32) &&& 31)))]))
  refine own_st (fun _ kS => XS.sipush X8.here hx rfl (hb hby d2_64) kS) ?_
  show own_G p.tables e below _ (T8.setTop (mkF m 67 #[.val (.ref a1), .val (.ref a2), .val (.int at1), .val (.int ((0 : Int32) ||| ((atv cB (at1 + (1 : Int32))) &&& (255 : Int32)))), .val (.int (1 : Int32))] [(.int (255 : Int32)), (.int (atv cB at1)), (.int (((0 : Int32) ||| ((atv cB (at1 + (1 : Int32))) &&& (255 : Int32))) <<< ((8 : Int32) &&& 31)))]))
  refine own_st (fun _ kS => XS.iand X8.here hx rfl (hb hby d2_67) rfl kS) ?_
  show own_G p.tables e below _ (T8.setTop (mkF m 68 #[.val (.ref a1), .val (.ref a2), .val (.int at1), .val (.int ((0 : Int32) ||| ((atv cB (at1 + (1 : Int32))) &&& (255 : Int32)))), .val (.int (1 : Int32))] [(.int ((atv cB at1) &&& (255 : Int32))), (.int (((0 : Int32) ||| ((atv cB (at1 + (1 : Int32))) &&& (255 : Int32))) <<< ((8 : Int32) &&& 31)))]))
  refine own_st (fun _ kS => XT.ior X8.here hx rfl (hb hby d2_68) rfl kS) ?_
  show own_G p.tables e below _ (T8.setTop (mkF m 69 #[.val (.ref a1), .val (.ref a2), .val (.int at1), .val (.int ((0 : Int32) ||| ((atv cB (at1 + (1 : Int32))) &&& (255 : Int32)))), .val (.int (1 : Int32))] [(.int ((((0 : Int32) ||| ((atv cB (at1 + (1 : Int32))) &&& (255 : Int32))) <<< ((8 : Int32) &&& 31)) ||| ((atv cB at1) &&& (255 : Int32))))]))
  refine own_st (fun _ kS => XS.istoreN X8.here hx rfl (hb hby d2_69) rfl (l' := #[.val (.ref a1), .val (.ref a2), .val (.int at1), .val (.int ((((0 : Int32) ||| ((atv cB (at1 + (1 : Int32))) &&& (255 : Int32))) <<< ((8 : Int32) &&& 31)) ||| ((atv cB at1) &&& (255 : Int32)))), .val (.int (1 : Int32))]) rfl kS) ?_
  show own_G p.tables e below _ (T8.setTop (mkF m 70 #[.val (.ref a1), .val (.ref a2), .val (.int at1), .val (.int ((((0 : Int32) ||| ((atv cB (at1 + (1 : Int32))) &&& (255 : Int32))) <<< ((8 : Int32) &&& 31)) ||| ((atv cB at1) &&& (255 : Int32)))), .val (.int (1 : Int32))] []))
  refine own_st (fun _ kS => XS.iinc X8.here hx rfl (hb hby d2_70) rfl (l' := #[.val (.ref a1), .val (.ref a2), .val (.int at1), .val (.int ((((0 : Int32) ||| ((atv cB (at1 + (1 : Int32))) &&& (255 : Int32))) <<< ((8 : Int32) &&& 31)) ||| ((atv cB at1) &&& (255 : Int32)))), .val (.int (2 : Int32))]) rfl kS) ?_
  show own_G p.tables e below _ (T8.setTop (mkF m 73 #[.val (.ref a1), .val (.ref a2), .val (.int at1), .val (.int ((((0 : Int32) ||| ((atv cB (at1 + (1 : Int32))) &&& (255 : Int32))) <<< ((8 : Int32) &&& 31)) ||| ((atv cB at1) &&& (255 : Int32)))), .val (.int (2 : Int32))] []))
  refine own_st (fun _ kS => XS.goto X8.here hx rfl (pc0 := 73) (pc' := 24) rfl (hb hby d2_73) (by decide) (by decide) kS) ?_
  show own_G p.tables e below _ (T8.setTop (mkF m 24 #[.val (.ref a1), .val (.ref a2), .val (.int at1), .val (.int ((((0 : Int32) ||| ((atv cB (at1 + (1 : Int32))) &&& (255 : Int32))) <<< ((8 : Int32) &&& 31)) ||| ((atv cB at1) &&& (255 : Int32)))), .val (.int (2 : Int32))] []))
  refine own_st (fun _ kS => XS.iload X8.here hx rfl (hb hby d2_24) rfl kS) ?_
  show own_G p.tables e below _ (T8.setTop (mkF m 26 #[.val (.ref a1), .val (.ref a2), .val (.int at1), .val (.int ((((0 : Int32) ||| ((atv cB (at1 + (1 : Int32))) &&& (255 : Int32))) <<< ((8 : Int32) &&& 31)) ||| ((atv cB at1) &&& (255 : Int32)))), .val (.int (2 : Int32))] [(.int (2 : Int32))]))
  refine own_st (fun _ kS => XS.aloadN X8.here hx rfl (hb hby d2_26) rfl rfl kS) ?_
  show own_G p.tables e below _ (T8.setTop (mkF m 27 #[.val (.ref a1), .val (.ref a2), .val (.int at1), .val (.int ((((0 : Int32) ||| ((atv cB (at1 + (1 : Int32))) &&& (255 : Int32))) <<< ((8 : Int32) &&& 31)) ||| ((atv cB at1) &&& (255 : Int32)))), .val (.int (2 : Int32))] [(.ref a1), (.int (2 : Int32))]))
  obtain ⟨T10, X10, e10, st10⟩ := getF X8 hx hZ hown (host := "") (Or.inl (hw _ (List.mem_of_getElem? (i := 14) rfl))) Via.refl e8 (Fld.ext O0.2 Fw) (g := (mkF m 27 #[.val (.ref a1), .val (.ref a2), .val (.int at1), .val (.int ((((0 : Int32) ||| ((atv cB (at1 + (1 : Int32))) &&& (255 : Int32))) <<< ((8 : Int32) &&& 31)) ||| ((atv cB at1) &&& (255 : Int32)))), .val (.int (2 : Int32))] [(.ref a1), (.int (2 : Int32))])) rfl rfl (hb hby d2_27)
  refine own_st st10 ?_
  show own_G p.tables e below _ (T10.setTop (mkF m 30 #[.val (.ref a1), .val (.ref a2), .val (.int at1), .val (.int ((((0 : Int32) ||| ((atv cB (at1 + (1 : Int32))) &&& (255 : Int32))) <<< ((8 : Int32) &&& 31)) ||| ((atv cB at1) &&& (255 : Int32)))), .val (.int (2 : Int32))] [(.int (2 : Int32)), (.int (2 : Int32))]))
  refine own_st (fun _ kS => XS.icmpYes X10.here hx rfl (pc0 := 30) (pc' := 76) rfl (hb hby d2_30) rfl (flt (by decide : ¬ ((2 : Int32) < (2 : Int32)))).2.1 (by decide) (by decide) kS) ?_
  show own_G p.tables e below _ (T10.setTop (mkF m 76 #[.val (.ref a1), .val (.ref a2), .val (.int at1), .val (.int ((((0 : Int32) ||| ((atv cB (at1 + (1 : Int32))) &&& (255 : Int32))) <<< ((8 : Int32) &&& 31)) ||| ((atv cB at1) &&& (255 : Int32)))), .val (.int (2 : Int32))] []))
  refine own_st (fun _ kS => XS.iloadN X10.here hx rfl (hb hby d2_76) rfl kS) ?_
  show own_G p.tables e below _ (T10.setTop (mkF m 77 #[.val (.ref a1), .val (.ref a2), .val (.int at1), .val (.int ((((0 : Int32) ||| ((atv cB (at1 + (1 : Int32))) &&& (255 : Int32))) <<< ((8 : Int32) &&& 31)) ||| ((atv cB at1) &&& (255 : Int32)))), .val (.int (2 : Int32))] [(.int ((((0 : Int32) ||| ((atv cB (at1 + (1 : Int32))) &&& (255 : Int32))) <<< ((8 : Int32) &&& 31)) ||| ((atv cB at1) &&& (255 : Int32))))]))
  exact own_retI X10 hx hlk hret (hb hby d2_77) (by decide) (by decide) (by rw [e10]; exact ⟨rfl, N0, rfl⟩)
theorem pn_0 : plainName "com/example/provenir/provenir/TextEncodingUnitAtPinLaw" = true := by first | (simp [plainName, overriddenIn]; done) | decide +kernel
def Q_law (n0 : Nat) (v : Option Value) (h : Heap) (L : List Loc) : Prop := v = some (.int (1 : Int32)) ∧ Fr n0 L
theorem own_pd0 : parseMethodDescriptor "([BI)I" = some ⟨[(.array .byte), .int], some .int⟩ := by decide +kernel
set_option maxRecDepth 65536 in
set_option maxHeartbeats 40000000 in
theorem sg_S_1_0 {p : Program} {l : Launch} {e : Env} {s : State} {m : MethodId} {args : Array Value} {below : List Frame} {meth : Method} {c : Code} {T0 : State} {locs : List Loc} {Z : State} {a0 : Array Value} {h0 : Heap} {n0 : Nat} (hx : p.tables.exec = Jvm.exec) (hby : c.code = code) (hml : c.maxLocals = 11) (hown : s.vm.findClass "com/example/provenir/provenir/TextEncodingUnitAtPinLaw" = some m.cls) (hlk : meth.locks = false) (hret : meth.sig.returnType = some .boolean) (hZ : Z.Warmed39 s.vm) (hw : ∀ d ∈ tables_1, d.before a0 Z = true) (Z0 : n0 ≤ h0.size)
    (X0 : Stand p l e room_1 s m args below meth c T0 locs 1 8) (e0 : T0.heap = h0) (N0 : Fr n0 locs) (O0 : Old Z n0 h0) (q1 : Int64) (p2 : Int32) (p3 : Int32) (bA : Addr) (kk1 : Int32) (wf : Addr) (cB : Cell) (Tb : Tab Z h0 bA cB .byte (8 : Int32)) (Ef : Exa Z Z.heap wf "com/example/provenir/provenir/TextEncoding") (Fw : Fld Z Z.heap wf "com/example/provenir/provenir/TextEncoding" "width" "I" (.int (1 : Int32))) (Fl : Fld Z Z.heap wf "com/example/provenir/provenir/TextEncoding" "littleEndian" "Z" (.int (0 : Int32))) :
    own_G p.tables e below (own_E s (Q_law n0) room_1.cells room_1.slots) (T0.setTop (mkF m 204 #[.val (.long q1), .second, .val (.int p2), .val (.int p3), .val (.ref bA), .val (.int kk1), .val (.ref wf), .val (.int (1 : Int32)), .val (.int (0 : Int32)), .unset, .unset] [])) := by
  show own_G p.tables e below _ (T0.setTop (mkF m 204 #[.val (.long q1), .second, .val (.int p2), .val (.int p3), .val (.ref bA), .val (.int kk1), .val (.ref wf), .val (.int (1 : Int32)), .val (.int (0 : Int32)), .unset, .unset] []))
  refine own_st (fun _ kS => XS.iloadN X0.here hx rfl (hb hby at_204) rfl kS) ?_
  show own_G p.tables e below _ (T0.setTop (mkF m 205 #[.val (.long q1), .second, .val (.int p2), .val (.int p3), .val (.ref bA), .val (.int kk1), .val (.ref wf), .val (.int (1 : Int32)), .val (.int (0 : Int32)), .unset, .unset] [(.int p3)]))
  refine own_st (fun _ kS => X0.ldcInt hx hown (mvT hZ (hw _ (List.mem_of_getElem? (i := 1) rfl))) (g := (mkF m 205 #[.val (.long q1), .second, .val (.int p2), .val (.int p3), .val (.ref bA), .val (.int kk1), .val (.ref wf), .val (.int (1 : Int32)), .val (.int (0 : Int32)), .unset, .unset] [(.int p3)])) rfl (hb hby at_205) _ kS) ?_
  show own_G p.tables e below _ (T0.setTop (mkF m 207 #[.val (.long q1), .second, .val (.int p2), .val (.int p3), .val (.ref bA), .val (.int kk1), .val (.ref wf), .val (.int (1 : Int32)), .val (.int (0 : Int32)), .unset, .unset] [(.int (2147483647 : Int32)), (.int p3)]))
  refine own_st (fun _ kS => XS.iand X0.here hx rfl (hb hby at_207) rfl kS) ?_
  show own_G p.tables e below _ (T0.setTop (mkF m 208 #[.val (.long q1), .second, .val (.int p2), .val (.int p3), .val (.ref bA), .val (.int kk1), .val (.ref wf), .val (.int (1 : Int32)), .val (.int (0 : Int32)), .unset, .unset] [(.int (p3 &&& (2147483647 : Int32)))]))
  refine own_st (fun _ kS => XS.bipush X0.here hx rfl (hb hby at_208) kS) ?_
  show own_G p.tables e below _ (T0.setTop (mkF m 210 #[.val (.long q1), .second, .val (.int p2), .val (.int p3), .val (.ref bA), .val (.int kk1), .val (.ref wf), .val (.int (1 : Int32)), .val (.int (0 : Int32)), .unset, .unset] [(.int (9 : Int32)), (.int (p3 &&& (2147483647 : Int32)))]))
  refine own_st (fun _ kS => XS.iload X0.here hx rfl (hb hby at_210) rfl kS) ?_
  show own_G p.tables e below _ (T0.setTop (mkF m 212 #[.val (.long q1), .second, .val (.int p2), .val (.int p3), .val (.ref bA), .val (.int kk1), .val (.ref wf), .val (.int (1 : Int32)), .val (.int (0 : Int32)), .unset, .unset] [(.int (1 : Int32)), (.int (9 : Int32)), (.int (p3 &&& (2147483647 : Int32)))]))
  refine own_st (fun _ kS => XS.isub X0.here hx rfl (hb hby at_212) rfl kS) ?_
  show own_G p.tables e below _ (T0.setTop (mkF m 213 #[.val (.long q1), .second, .val (.int p2), .val (.int p3), .val (.ref bA), .val (.int kk1), .val (.ref wf), .val (.int (1 : Int32)), .val (.int (0 : Int32)), .unset, .unset] [(.int (8 : Int32)), (.int (p3 &&& (2147483647 : Int32)))]))
  refine own_st (fun _ kS => iremM (g := (mkF m 213 #[.val (.long q1), .second, .val (.int p2), .val (.int p3), .val (.ref bA), .val (.int kk1), .val (.ref wf), .val (.int (1 : Int32)), .val (.int (0 : Int32)), .unset, .unset] [(.int (8 : Int32)), (.int (p3 &&& (2147483647 : Int32)))])) X0 hx rfl (hb hby at_213) rfl (by decide) kS) ?_
  show own_G p.tables e below _ (T0.setTop (mkF m 214 #[.val (.long q1), .second, .val (.int p2), .val (.int p3), .val (.ref bA), .val (.int kk1), .val (.ref wf), .val (.int (1 : Int32)), .val (.int (0 : Int32)), .unset, .unset] [(.int ((p3 &&& (2147483647 : Int32)) % (8 : Int32)))]))
  obtain ⟨at1, hat⟩ : ∃ z, z = ((p3 &&& (2147483647 : Int32)) % (8 : Int32)) := ⟨_, rfl⟩
  have hbn : 0 ≤ at1.toInt ∧ at1.toInt < 8 := by rw [hat]; exact ⟨(own_mod p3 8 8 (by decide) (by decide)).1, (own_mod p3 8 8 (by decide) (by decide)).2.1⟩
  rw [← hat]
  show own_G p.tables e below _ (T0.setTop (mkF m 214 #[.val (.long q1), .second, .val (.int p2), .val (.int p3), .val (.ref bA), .val (.int kk1), .val (.ref wf), .val (.int (1 : Int32)), .val (.int (0 : Int32)), .unset, .unset] [(.int at1)]))
  refine own_st (fun _ kS => XS.istore X0.here hx rfl (hb hby at_214) rfl (l' := #[.val (.long q1), .second, .val (.int p2), .val (.int p3), .val (.ref bA), .val (.int kk1), .val (.ref wf), .val (.int (1 : Int32)), .val (.int (0 : Int32)), .val (.int at1), .unset]) rfl kS) ?_
  show own_G p.tables e below _ (T0.setTop (mkF m 216 #[.val (.long q1), .second, .val (.int p2), .val (.int p3), .val (.ref bA), .val (.int kk1), .val (.ref wf), .val (.int (1 : Int32)), .val (.int (0 : Int32)), .val (.int at1), .unset] []))
  refine own_st (fun _ kS => XS.iload X0.here hx rfl (hb hby at_216) rfl kS) ?_
  show own_G p.tables e below _ (T0.setTop (mkF m 218 #[.val (.long q1), .second, .val (.int p2), .val (.int p3), .val (.ref bA), .val (.int kk1), .val (.ref wf), .val (.int (1 : Int32)), .val (.int (0 : Int32)), .val (.int at1), .unset] [(.int (1 : Int32))]))
  refine own_st (fun _ kS => XS.iconst X0.here hx rfl (hb hby at_218) kS) ?_
  show own_G p.tables e below _ (T0.setTop (mkF m 219 #[.val (.long q1), .second, .val (.int p2), .val (.int p3), .val (.ref bA), .val (.int kk1), .val (.ref wf), .val (.int (1 : Int32)), .val (.int (0 : Int32)), .val (.int at1), .unset] [(.int (1 : Int32)), (.int (1 : Int32))]))
  refine own_st (fun _ kS => XS.icmpNo X0.here hx rfl (hb hby at_219) rfl (teq (by decide : (1 : Int32) = (1 : Int32))).2 kS) ?_
  show own_G p.tables e below _ (T0.setTop (mkF m 222 #[.val (.long q1), .second, .val (.int p2), .val (.int p3), .val (.ref bA), .val (.int kk1), .val (.ref wf), .val (.int (1 : Int32)), .val (.int (0 : Int32)), .val (.int at1), .unset] []))
  refine own_st (fun _ kS => XS.aload X0.here hx rfl (hb hby at_222) rfl rfl kS) ?_
  show own_G p.tables e below _ (T0.setTop (mkF m 224 #[.val (.long q1), .second, .val (.int p2), .val (.int p3), .val (.ref bA), .val (.int kk1), .val (.ref wf), .val (.int (1 : Int32)), .val (.int (0 : Int32)), .val (.int at1), .unset] [(.ref bA)]))
  refine own_st (fun _ kS => XS.iload X0.here hx rfl (hb hby at_224) rfl kS) ?_
  show own_G p.tables e below _ (T0.setTop (mkF m 226 #[.val (.long q1), .second, .val (.int p2), .val (.int p3), .val (.ref bA), .val (.int kk1), .val (.ref wf), .val (.int (1 : Int32)), .val (.int (0 : Int32)), .val (.int at1), .unset] [(.int at1), (.ref bA)]))
  obtain ⟨_, _, ⟨T1, L1, k1, n1⟩, -, X1, ⟨Lc1, hQ1, l1, y1, z1⟩, st1⟩ := Jvm.LawKit.callS X0 hx (y := (⟨"com/example/provenir/provenir/TextEncodingUnitAtPinLaw", "u", "([BI)I"⟩ : MethodName)) hown (mvT hZ (hw _ (List.mem_of_getElem? (i := 5) rfl))) (mvT hZ (hw _ (List.mem_of_getElem? (i := 6) rfl))) (mvT hZ (hw _ (List.mem_of_getElem? (i := 7) rfl))) (mvT hZ (hw _ (List.mem_of_getElem? (i := 8) rfl))) (by decide) (backOf (W := 0) (rm_u l Z a0 hw [] bA cB at1 h0 n0 Z0  Tb (own_inb0 hbn (by decide))) hZ (hw _ (List.mem_of_getElem? (i := 8) rfl)) (hw _ (List.mem_of_getElem? (i := 7) rfl)) (by decide) (by decide)) (g := (mkF m 226 #[.val (.long q1), .second, .val (.int p2), .val (.int p3), .val (.ref bA), .val (.int kk1), .val (.ref wf), .val (.int (1 : Int32)), .val (.int (0 : Int32)), .val (.int at1), .unset] [(.int at1), (.ref bA)])) rfl (by rw [hml]; rfl) (argsL := [(.ref bA), (.int at1)]) (rest := []) (lenOf own_pd0 rfl) rfl (by show 2 * 0 + _ ≤ _; exact Nat.le_of_eq rfl) (hb hby at_226) (fun _ _ => ⟨rfl, e0, (by decide : 1 + 0 ≤ _), (by decide : 8 + 0 ≤ _)⟩)
  dsimp only [Pt.U, Pt.locs, Pt.cells, Pt.slots] at X1 l1 y1 z1 st1 hQ1
  subst l1 y1 z1
  obtain ⟨rfl, Nq1, eq1⟩ := hQ1
  have N1 := Fr.app N0 Nq1
  refine own_st st1 ?_
  show own_G p.tables e below _ (T1.setTop (mkF m 229 #[.val (.long q1), .second, .val (.int p2), .val (.int p3), .val (.ref bA), .val (.int kk1), .val (.ref wf), .val (.int (1 : Int32)), .val (.int (0 : Int32)), .val (.int at1), .unset] [(.int ((atv cB at1) &&& (255 : Int32)))]))
  refine own_st (fun _ kS => XS.istore X1.here hx rfl (hb hby at_229) rfl (l' := #[.val (.long q1), .second, .val (.int p2), .val (.int p3), .val (.ref bA), .val (.int kk1), .val (.ref wf), .val (.int (1 : Int32)), .val (.int (0 : Int32)), .val (.int at1), .val (.int ((atv cB at1) &&& (255 : Int32)))]) rfl kS) ?_
  show own_G p.tables e below _ (T1.setTop (mkF m 231 #[.val (.long q1), .second, .val (.int p2), .val (.int p3), .val (.ref bA), .val (.int kk1), .val (.ref wf), .val (.int (1 : Int32)), .val (.int (0 : Int32)), .val (.int at1), .val (.int ((atv cB at1) &&& (255 : Int32)))] []))
  refine own_st (fun _ kS => XS.goto X1.here hx rfl (pc0 := 231) (pc' := 395) rfl (hb hby at_231) (by decide) (by decide) kS) ?_
  show own_G p.tables e below _ (T1.setTop (mkF m 395 #[.val (.long q1), .second, .val (.int p2), .val (.int p3), .val (.ref bA), .val (.int kk1), .val (.ref wf), .val (.int (1 : Int32)), .val (.int (0 : Int32)), .val (.int at1), .val (.int ((atv cB at1) &&& (255 : Int32)))] []))
  refine own_st (fun _ kS => XS.aload X1.here hx rfl (hb hby at_395) rfl rfl kS) ?_
  show own_G p.tables e below _ (T1.setTop (mkF m 397 #[.val (.long q1), .second, .val (.int p2), .val (.int p3), .val (.ref bA), .val (.int kk1), .val (.ref wf), .val (.int (1 : Int32)), .val (.int (0 : Int32)), .val (.int at1), .val (.int ((atv cB at1) &&& (255 : Int32)))] [(.ref wf)]))
  refine own_st (fun _ kS => XS.aload X1.here hx rfl (hb hby at_397) rfl rfl kS) ?_
  show own_G p.tables e below _ (T1.setTop (mkF m 399 #[.val (.long q1), .second, .val (.int p2), .val (.int p3), .val (.ref bA), .val (.int kk1), .val (.ref wf), .val (.int (1 : Int32)), .val (.int (0 : Int32)), .val (.int at1), .val (.int ((atv cB at1) &&& (255 : Int32)))] [(.ref bA), (.ref wf)]))
  refine own_st (fun _ kS => XS.iload X1.here hx rfl (hb hby at_399) rfl kS) ?_
  show own_G p.tables e below _ (T1.setTop (mkF m 401 #[.val (.long q1), .second, .val (.int p2), .val (.int p3), .val (.ref bA), .val (.int kk1), .val (.ref wf), .val (.int (1 : Int32)), .val (.int (0 : Int32)), .val (.int at1), .val (.int ((atv cB at1) &&& (255 : Int32)))] [(.int at1), (.ref bA), (.ref wf)]))
  obtain ⟨cq2, kq2, q2a, q2b, q2c⟩ := isOf hZ eq1 (Exa.ext O0.2 Ef)
  obtain ⟨_, _, ⟨T2, L2, k2, n2⟩, -, X2, ⟨Lc2, hQ2, l2, y2, z2⟩, st2⟩ := X1.virtualBack hx (y := (⟨"com/example/provenir/provenir/TextEncoding", "unitAt", "([BI)I"⟩ : MethodName)) (z := (⟨"com/example/provenir/provenir/TextEncoding", "unitAt", "([BI)I"⟩ : MethodName)) hown (mvT hZ (hw _ (List.mem_of_getElem? (i := 9) rfl))) (mvT hZ (hw _ (List.mem_of_getElem? (i := 10) rfl))) (notFace_of_selects (args := #[]) (mvT hZ (hw _ (List.mem_of_getElem? (i := 12) rfl)))) (mvT hZ (hw _ (List.mem_of_getElem? (i := 12) rfl))) (mvT hZ (hw _ (List.mem_of_getElem? (i := 11) rfl))) (by decide) (backOf (W := 0) (rm_unitAt_1_0 l Z a0 hw [] wf bA cB at1 h0 n0 Z0 O0 Fw Tb hbn) hZ (hw _ (List.mem_of_getElem? (i := 13) rfl)) (hw _ (List.mem_of_getElem? (i := 3) rfl)) (by decide) (by decide)) q2a q2c (g := (mkF m 401 #[.val (.long q1), .second, .val (.int p2), .val (.int p3), .val (.ref bA), .val (.int kk1), .val (.ref wf), .val (.int (1 : Int32)), .val (.int (0 : Int32)), .val (.int at1), .val (.int ((atv cB at1) &&& (255 : Int32)))] [(.int at1), (.ref bA), (.ref wf)])) rfl (by rw [hml]; rfl) (Steps.refl _) (argsL := [(.ref bA), (.int at1)]) (rest := []) (lenOf own_pd0 rfl) rfl (by show 2 * 0 + _ ≤ _; exact Nat.le_of_eq rfl) (hb hby at_401) (fun _ _ => ⟨rfl, eq1, (by decide : 1 + 0 ≤ _), (by decide : 8 + 0 ≤ _)⟩)
  dsimp only [Pt.U, Pt.locs, Pt.cells, Pt.slots] at X2 l2 y2 z2 st2 hQ2
  subst l2 y2 z2
  obtain ⟨rfl, Nq2, eq2⟩ := hQ2
  have N2 := Fr.app N1 Nq2
  refine own_tr st2 ?_
  show own_G p.tables e below _ (T2.setTop (mkF m 404 #[.val (.long q1), .second, .val (.int p2), .val (.int p3), .val (.ref bA), .val (.int kk1), .val (.ref wf), .val (.int (1 : Int32)), .val (.int (0 : Int32)), .val (.int at1), .val (.int ((atv cB at1) &&& (255 : Int32)))] [(.int ((atv cB at1) &&& (255 : Int32)))]))
  refine own_st (fun _ kS => XS.iload X2.here hx rfl (hb hby at_404) rfl kS) ?_
  show own_G p.tables e below _ (T2.setTop (mkF m 406 #[.val (.long q1), .second, .val (.int p2), .val (.int p3), .val (.ref bA), .val (.int kk1), .val (.ref wf), .val (.int (1 : Int32)), .val (.int (0 : Int32)), .val (.int at1), .val (.int ((atv cB at1) &&& (255 : Int32)))] [(.int ((atv cB at1) &&& (255 : Int32))), (.int ((atv cB at1) &&& (255 : Int32)))]))
  refine own_st (fun _ kS => XS.icmpNo X2.here hx rfl (hb hby at_406) rfl (teq (rfl : ((atv cB at1) &&& (255 : Int32)) = ((atv cB at1) &&& (255 : Int32)))).2 kS) ?_
  show own_G p.tables e below _ (T2.setTop (mkF m 409 #[.val (.long q1), .second, .val (.int p2), .val (.int p3), .val (.ref bA), .val (.int kk1), .val (.ref wf), .val (.int (1 : Int32)), .val (.int (0 : Int32)), .val (.int at1), .val (.int ((atv cB at1) &&& (255 : Int32)))] []))
  refine own_st (fun _ kS => XS.iconst X2.here hx rfl (hb hby at_409) kS) ?_
  show own_G p.tables e below _ (T2.setTop (mkF m 410 #[.val (.long q1), .second, .val (.int p2), .val (.int p3), .val (.ref bA), .val (.int kk1), .val (.ref wf), .val (.int (1 : Int32)), .val (.int (0 : Int32)), .val (.int at1), .val (.int ((atv cB at1) &&& (255 : Int32)))] [(.int (1 : Int32))]))
  refine own_st (fun _ kS => XS.goto X2.here hx rfl (pc0 := 410) (pc' := 414) rfl (hb hby at_410) (by decide) (by decide) kS) ?_
  show own_G p.tables e below _ (T2.setTop (mkF m 414 #[.val (.long q1), .second, .val (.int p2), .val (.int p3), .val (.ref bA), .val (.int kk1), .val (.ref wf), .val (.int (1 : Int32)), .val (.int (0 : Int32)), .val (.int at1), .val (.int ((atv cB at1) &&& (255 : Int32)))] [(.int (1 : Int32))]))
  exact own_retN X2 hx hlk (t := .boolean) hret (by simp) (hb hby at_414) (by decide) (by decide) (v' := (1 : Int32)) rfl (by rw [eq2]; exact ⟨rfl, N2⟩)
set_option maxRecDepth 65536 in
set_option maxHeartbeats 40000000 in
theorem sg_S_4_0 {p : Program} {l : Launch} {e : Env} {s : State} {m : MethodId} {args : Array Value} {below : List Frame} {meth : Method} {c : Code} {T0 : State} {locs : List Loc} {Z : State} {a0 : Array Value} {h0 : Heap} {n0 : Nat} (hx : p.tables.exec = Jvm.exec) (hby : c.code = code) (hml : c.maxLocals = 11) (hown : s.vm.findClass "com/example/provenir/provenir/TextEncodingUnitAtPinLaw" = some m.cls) (hlk : meth.locks = false) (hret : meth.sig.returnType = some .boolean) (hZ : Z.Warmed39 s.vm) (hw : ∀ d ∈ tables_1, d.before a0 Z = true) (Z0 : n0 ≤ h0.size)
    (X0 : Stand p l e room_1 s m args below meth c T0 locs 1 8) (e0 : T0.heap = h0) (N0 : Fr n0 locs) (O0 : Old Z n0 h0) (q1 : Int64) (p2 : Int32) (p3 : Int32) (bA : Addr) (kk1 : Int32) (wf : Addr) (cB : Cell) (Tb : Tab Z h0 bA cB .byte (8 : Int32)) (Ef : Exa Z Z.heap wf "com/example/provenir/provenir/TextEncoding") (Fw : Fld Z Z.heap wf "com/example/provenir/provenir/TextEncoding" "width" "I" (.int (4 : Int32))) (Fl : Fld Z Z.heap wf "com/example/provenir/provenir/TextEncoding" "littleEndian" "Z" (.int (0 : Int32))) :
    own_G p.tables e below (own_E s (Q_law n0) room_1.cells room_1.slots) (T0.setTop (mkF m 204 #[.val (.long q1), .second, .val (.int p2), .val (.int p3), .val (.ref bA), .val (.int kk1), .val (.ref wf), .val (.int (4 : Int32)), .val (.int (0 : Int32)), .unset, .unset] [])) := by
  show own_G p.tables e below _ (T0.setTop (mkF m 204 #[.val (.long q1), .second, .val (.int p2), .val (.int p3), .val (.ref bA), .val (.int kk1), .val (.ref wf), .val (.int (4 : Int32)), .val (.int (0 : Int32)), .unset, .unset] []))
  refine own_st (fun _ kS => XS.iloadN X0.here hx rfl (hb hby at_204) rfl kS) ?_
  show own_G p.tables e below _ (T0.setTop (mkF m 205 #[.val (.long q1), .second, .val (.int p2), .val (.int p3), .val (.ref bA), .val (.int kk1), .val (.ref wf), .val (.int (4 : Int32)), .val (.int (0 : Int32)), .unset, .unset] [(.int p3)]))
  refine own_st (fun _ kS => X0.ldcInt hx hown (mvT hZ (hw _ (List.mem_of_getElem? (i := 1) rfl))) (g := (mkF m 205 #[.val (.long q1), .second, .val (.int p2), .val (.int p3), .val (.ref bA), .val (.int kk1), .val (.ref wf), .val (.int (4 : Int32)), .val (.int (0 : Int32)), .unset, .unset] [(.int p3)])) rfl (hb hby at_205) _ kS) ?_
  show own_G p.tables e below _ (T0.setTop (mkF m 207 #[.val (.long q1), .second, .val (.int p2), .val (.int p3), .val (.ref bA), .val (.int kk1), .val (.ref wf), .val (.int (4 : Int32)), .val (.int (0 : Int32)), .unset, .unset] [(.int (2147483647 : Int32)), (.int p3)]))
  refine own_st (fun _ kS => XS.iand X0.here hx rfl (hb hby at_207) rfl kS) ?_
  show own_G p.tables e below _ (T0.setTop (mkF m 208 #[.val (.long q1), .second, .val (.int p2), .val (.int p3), .val (.ref bA), .val (.int kk1), .val (.ref wf), .val (.int (4 : Int32)), .val (.int (0 : Int32)), .unset, .unset] [(.int (p3 &&& (2147483647 : Int32)))]))
  refine own_st (fun _ kS => XS.bipush X0.here hx rfl (hb hby at_208) kS) ?_
  show own_G p.tables e below _ (T0.setTop (mkF m 210 #[.val (.long q1), .second, .val (.int p2), .val (.int p3), .val (.ref bA), .val (.int kk1), .val (.ref wf), .val (.int (4 : Int32)), .val (.int (0 : Int32)), .unset, .unset] [(.int (9 : Int32)), (.int (p3 &&& (2147483647 : Int32)))]))
  refine own_st (fun _ kS => XS.iload X0.here hx rfl (hb hby at_210) rfl kS) ?_
  show own_G p.tables e below _ (T0.setTop (mkF m 212 #[.val (.long q1), .second, .val (.int p2), .val (.int p3), .val (.ref bA), .val (.int kk1), .val (.ref wf), .val (.int (4 : Int32)), .val (.int (0 : Int32)), .unset, .unset] [(.int (4 : Int32)), (.int (9 : Int32)), (.int (p3 &&& (2147483647 : Int32)))]))
  refine own_st (fun _ kS => XS.isub X0.here hx rfl (hb hby at_212) rfl kS) ?_
  show own_G p.tables e below _ (T0.setTop (mkF m 213 #[.val (.long q1), .second, .val (.int p2), .val (.int p3), .val (.ref bA), .val (.int kk1), .val (.ref wf), .val (.int (4 : Int32)), .val (.int (0 : Int32)), .unset, .unset] [(.int (5 : Int32)), (.int (p3 &&& (2147483647 : Int32)))]))
  refine own_st (fun _ kS => iremM (g := (mkF m 213 #[.val (.long q1), .second, .val (.int p2), .val (.int p3), .val (.ref bA), .val (.int kk1), .val (.ref wf), .val (.int (4 : Int32)), .val (.int (0 : Int32)), .unset, .unset] [(.int (5 : Int32)), (.int (p3 &&& (2147483647 : Int32)))])) X0 hx rfl (hb hby at_213) rfl (by decide) kS) ?_
  show own_G p.tables e below _ (T0.setTop (mkF m 214 #[.val (.long q1), .second, .val (.int p2), .val (.int p3), .val (.ref bA), .val (.int kk1), .val (.ref wf), .val (.int (4 : Int32)), .val (.int (0 : Int32)), .unset, .unset] [(.int ((p3 &&& (2147483647 : Int32)) % (5 : Int32)))]))
  obtain ⟨at1, hat⟩ : ∃ z, z = ((p3 &&& (2147483647 : Int32)) % (5 : Int32)) := ⟨_, rfl⟩
  have hbn : 0 ≤ at1.toInt ∧ at1.toInt < 5 := by rw [hat]; exact ⟨(own_mod p3 5 5 (by decide) (by decide)).1, (own_mod p3 5 5 (by decide) (by decide)).2.1⟩
  rw [← hat]
  show own_G p.tables e below _ (T0.setTop (mkF m 214 #[.val (.long q1), .second, .val (.int p2), .val (.int p3), .val (.ref bA), .val (.int kk1), .val (.ref wf), .val (.int (4 : Int32)), .val (.int (0 : Int32)), .unset, .unset] [(.int at1)]))
  refine own_st (fun _ kS => XS.istore X0.here hx rfl (hb hby at_214) rfl (l' := #[.val (.long q1), .second, .val (.int p2), .val (.int p3), .val (.ref bA), .val (.int kk1), .val (.ref wf), .val (.int (4 : Int32)), .val (.int (0 : Int32)), .val (.int at1), .unset]) rfl kS) ?_
  show own_G p.tables e below _ (T0.setTop (mkF m 216 #[.val (.long q1), .second, .val (.int p2), .val (.int p3), .val (.ref bA), .val (.int kk1), .val (.ref wf), .val (.int (4 : Int32)), .val (.int (0 : Int32)), .val (.int at1), .unset] []))
  refine own_st (fun _ kS => XS.iload X0.here hx rfl (hb hby at_216) rfl kS) ?_
  show own_G p.tables e below _ (T0.setTop (mkF m 218 #[.val (.long q1), .second, .val (.int p2), .val (.int p3), .val (.ref bA), .val (.int kk1), .val (.ref wf), .val (.int (4 : Int32)), .val (.int (0 : Int32)), .val (.int at1), .unset] [(.int (4 : Int32))]))
  refine own_st (fun _ kS => XS.iconst X0.here hx rfl (hb hby at_218) kS) ?_
  show own_G p.tables e below _ (T0.setTop (mkF m 219 #[.val (.long q1), .second, .val (.int p2), .val (.int p3), .val (.ref bA), .val (.int kk1), .val (.ref wf), .val (.int (4 : Int32)), .val (.int (0 : Int32)), .val (.int at1), .unset] [(.int (1 : Int32)), (.int (4 : Int32))]))
  refine own_st (fun _ kS => XS.icmpYes X0.here hx rfl (pc0 := 219) (pc' := 234) rfl (hb hby at_219) rfl (feq (by decide : ¬ ((4 : Int32) = (1 : Int32)))).2 (by decide) (by decide) kS) ?_
  show own_G p.tables e below _ (T0.setTop (mkF m 234 #[.val (.long q1), .second, .val (.int p2), .val (.int p3), .val (.ref bA), .val (.int kk1), .val (.ref wf), .val (.int (4 : Int32)), .val (.int (0 : Int32)), .val (.int at1), .unset] []))
  refine own_st (fun _ kS => XS.iload X0.here hx rfl (hb hby at_234) rfl kS) ?_
  show own_G p.tables e below _ (T0.setTop (mkF m 236 #[.val (.long q1), .second, .val (.int p2), .val (.int p3), .val (.ref bA), .val (.int kk1), .val (.ref wf), .val (.int (4 : Int32)), .val (.int (0 : Int32)), .val (.int at1), .unset] [(.int (4 : Int32))]))
  refine own_st (fun _ kS => XS.iconst X0.here hx rfl (hb hby at_236) kS) ?_
  show own_G p.tables e below _ (T0.setTop (mkF m 237 #[.val (.long q1), .second, .val (.int p2), .val (.int p3), .val (.ref bA), .val (.int kk1), .val (.ref wf), .val (.int (4 : Int32)), .val (.int (0 : Int32)), .val (.int at1), .unset] [(.int (2 : Int32)), (.int (4 : Int32))]))
  refine own_st (fun _ kS => XS.icmpYes X0.here hx rfl (pc0 := 237) (pc' := 293) rfl (hb hby at_237) rfl (feq (by decide : ¬ ((4 : Int32) = (2 : Int32)))).2 (by decide) (by decide) kS) ?_
  show own_G p.tables e below _ (T0.setTop (mkF m 293 #[.val (.long q1), .second, .val (.int p2), .val (.int p3), .val (.ref bA), .val (.int kk1), .val (.ref wf), .val (.int (4 : Int32)), .val (.int (0 : Int32)), .val (.int at1), .unset] []))
  refine own_st (fun _ kS => XS.iload X0.here hx rfl (hb hby at_293) rfl kS) ?_
  show own_G p.tables e below _ (T0.setTop (mkF m 295 #[.val (.long q1), .second, .val (.int p2), .val (.int p3), .val (.ref bA), .val (.int kk1), .val (.ref wf), .val (.int (4 : Int32)), .val (.int (0 : Int32)), .val (.int at1), .unset] [(.int (0 : Int32))]))
  refine own_st (fun _ kS => XS.ifYes X0.here hx rfl (pc0 := 295) (pc' := 347) rfl (hb hby at_295) rfl ((if0 _ _).trans (teq (by decide : (0 : Int32) = (0 : Int32))).1) (by decide) (by decide) kS) ?_
  show own_G p.tables e below _ (T0.setTop (mkF m 347 #[.val (.long q1), .second, .val (.int p2), .val (.int p3), .val (.ref bA), .val (.int kk1), .val (.ref wf), .val (.int (4 : Int32)), .val (.int (0 : Int32)), .val (.int at1), .unset] []))
  refine own_st (fun _ kS => XS.aload X0.here hx rfl (hb hby at_347) rfl rfl kS) ?_
  show own_G p.tables e below _ (T0.setTop (mkF m 349 #[.val (.long q1), .second, .val (.int p2), .val (.int p3), .val (.ref bA), .val (.int kk1), .val (.ref wf), .val (.int (4 : Int32)), .val (.int (0 : Int32)), .val (.int at1), .unset] [(.ref bA)]))
  refine own_st (fun _ kS => XS.iload X0.here hx rfl (hb hby at_349) rfl kS) ?_
  show own_G p.tables e below _ (T0.setTop (mkF m 351 #[.val (.long q1), .second, .val (.int p2), .val (.int p3), .val (.ref bA), .val (.int kk1), .val (.ref wf), .val (.int (4 : Int32)), .val (.int (0 : Int32)), .val (.int at1), .unset] [(.int at1), (.ref bA)]))
  obtain ⟨_, _, ⟨T1, L1, k1, n1⟩, -, X1, ⟨Lc1, hQ1, l1, y1, z1⟩, st1⟩ := Jvm.LawKit.callS X0 hx (y := (⟨"com/example/provenir/provenir/TextEncodingUnitAtPinLaw", "u", "([BI)I"⟩ : MethodName)) hown (mvT hZ (hw _ (List.mem_of_getElem? (i := 5) rfl))) (mvT hZ (hw _ (List.mem_of_getElem? (i := 6) rfl))) (mvT hZ (hw _ (List.mem_of_getElem? (i := 7) rfl))) (mvT hZ (hw _ (List.mem_of_getElem? (i := 8) rfl))) (by decide) (backOf (W := 0) (rm_u l Z a0 hw [] bA cB at1 h0 n0 Z0  Tb (own_inb0 hbn (by decide))) hZ (hw _ (List.mem_of_getElem? (i := 8) rfl)) (hw _ (List.mem_of_getElem? (i := 7) rfl)) (by decide) (by decide)) (g := (mkF m 351 #[.val (.long q1), .second, .val (.int p2), .val (.int p3), .val (.ref bA), .val (.int kk1), .val (.ref wf), .val (.int (4 : Int32)), .val (.int (0 : Int32)), .val (.int at1), .unset] [(.int at1), (.ref bA)])) rfl (by rw [hml]; rfl) (argsL := [(.ref bA), (.int at1)]) (rest := []) (lenOf own_pd0 rfl) rfl (by show 2 * 0 + _ ≤ _; exact Nat.le_of_eq rfl) (hb hby at_351) (fun _ _ => ⟨rfl, e0, (by decide : 1 + 0 ≤ _), (by decide : 8 + 0 ≤ _)⟩)
  dsimp only [Pt.U, Pt.locs, Pt.cells, Pt.slots] at X1 l1 y1 z1 st1 hQ1
  subst l1 y1 z1
  obtain ⟨rfl, Nq1, eq1⟩ := hQ1
  have N1 := Fr.app N0 Nq1
  refine own_st st1 ?_
  show own_G p.tables e below _ (T1.setTop (mkF m 354 #[.val (.long q1), .second, .val (.int p2), .val (.int p3), .val (.ref bA), .val (.int kk1), .val (.ref wf), .val (.int (4 : Int32)), .val (.int (0 : Int32)), .val (.int at1), .unset] [(.int ((atv cB at1) &&& (255 : Int32)))]))
  refine own_st (fun _ kS => XS.bipush X1.here hx rfl (hb hby at_354) kS) ?_
  show own_G p.tables e below _ (T1.setTop (mkF m 356 #[.val (.long q1), .second, .val (.int p2), .val (.int p3), .val (.ref bA), .val (.int kk1), .val (.ref wf), .val (.int (4 : Int32)), .val (.int (0 : Int32)), .val (.int at1), .unset] [(.int (24 : Int32)), (.int ((atv cB at1) &&& (255 : Int32)))]))
  refine own_st (fun _ kS => XT.ishl X1.here hx rfl (hb hby at_356) rfl kS) ?_
  show own_G p.tables e below _ (T1.setTop (mkF m 357 #[.val (.long q1), .second, .val (.int p2), .val (.int p3), .val (.ref bA), .val (.int kk1), .val (.ref wf), .val (.int (4 : Int32)), .val (.int (0 : Int32)), .val (.int at1), .unset] [(.int (((atv cB at1) &&& (255 : Int32)) <<< ((24 : Int32) &&& 31)))]))
  refine own_st (fun _ kS => XS.aload X1.here hx rfl (hb hby at_357) rfl rfl kS) ?_
  show own_G p.tables e below _ (T1.setTop (mkF m 359 #[.val (.long q1), .second, .val (.int p2), .val (.int p3), .val (.ref bA), .val (.int kk1), .val (.ref wf), .val (.int (4 : Int32)), .val (.int (0 : Int32)), .val (.int at1), .unset] [(.ref bA), (.int (((atv cB at1) &&& (255 : Int32)) <<< ((24 : Int32) &&& 31)))]))
  refine own_st (fun _ kS => XS.iload X1.here hx rfl (hb hby at_359) rfl kS) ?_
  show own_G p.tables e below _ (T1.setTop (mkF m 361 #[.val (.long q1), .second, .val (.int p2), .val (.int p3), .val (.ref bA), .val (.int kk1), .val (.ref wf), .val (.int (4 : Int32)), .val (.int (0 : Int32)), .val (.int at1), .unset] [(.int at1), (.ref bA), (.int (((atv cB at1) &&& (255 : Int32)) <<< ((24 : Int32) &&& 31)))]))
  refine own_st (fun _ kS => XS.iconst X1.here hx rfl (hb hby at_361) kS) ?_
  show own_G p.tables e below _ (T1.setTop (mkF m 362 #[.val (.long q1), .second, .val (.int p2), .val (.int p3), .val (.ref bA), .val (.int kk1), .val (.ref wf), .val (.int (4 : Int32)), .val (.int (0 : Int32)), .val (.int at1), .unset] [(.int (1 : Int32)), (.int at1), (.ref bA), (.int (((atv cB at1) &&& (255 : Int32)) <<< ((24 : Int32) &&& 31)))]))
  refine own_st (fun _ kS => XS.iadd X1.here hx rfl (hb hby at_362) rfl kS) ?_
  show own_G p.tables e below _ (T1.setTop (mkF m 363 #[.val (.long q1), .second, .val (.int p2), .val (.int p3), .val (.ref bA), .val (.int kk1), .val (.ref wf), .val (.int (4 : Int32)), .val (.int (0 : Int32)), .val (.int at1), .unset] [(.int (at1 + (1 : Int32))), (.ref bA), (.int (((atv cB at1) &&& (255 : Int32)) <<< ((24 : Int32) &&& 31)))]))
  obtain ⟨_, _, ⟨T2, L2, k2, n2⟩, -, X2, ⟨Lc2, hQ2, l2, y2, z2⟩, st2⟩ := Jvm.LawKit.callS X1 hx (y := (⟨"com/example/provenir/provenir/TextEncodingUnitAtPinLaw", "u", "([BI)I"⟩ : MethodName)) hown (mvT hZ (hw _ (List.mem_of_getElem? (i := 5) rfl))) (mvT hZ (hw _ (List.mem_of_getElem? (i := 6) rfl))) (mvT hZ (hw _ (List.mem_of_getElem? (i := 7) rfl))) (mvT hZ (hw _ (List.mem_of_getElem? (i := 8) rfl))) (by decide) (backOf (W := 1) (rm_u l Z a0 hw [] bA cB (at1 + (1 : Int32)) h0 n0 Z0  Tb (own_inb hbn 1 (by decide))) hZ (hw _ (List.mem_of_getElem? (i := 8) rfl)) (hw _ (List.mem_of_getElem? (i := 7) rfl)) (by decide) (by decide)) (g := (mkF m 363 #[.val (.long q1), .second, .val (.int p2), .val (.int p3), .val (.ref bA), .val (.int kk1), .val (.ref wf), .val (.int (4 : Int32)), .val (.int (0 : Int32)), .val (.int at1), .unset] [(.int (at1 + (1 : Int32))), (.ref bA), (.int (((atv cB at1) &&& (255 : Int32)) <<< ((24 : Int32) &&& 31)))])) rfl (by rw [hml]; rfl) (argsL := [(.ref bA), (.int (at1 + (1 : Int32)))]) (rest := [(.int (((atv cB at1) &&& (255 : Int32)) <<< ((24 : Int32) &&& 31)))]) (lenOf own_pd0 rfl) rfl (by show 2 * 0 + _ ≤ _; exact Nat.le_of_eq rfl) (hb hby at_363) (fun _ _ => ⟨rfl, eq1, (by decide : 1 + 0 ≤ _), (by decide : 8 + 0 ≤ _)⟩)
  dsimp only [Pt.U, Pt.locs, Pt.cells, Pt.slots] at X2 l2 y2 z2 st2 hQ2
  subst l2 y2 z2
  obtain ⟨rfl, Nq2, eq2⟩ := hQ2
  have N2 := Fr.app N1 Nq2
  refine own_st st2 ?_
  show own_G p.tables e below _ (T2.setTop (mkF m 366 #[.val (.long q1), .second, .val (.int p2), .val (.int p3), .val (.ref bA), .val (.int kk1), .val (.ref wf), .val (.int (4 : Int32)), .val (.int (0 : Int32)), .val (.int at1), .unset] [(.int ((atv cB (at1 + (1 : Int32))) &&& (255 : Int32))), (.int (((atv cB at1) &&& (255 : Int32)) <<< ((24 : Int32) &&& 31)))]))
  refine own_st (fun _ kS => XS.bipush X2.here hx rfl (hb hby at_366) kS) ?_
  show own_G p.tables e below _ (T2.setTop (mkF m 368 #[.val (.long q1), .second, .val (.int p2), .val (.int p3), .val (.ref bA), .val (.int kk1), .val (.ref wf), .val (.int (4 : Int32)), .val (.int (0 : Int32)), .val (.int at1), .unset] [(.int (16 : Int32)), (.int ((atv cB (at1 + (1 : Int32))) &&& (255 : Int32))), (.int (((atv cB at1) &&& (255 : Int32)) <<< ((24 : Int32) &&& 31)))]))
  refine own_st (fun _ kS => XT.ishl X2.here hx rfl (hb hby at_368) rfl kS) ?_
  show own_G p.tables e below _ (T2.setTop (mkF m 369 #[.val (.long q1), .second, .val (.int p2), .val (.int p3), .val (.ref bA), .val (.int kk1), .val (.ref wf), .val (.int (4 : Int32)), .val (.int (0 : Int32)), .val (.int at1), .unset] [(.int (((atv cB (at1 + (1 : Int32))) &&& (255 : Int32)) <<< ((16 : Int32) &&& 31))), (.int (((atv cB at1) &&& (255 : Int32)) <<< ((24 : Int32) &&& 31)))]))
  refine own_st (fun _ kS => XT.ior X2.here hx rfl (hb hby at_369) rfl kS) ?_
  show own_G p.tables e below _ (T2.setTop (mkF m 370 #[.val (.long q1), .second, .val (.int p2), .val (.int p3), .val (.ref bA), .val (.int kk1), .val (.ref wf), .val (.int (4 : Int32)), .val (.int (0 : Int32)), .val (.int at1), .unset] [(.int ((((atv cB at1) &&& (255 : Int32)) <<< ((24 : Int32) &&& 31)) ||| (((atv cB (at1 + (1 : Int32))) &&& (255 : Int32)) <<< ((16 : Int32) &&& 31))))]))
  refine own_st (fun _ kS => XS.aload X2.here hx rfl (hb hby at_370) rfl rfl kS) ?_
  show own_G p.tables e below _ (T2.setTop (mkF m 372 #[.val (.long q1), .second, .val (.int p2), .val (.int p3), .val (.ref bA), .val (.int kk1), .val (.ref wf), .val (.int (4 : Int32)), .val (.int (0 : Int32)), .val (.int at1), .unset] [(.ref bA), (.int ((((atv cB at1) &&& (255 : Int32)) <<< ((24 : Int32) &&& 31)) ||| (((atv cB (at1 + (1 : Int32))) &&& (255 : Int32)) <<< ((16 : Int32) &&& 31))))]))
  refine own_st (fun _ kS => XS.iload X2.here hx rfl (hb hby at_372) rfl kS) ?_
  show own_G p.tables e below _ (T2.setTop (mkF m 374 #[.val (.long q1), .second, .val (.int p2), .val (.int p3), .val (.ref bA), .val (.int kk1), .val (.ref wf), .val (.int (4 : Int32)), .val (.int (0 : Int32)), .val (.int at1), .unset] [(.int at1), (.ref bA), (.int ((((atv cB at1) &&& (255 : Int32)) <<< ((24 : Int32) &&& 31)) ||| (((atv cB (at1 + (1 : Int32))) &&& (255 : Int32)) <<< ((16 : Int32) &&& 31))))]))
  refine own_st (fun _ kS => XS.iconst X2.here hx rfl (hb hby at_374) kS) ?_
  show own_G p.tables e below _ (T2.setTop (mkF m 375 #[.val (.long q1), .second, .val (.int p2), .val (.int p3), .val (.ref bA), .val (.int kk1), .val (.ref wf), .val (.int (4 : Int32)), .val (.int (0 : Int32)), .val (.int at1), .unset] [(.int (2 : Int32)), (.int at1), (.ref bA), (.int ((((atv cB at1) &&& (255 : Int32)) <<< ((24 : Int32) &&& 31)) ||| (((atv cB (at1 + (1 : Int32))) &&& (255 : Int32)) <<< ((16 : Int32) &&& 31))))]))
  refine own_st (fun _ kS => XS.iadd X2.here hx rfl (hb hby at_375) rfl kS) ?_
  show own_G p.tables e below _ (T2.setTop (mkF m 376 #[.val (.long q1), .second, .val (.int p2), .val (.int p3), .val (.ref bA), .val (.int kk1), .val (.ref wf), .val (.int (4 : Int32)), .val (.int (0 : Int32)), .val (.int at1), .unset] [(.int (at1 + (2 : Int32))), (.ref bA), (.int ((((atv cB at1) &&& (255 : Int32)) <<< ((24 : Int32) &&& 31)) ||| (((atv cB (at1 + (1 : Int32))) &&& (255 : Int32)) <<< ((16 : Int32) &&& 31))))]))
  obtain ⟨_, _, ⟨T3, L3, k3, n3⟩, -, X3, ⟨Lc3, hQ3, l3, y3, z3⟩, st3⟩ := Jvm.LawKit.callS X2 hx (y := (⟨"com/example/provenir/provenir/TextEncodingUnitAtPinLaw", "u", "([BI)I"⟩ : MethodName)) hown (mvT hZ (hw _ (List.mem_of_getElem? (i := 5) rfl))) (mvT hZ (hw _ (List.mem_of_getElem? (i := 6) rfl))) (mvT hZ (hw _ (List.mem_of_getElem? (i := 7) rfl))) (mvT hZ (hw _ (List.mem_of_getElem? (i := 8) rfl))) (by decide) (backOf (W := 1) (rm_u l Z a0 hw [] bA cB (at1 + (2 : Int32)) h0 n0 Z0  Tb (own_inb hbn 2 (by decide))) hZ (hw _ (List.mem_of_getElem? (i := 8) rfl)) (hw _ (List.mem_of_getElem? (i := 7) rfl)) (by decide) (by decide)) (g := (mkF m 376 #[.val (.long q1), .second, .val (.int p2), .val (.int p3), .val (.ref bA), .val (.int kk1), .val (.ref wf), .val (.int (4 : Int32)), .val (.int (0 : Int32)), .val (.int at1), .unset] [(.int (at1 + (2 : Int32))), (.ref bA), (.int ((((atv cB at1) &&& (255 : Int32)) <<< ((24 : Int32) &&& 31)) ||| (((atv cB (at1 + (1 : Int32))) &&& (255 : Int32)) <<< ((16 : Int32) &&& 31))))])) rfl (by rw [hml]; rfl) (argsL := [(.ref bA), (.int (at1 + (2 : Int32)))]) (rest := [(.int ((((atv cB at1) &&& (255 : Int32)) <<< ((24 : Int32) &&& 31)) ||| (((atv cB (at1 + (1 : Int32))) &&& (255 : Int32)) <<< ((16 : Int32) &&& 31))))]) (lenOf own_pd0 rfl) rfl (by show 2 * 0 + _ ≤ _; exact Nat.le_of_eq rfl) (hb hby at_376) (fun _ _ => ⟨rfl, eq2, (by decide : 1 + 0 ≤ _), (by decide : 8 + 0 ≤ _)⟩)
  dsimp only [Pt.U, Pt.locs, Pt.cells, Pt.slots] at X3 l3 y3 z3 st3 hQ3
  subst l3 y3 z3
  obtain ⟨rfl, Nq3, eq3⟩ := hQ3
  have N3 := Fr.app N2 Nq3
  refine own_st st3 ?_
  show own_G p.tables e below _ (T3.setTop (mkF m 379 #[.val (.long q1), .second, .val (.int p2), .val (.int p3), .val (.ref bA), .val (.int kk1), .val (.ref wf), .val (.int (4 : Int32)), .val (.int (0 : Int32)), .val (.int at1), .unset] [(.int ((atv cB (at1 + (2 : Int32))) &&& (255 : Int32))), (.int ((((atv cB at1) &&& (255 : Int32)) <<< ((24 : Int32) &&& 31)) ||| (((atv cB (at1 + (1 : Int32))) &&& (255 : Int32)) <<< ((16 : Int32) &&& 31))))]))
  refine own_st (fun _ kS => XS.bipush X3.here hx rfl (hb hby at_379) kS) ?_
  show own_G p.tables e below _ (T3.setTop (mkF m 381 #[.val (.long q1), .second, .val (.int p2), .val (.int p3), .val (.ref bA), .val (.int kk1), .val (.ref wf), .val (.int (4 : Int32)), .val (.int (0 : Int32)), .val (.int at1), .unset] [(.int (8 : Int32)), (.int ((atv cB (at1 + (2 : Int32))) &&& (255 : Int32))), (.int ((((atv cB at1) &&& (255 : Int32)) <<< ((24 : Int32) &&& 31)) ||| (((atv cB (at1 + (1 : Int32))) &&& (255 : Int32)) <<< ((16 : Int32) &&& 31))))]))
  refine own_st (fun _ kS => XT.ishl X3.here hx rfl (hb hby at_381) rfl kS) ?_
  show own_G p.tables e below _ (T3.setTop (mkF m 382 #[.val (.long q1), .second, .val (.int p2), .val (.int p3), .val (.ref bA), .val (.int kk1), .val (.ref wf), .val (.int (4 : Int32)), .val (.int (0 : Int32)), .val (.int at1), .unset] [(.int (((atv cB (at1 + (2 : Int32))) &&& (255 : Int32)) <<< ((8 : Int32) &&& 31))), (.int ((((atv cB at1) &&& (255 : Int32)) <<< ((24 : Int32) &&& 31)) ||| (((atv cB (at1 + (1 : Int32))) &&& (255 : Int32)) <<< ((16 : Int32) &&& 31))))]))
  refine own_st (fun _ kS => XT.ior X3.here hx rfl (hb hby at_382) rfl kS) ?_
  show own_G p.tables e below _ (T3.setTop (mkF m 383 #[.val (.long q1), .second, .val (.int p2), .val (.int p3), .val (.ref bA), .val (.int kk1), .val (.ref wf), .val (.int (4 : Int32)), .val (.int (0 : Int32)), .val (.int at1), .unset] [(.int (((((atv cB at1) &&& (255 : Int32)) <<< ((24 : Int32) &&& 31)) ||| (((atv cB (at1 + (1 : Int32))) &&& (255 : Int32)) <<< ((16 : Int32) &&& 31))) ||| (((atv cB (at1 + (2 : Int32))) &&& (255 : Int32)) <<< ((8 : Int32) &&& 31))))]))
  refine own_st (fun _ kS => XS.aload X3.here hx rfl (hb hby at_383) rfl rfl kS) ?_
  show own_G p.tables e below _ (T3.setTop (mkF m 385 #[.val (.long q1), .second, .val (.int p2), .val (.int p3), .val (.ref bA), .val (.int kk1), .val (.ref wf), .val (.int (4 : Int32)), .val (.int (0 : Int32)), .val (.int at1), .unset] [(.ref bA), (.int (((((atv cB at1) &&& (255 : Int32)) <<< ((24 : Int32) &&& 31)) ||| (((atv cB (at1 + (1 : Int32))) &&& (255 : Int32)) <<< ((16 : Int32) &&& 31))) ||| (((atv cB (at1 + (2 : Int32))) &&& (255 : Int32)) <<< ((8 : Int32) &&& 31))))]))
  refine own_st (fun _ kS => XS.iload X3.here hx rfl (hb hby at_385) rfl kS) ?_
  show own_G p.tables e below _ (T3.setTop (mkF m 387 #[.val (.long q1), .second, .val (.int p2), .val (.int p3), .val (.ref bA), .val (.int kk1), .val (.ref wf), .val (.int (4 : Int32)), .val (.int (0 : Int32)), .val (.int at1), .unset] [(.int at1), (.ref bA), (.int (((((atv cB at1) &&& (255 : Int32)) <<< ((24 : Int32) &&& 31)) ||| (((atv cB (at1 + (1 : Int32))) &&& (255 : Int32)) <<< ((16 : Int32) &&& 31))) ||| (((atv cB (at1 + (2 : Int32))) &&& (255 : Int32)) <<< ((8 : Int32) &&& 31))))]))
  refine own_st (fun _ kS => XS.iconst X3.here hx rfl (hb hby at_387) kS) ?_
  show own_G p.tables e below _ (T3.setTop (mkF m 388 #[.val (.long q1), .second, .val (.int p2), .val (.int p3), .val (.ref bA), .val (.int kk1), .val (.ref wf), .val (.int (4 : Int32)), .val (.int (0 : Int32)), .val (.int at1), .unset] [(.int (3 : Int32)), (.int at1), (.ref bA), (.int (((((atv cB at1) &&& (255 : Int32)) <<< ((24 : Int32) &&& 31)) ||| (((atv cB (at1 + (1 : Int32))) &&& (255 : Int32)) <<< ((16 : Int32) &&& 31))) ||| (((atv cB (at1 + (2 : Int32))) &&& (255 : Int32)) <<< ((8 : Int32) &&& 31))))]))
  refine own_st (fun _ kS => XS.iadd X3.here hx rfl (hb hby at_388) rfl kS) ?_
  show own_G p.tables e below _ (T3.setTop (mkF m 389 #[.val (.long q1), .second, .val (.int p2), .val (.int p3), .val (.ref bA), .val (.int kk1), .val (.ref wf), .val (.int (4 : Int32)), .val (.int (0 : Int32)), .val (.int at1), .unset] [(.int (at1 + (3 : Int32))), (.ref bA), (.int (((((atv cB at1) &&& (255 : Int32)) <<< ((24 : Int32) &&& 31)) ||| (((atv cB (at1 + (1 : Int32))) &&& (255 : Int32)) <<< ((16 : Int32) &&& 31))) ||| (((atv cB (at1 + (2 : Int32))) &&& (255 : Int32)) <<< ((8 : Int32) &&& 31))))]))
  obtain ⟨_, _, ⟨T4, L4, k4, n4⟩, -, X4, ⟨Lc4, hQ4, l4, y4, z4⟩, st4⟩ := Jvm.LawKit.callS X3 hx (y := (⟨"com/example/provenir/provenir/TextEncodingUnitAtPinLaw", "u", "([BI)I"⟩ : MethodName)) hown (mvT hZ (hw _ (List.mem_of_getElem? (i := 5) rfl))) (mvT hZ (hw _ (List.mem_of_getElem? (i := 6) rfl))) (mvT hZ (hw _ (List.mem_of_getElem? (i := 7) rfl))) (mvT hZ (hw _ (List.mem_of_getElem? (i := 8) rfl))) (by decide) (backOf (W := 1) (rm_u l Z a0 hw [] bA cB (at1 + (3 : Int32)) h0 n0 Z0  Tb (own_inb hbn 3 (by decide))) hZ (hw _ (List.mem_of_getElem? (i := 8) rfl)) (hw _ (List.mem_of_getElem? (i := 7) rfl)) (by decide) (by decide)) (g := (mkF m 389 #[.val (.long q1), .second, .val (.int p2), .val (.int p3), .val (.ref bA), .val (.int kk1), .val (.ref wf), .val (.int (4 : Int32)), .val (.int (0 : Int32)), .val (.int at1), .unset] [(.int (at1 + (3 : Int32))), (.ref bA), (.int (((((atv cB at1) &&& (255 : Int32)) <<< ((24 : Int32) &&& 31)) ||| (((atv cB (at1 + (1 : Int32))) &&& (255 : Int32)) <<< ((16 : Int32) &&& 31))) ||| (((atv cB (at1 + (2 : Int32))) &&& (255 : Int32)) <<< ((8 : Int32) &&& 31))))])) rfl (by rw [hml]; rfl) (argsL := [(.ref bA), (.int (at1 + (3 : Int32)))]) (rest := [(.int (((((atv cB at1) &&& (255 : Int32)) <<< ((24 : Int32) &&& 31)) ||| (((atv cB (at1 + (1 : Int32))) &&& (255 : Int32)) <<< ((16 : Int32) &&& 31))) ||| (((atv cB (at1 + (2 : Int32))) &&& (255 : Int32)) <<< ((8 : Int32) &&& 31))))]) (lenOf own_pd0 rfl) rfl (by show 2 * 0 + _ ≤ _; exact Nat.le_of_eq rfl) (hb hby at_389) (fun _ _ => ⟨rfl, eq3, (by decide : 1 + 0 ≤ _), (by decide : 8 + 0 ≤ _)⟩)
  dsimp only [Pt.U, Pt.locs, Pt.cells, Pt.slots] at X4 l4 y4 z4 st4 hQ4
  subst l4 y4 z4
  obtain ⟨rfl, Nq4, eq4⟩ := hQ4
  have N4 := Fr.app N3 Nq4
  refine own_st st4 ?_
  show own_G p.tables e below _ (T4.setTop (mkF m 392 #[.val (.long q1), .second, .val (.int p2), .val (.int p3), .val (.ref bA), .val (.int kk1), .val (.ref wf), .val (.int (4 : Int32)), .val (.int (0 : Int32)), .val (.int at1), .unset] [(.int ((atv cB (at1 + (3 : Int32))) &&& (255 : Int32))), (.int (((((atv cB at1) &&& (255 : Int32)) <<< ((24 : Int32) &&& 31)) ||| (((atv cB (at1 + (1 : Int32))) &&& (255 : Int32)) <<< ((16 : Int32) &&& 31))) ||| (((atv cB (at1 + (2 : Int32))) &&& (255 : Int32)) <<< ((8 : Int32) &&& 31))))]))
  refine own_st (fun _ kS => XT.ior X4.here hx rfl (hb hby at_392) rfl kS) ?_
  show own_G p.tables e below _ (T4.setTop (mkF m 393 #[.val (.long q1), .second, .val (.int p2), .val (.int p3), .val (.ref bA), .val (.int kk1), .val (.ref wf), .val (.int (4 : Int32)), .val (.int (0 : Int32)), .val (.int at1), .unset] [(.int ((((((atv cB at1) &&& (255 : Int32)) <<< ((24 : Int32) &&& 31)) ||| (((atv cB (at1 + (1 : Int32))) &&& (255 : Int32)) <<< ((16 : Int32) &&& 31))) ||| (((atv cB (at1 + (2 : Int32))) &&& (255 : Int32)) <<< ((8 : Int32) &&& 31))) ||| ((atv cB (at1 + (3 : Int32))) &&& (255 : Int32))))]))
  refine own_st (fun _ kS => XS.istore X4.here hx rfl (hb hby at_393) rfl (l' := #[.val (.long q1), .second, .val (.int p2), .val (.int p3), .val (.ref bA), .val (.int kk1), .val (.ref wf), .val (.int (4 : Int32)), .val (.int (0 : Int32)), .val (.int at1), .val (.int ((((((atv cB at1) &&& (255 : Int32)) <<< ((24 : Int32) &&& 31)) ||| (((atv cB (at1 + (1 : Int32))) &&& (255 : Int32)) <<< ((16 : Int32) &&& 31))) ||| (((atv cB (at1 + (2 : Int32))) &&& (255 : Int32)) <<< ((8 : Int32) &&& 31))) ||| ((atv cB (at1 + (3 : Int32))) &&& (255 : Int32))))]) rfl kS) ?_
  show own_G p.tables e below _ (T4.setTop (mkF m 395 #[.val (.long q1), .second, .val (.int p2), .val (.int p3), .val (.ref bA), .val (.int kk1), .val (.ref wf), .val (.int (4 : Int32)), .val (.int (0 : Int32)), .val (.int at1), .val (.int ((((((atv cB at1) &&& (255 : Int32)) <<< ((24 : Int32) &&& 31)) ||| (((atv cB (at1 + (1 : Int32))) &&& (255 : Int32)) <<< ((16 : Int32) &&& 31))) ||| (((atv cB (at1 + (2 : Int32))) &&& (255 : Int32)) <<< ((8 : Int32) &&& 31))) ||| ((atv cB (at1 + (3 : Int32))) &&& (255 : Int32))))] []))
  refine own_st (fun _ kS => XS.aload X4.here hx rfl (hb hby at_395) rfl rfl kS) ?_
  show own_G p.tables e below _ (T4.setTop (mkF m 397 #[.val (.long q1), .second, .val (.int p2), .val (.int p3), .val (.ref bA), .val (.int kk1), .val (.ref wf), .val (.int (4 : Int32)), .val (.int (0 : Int32)), .val (.int at1), .val (.int ((((((atv cB at1) &&& (255 : Int32)) <<< ((24 : Int32) &&& 31)) ||| (((atv cB (at1 + (1 : Int32))) &&& (255 : Int32)) <<< ((16 : Int32) &&& 31))) ||| (((atv cB (at1 + (2 : Int32))) &&& (255 : Int32)) <<< ((8 : Int32) &&& 31))) ||| ((atv cB (at1 + (3 : Int32))) &&& (255 : Int32))))] [(.ref wf)]))
  refine own_st (fun _ kS => XS.aload X4.here hx rfl (hb hby at_397) rfl rfl kS) ?_
  show own_G p.tables e below _ (T4.setTop (mkF m 399 #[.val (.long q1), .second, .val (.int p2), .val (.int p3), .val (.ref bA), .val (.int kk1), .val (.ref wf), .val (.int (4 : Int32)), .val (.int (0 : Int32)), .val (.int at1), .val (.int ((((((atv cB at1) &&& (255 : Int32)) <<< ((24 : Int32) &&& 31)) ||| (((atv cB (at1 + (1 : Int32))) &&& (255 : Int32)) <<< ((16 : Int32) &&& 31))) ||| (((atv cB (at1 + (2 : Int32))) &&& (255 : Int32)) <<< ((8 : Int32) &&& 31))) ||| ((atv cB (at1 + (3 : Int32))) &&& (255 : Int32))))] [(.ref bA), (.ref wf)]))
  refine own_st (fun _ kS => XS.iload X4.here hx rfl (hb hby at_399) rfl kS) ?_
  show own_G p.tables e below _ (T4.setTop (mkF m 401 #[.val (.long q1), .second, .val (.int p2), .val (.int p3), .val (.ref bA), .val (.int kk1), .val (.ref wf), .val (.int (4 : Int32)), .val (.int (0 : Int32)), .val (.int at1), .val (.int ((((((atv cB at1) &&& (255 : Int32)) <<< ((24 : Int32) &&& 31)) ||| (((atv cB (at1 + (1 : Int32))) &&& (255 : Int32)) <<< ((16 : Int32) &&& 31))) ||| (((atv cB (at1 + (2 : Int32))) &&& (255 : Int32)) <<< ((8 : Int32) &&& 31))) ||| ((atv cB (at1 + (3 : Int32))) &&& (255 : Int32))))] [(.int at1), (.ref bA), (.ref wf)]))
  obtain ⟨cq5, kq5, q5a, q5b, q5c⟩ := isOf hZ eq4 (Exa.ext O0.2 Ef)
  obtain ⟨_, _, ⟨T5, L5, k5, n5⟩, -, X5, ⟨Lc5, hQ5, l5, y5, z5⟩, st5⟩ := X4.virtualBack hx (y := (⟨"com/example/provenir/provenir/TextEncoding", "unitAt", "([BI)I"⟩ : MethodName)) (z := (⟨"com/example/provenir/provenir/TextEncoding", "unitAt", "([BI)I"⟩ : MethodName)) hown (mvT hZ (hw _ (List.mem_of_getElem? (i := 9) rfl))) (mvT hZ (hw _ (List.mem_of_getElem? (i := 10) rfl))) (notFace_of_selects (args := #[]) (mvT hZ (hw _ (List.mem_of_getElem? (i := 12) rfl)))) (mvT hZ (hw _ (List.mem_of_getElem? (i := 12) rfl))) (mvT hZ (hw _ (List.mem_of_getElem? (i := 11) rfl))) (by decide) (backOf (W := 0) (rm_unitAt_4_0 l Z a0 hw [] wf bA cB at1 h0 n0 Z0 O0 Fw Fl Tb hbn) hZ (hw _ (List.mem_of_getElem? (i := 13) rfl)) (hw _ (List.mem_of_getElem? (i := 3) rfl)) (by decide) (by decide)) q5a q5c (g := (mkF m 401 #[.val (.long q1), .second, .val (.int p2), .val (.int p3), .val (.ref bA), .val (.int kk1), .val (.ref wf), .val (.int (4 : Int32)), .val (.int (0 : Int32)), .val (.int at1), .val (.int ((((((atv cB at1) &&& (255 : Int32)) <<< ((24 : Int32) &&& 31)) ||| (((atv cB (at1 + (1 : Int32))) &&& (255 : Int32)) <<< ((16 : Int32) &&& 31))) ||| (((atv cB (at1 + (2 : Int32))) &&& (255 : Int32)) <<< ((8 : Int32) &&& 31))) ||| ((atv cB (at1 + (3 : Int32))) &&& (255 : Int32))))] [(.int at1), (.ref bA), (.ref wf)])) rfl (by rw [hml]; rfl) (Steps.refl _) (argsL := [(.ref bA), (.int at1)]) (rest := []) (lenOf own_pd0 rfl) rfl (by show 2 * 0 + _ ≤ _; exact Nat.le_of_eq rfl) (hb hby at_401) (fun _ _ => ⟨rfl, eq4, (by decide : 1 + 0 ≤ _), (by decide : 8 + 0 ≤ _)⟩)
  dsimp only [Pt.U, Pt.locs, Pt.cells, Pt.slots] at X5 l5 y5 z5 st5 hQ5
  subst l5 y5 z5
  obtain ⟨rfl, Nq5, eq5⟩ := hQ5
  have N5 := Fr.app N4 Nq5
  refine own_tr st5 ?_
  show own_G p.tables e below _ (T5.setTop (mkF m 404 #[.val (.long q1), .second, .val (.int p2), .val (.int p3), .val (.ref bA), .val (.int kk1), .val (.ref wf), .val (.int (4 : Int32)), .val (.int (0 : Int32)), .val (.int at1), .val (.int ((((((atv cB at1) &&& (255 : Int32)) <<< ((24 : Int32) &&& 31)) ||| (((atv cB (at1 + (1 : Int32))) &&& (255 : Int32)) <<< ((16 : Int32) &&& 31))) ||| (((atv cB (at1 + (2 : Int32))) &&& (255 : Int32)) <<< ((8 : Int32) &&& 31))) ||| ((atv cB (at1 + (3 : Int32))) &&& (255 : Int32))))] [(.int ((((((((0 : Int32) ||| ((atv cB at1) &&& (255 : Int32))) <<< ((8 : Int32) &&& 31)) ||| ((atv cB (at1 + (1 : Int32))) &&& (255 : Int32))) <<< ((8 : Int32) &&& 31)) ||| ((atv cB (at1 + (2 : Int32))) &&& (255 : Int32))) <<< ((8 : Int32) &&& 31)) ||| ((atv cB (at1 + (3 : Int32))) &&& (255 : Int32))))]))
  refine own_st (fun _ kS => XS.iload X5.here hx rfl (hb hby at_404) rfl kS) ?_
  show own_G p.tables e below _ (T5.setTop (mkF m 406 #[.val (.long q1), .second, .val (.int p2), .val (.int p3), .val (.ref bA), .val (.int kk1), .val (.ref wf), .val (.int (4 : Int32)), .val (.int (0 : Int32)), .val (.int at1), .val (.int ((((((atv cB at1) &&& (255 : Int32)) <<< ((24 : Int32) &&& 31)) ||| (((atv cB (at1 + (1 : Int32))) &&& (255 : Int32)) <<< ((16 : Int32) &&& 31))) ||| (((atv cB (at1 + (2 : Int32))) &&& (255 : Int32)) <<< ((8 : Int32) &&& 31))) ||| ((atv cB (at1 + (3 : Int32))) &&& (255 : Int32))))] [(.int ((((((atv cB at1) &&& (255 : Int32)) <<< ((24 : Int32) &&& 31)) ||| (((atv cB (at1 + (1 : Int32))) &&& (255 : Int32)) <<< ((16 : Int32) &&& 31))) ||| (((atv cB (at1 + (2 : Int32))) &&& (255 : Int32)) <<< ((8 : Int32) &&& 31))) ||| ((atv cB (at1 + (3 : Int32))) &&& (255 : Int32)))), (.int ((((((((0 : Int32) ||| ((atv cB at1) &&& (255 : Int32))) <<< ((8 : Int32) &&& 31)) ||| ((atv cB (at1 + (1 : Int32))) &&& (255 : Int32))) <<< ((8 : Int32) &&& 31)) ||| ((atv cB (at1 + (2 : Int32))) &&& (255 : Int32))) <<< ((8 : Int32) &&& 31)) ||| ((atv cB (at1 + (3 : Int32))) &&& (255 : Int32))))]))
  refine own_st (fun _ kS => XS.icmpNo X5.here hx rfl (hb hby at_406) rfl (teq (own_eq4 _ _ _ _ : ((((((((0 : Int32) ||| ((atv cB at1) &&& (255 : Int32))) <<< ((8 : Int32) &&& 31)) ||| ((atv cB (at1 + (1 : Int32))) &&& (255 : Int32))) <<< ((8 : Int32) &&& 31)) ||| ((atv cB (at1 + (2 : Int32))) &&& (255 : Int32))) <<< ((8 : Int32) &&& 31)) ||| ((atv cB (at1 + (3 : Int32))) &&& (255 : Int32))) = ((((((atv cB at1) &&& (255 : Int32)) <<< ((24 : Int32) &&& 31)) ||| (((atv cB (at1 + (1 : Int32))) &&& (255 : Int32)) <<< ((16 : Int32) &&& 31))) ||| (((atv cB (at1 + (2 : Int32))) &&& (255 : Int32)) <<< ((8 : Int32) &&& 31))) ||| ((atv cB (at1 + (3 : Int32))) &&& (255 : Int32))))).2 kS) ?_
  show own_G p.tables e below _ (T5.setTop (mkF m 409 #[.val (.long q1), .second, .val (.int p2), .val (.int p3), .val (.ref bA), .val (.int kk1), .val (.ref wf), .val (.int (4 : Int32)), .val (.int (0 : Int32)), .val (.int at1), .val (.int ((((((atv cB at1) &&& (255 : Int32)) <<< ((24 : Int32) &&& 31)) ||| (((atv cB (at1 + (1 : Int32))) &&& (255 : Int32)) <<< ((16 : Int32) &&& 31))) ||| (((atv cB (at1 + (2 : Int32))) &&& (255 : Int32)) <<< ((8 : Int32) &&& 31))) ||| ((atv cB (at1 + (3 : Int32))) &&& (255 : Int32))))] []))
  refine own_st (fun _ kS => XS.iconst X5.here hx rfl (hb hby at_409) kS) ?_
  show own_G p.tables e below _ (T5.setTop (mkF m 410 #[.val (.long q1), .second, .val (.int p2), .val (.int p3), .val (.ref bA), .val (.int kk1), .val (.ref wf), .val (.int (4 : Int32)), .val (.int (0 : Int32)), .val (.int at1), .val (.int ((((((atv cB at1) &&& (255 : Int32)) <<< ((24 : Int32) &&& 31)) ||| (((atv cB (at1 + (1 : Int32))) &&& (255 : Int32)) <<< ((16 : Int32) &&& 31))) ||| (((atv cB (at1 + (2 : Int32))) &&& (255 : Int32)) <<< ((8 : Int32) &&& 31))) ||| ((atv cB (at1 + (3 : Int32))) &&& (255 : Int32))))] [(.int (1 : Int32))]))
  refine own_st (fun _ kS => XS.goto X5.here hx rfl (pc0 := 410) (pc' := 414) rfl (hb hby at_410) (by decide) (by decide) kS) ?_
  show own_G p.tables e below _ (T5.setTop (mkF m 414 #[.val (.long q1), .second, .val (.int p2), .val (.int p3), .val (.ref bA), .val (.int kk1), .val (.ref wf), .val (.int (4 : Int32)), .val (.int (0 : Int32)), .val (.int at1), .val (.int ((((((atv cB at1) &&& (255 : Int32)) <<< ((24 : Int32) &&& 31)) ||| (((atv cB (at1 + (1 : Int32))) &&& (255 : Int32)) <<< ((16 : Int32) &&& 31))) ||| (((atv cB (at1 + (2 : Int32))) &&& (255 : Int32)) <<< ((8 : Int32) &&& 31))) ||| ((atv cB (at1 + (3 : Int32))) &&& (255 : Int32))))] [(.int (1 : Int32))]))
  exact own_retN X5 hx hlk (t := .boolean) hret (by simp) (hb hby at_414) (by decide) (by decide) (v' := (1 : Int32)) rfl (by rw [eq5]; exact ⟨rfl, N5⟩)
set_option maxRecDepth 65536 in
set_option maxHeartbeats 40000000 in
theorem sg_S_4_1 {p : Program} {l : Launch} {e : Env} {s : State} {m : MethodId} {args : Array Value} {below : List Frame} {meth : Method} {c : Code} {T0 : State} {locs : List Loc} {Z : State} {a0 : Array Value} {h0 : Heap} {n0 : Nat} (hx : p.tables.exec = Jvm.exec) (hby : c.code = code) (hml : c.maxLocals = 11) (hown : s.vm.findClass "com/example/provenir/provenir/TextEncodingUnitAtPinLaw" = some m.cls) (hlk : meth.locks = false) (hret : meth.sig.returnType = some .boolean) (hZ : Z.Warmed39 s.vm) (hw : ∀ d ∈ tables_1, d.before a0 Z = true) (Z0 : n0 ≤ h0.size)
    (X0 : Stand p l e room_1 s m args below meth c T0 locs 1 8) (e0 : T0.heap = h0) (N0 : Fr n0 locs) (O0 : Old Z n0 h0) (q1 : Int64) (p2 : Int32) (p3 : Int32) (bA : Addr) (kk1 : Int32) (wf : Addr) (cB : Cell) (Tb : Tab Z h0 bA cB .byte (8 : Int32)) (Ef : Exa Z Z.heap wf "com/example/provenir/provenir/TextEncoding") (Fw : Fld Z Z.heap wf "com/example/provenir/provenir/TextEncoding" "width" "I" (.int (4 : Int32))) (Fl : Fld Z Z.heap wf "com/example/provenir/provenir/TextEncoding" "littleEndian" "Z" (.int (1 : Int32))) :
    own_G p.tables e below (own_E s (Q_law n0) room_1.cells room_1.slots) (T0.setTop (mkF m 204 #[.val (.long q1), .second, .val (.int p2), .val (.int p3), .val (.ref bA), .val (.int kk1), .val (.ref wf), .val (.int (4 : Int32)), .val (.int (1 : Int32)), .unset, .unset] [])) := by
  show own_G p.tables e below _ (T0.setTop (mkF m 204 #[.val (.long q1), .second, .val (.int p2), .val (.int p3), .val (.ref bA), .val (.int kk1), .val (.ref wf), .val (.int (4 : Int32)), .val (.int (1 : Int32)), .unset, .unset] []))
  refine own_st (fun _ kS => XS.iloadN X0.here hx rfl (hb hby at_204) rfl kS) ?_
  show own_G p.tables e below _ (T0.setTop (mkF m 205 #[.val (.long q1), .second, .val (.int p2), .val (.int p3), .val (.ref bA), .val (.int kk1), .val (.ref wf), .val (.int (4 : Int32)), .val (.int (1 : Int32)), .unset, .unset] [(.int p3)]))
  refine own_st (fun _ kS => X0.ldcInt hx hown (mvT hZ (hw _ (List.mem_of_getElem? (i := 1) rfl))) (g := (mkF m 205 #[.val (.long q1), .second, .val (.int p2), .val (.int p3), .val (.ref bA), .val (.int kk1), .val (.ref wf), .val (.int (4 : Int32)), .val (.int (1 : Int32)), .unset, .unset] [(.int p3)])) rfl (hb hby at_205) _ kS) ?_
  show own_G p.tables e below _ (T0.setTop (mkF m 207 #[.val (.long q1), .second, .val (.int p2), .val (.int p3), .val (.ref bA), .val (.int kk1), .val (.ref wf), .val (.int (4 : Int32)), .val (.int (1 : Int32)), .unset, .unset] [(.int (2147483647 : Int32)), (.int p3)]))
  refine own_st (fun _ kS => XS.iand X0.here hx rfl (hb hby at_207) rfl kS) ?_
  show own_G p.tables e below _ (T0.setTop (mkF m 208 #[.val (.long q1), .second, .val (.int p2), .val (.int p3), .val (.ref bA), .val (.int kk1), .val (.ref wf), .val (.int (4 : Int32)), .val (.int (1 : Int32)), .unset, .unset] [(.int (p3 &&& (2147483647 : Int32)))]))
  refine own_st (fun _ kS => XS.bipush X0.here hx rfl (hb hby at_208) kS) ?_
  show own_G p.tables e below _ (T0.setTop (mkF m 210 #[.val (.long q1), .second, .val (.int p2), .val (.int p3), .val (.ref bA), .val (.int kk1), .val (.ref wf), .val (.int (4 : Int32)), .val (.int (1 : Int32)), .unset, .unset] [(.int (9 : Int32)), (.int (p3 &&& (2147483647 : Int32)))]))
  refine own_st (fun _ kS => XS.iload X0.here hx rfl (hb hby at_210) rfl kS) ?_
  show own_G p.tables e below _ (T0.setTop (mkF m 212 #[.val (.long q1), .second, .val (.int p2), .val (.int p3), .val (.ref bA), .val (.int kk1), .val (.ref wf), .val (.int (4 : Int32)), .val (.int (1 : Int32)), .unset, .unset] [(.int (4 : Int32)), (.int (9 : Int32)), (.int (p3 &&& (2147483647 : Int32)))]))
  refine own_st (fun _ kS => XS.isub X0.here hx rfl (hb hby at_212) rfl kS) ?_
  show own_G p.tables e below _ (T0.setTop (mkF m 213 #[.val (.long q1), .second, .val (.int p2), .val (.int p3), .val (.ref bA), .val (.int kk1), .val (.ref wf), .val (.int (4 : Int32)), .val (.int (1 : Int32)), .unset, .unset] [(.int (5 : Int32)), (.int (p3 &&& (2147483647 : Int32)))]))
  refine own_st (fun _ kS => iremM (g := (mkF m 213 #[.val (.long q1), .second, .val (.int p2), .val (.int p3), .val (.ref bA), .val (.int kk1), .val (.ref wf), .val (.int (4 : Int32)), .val (.int (1 : Int32)), .unset, .unset] [(.int (5 : Int32)), (.int (p3 &&& (2147483647 : Int32)))])) X0 hx rfl (hb hby at_213) rfl (by decide) kS) ?_
  show own_G p.tables e below _ (T0.setTop (mkF m 214 #[.val (.long q1), .second, .val (.int p2), .val (.int p3), .val (.ref bA), .val (.int kk1), .val (.ref wf), .val (.int (4 : Int32)), .val (.int (1 : Int32)), .unset, .unset] [(.int ((p3 &&& (2147483647 : Int32)) % (5 : Int32)))]))
  obtain ⟨at1, hat⟩ : ∃ z, z = ((p3 &&& (2147483647 : Int32)) % (5 : Int32)) := ⟨_, rfl⟩
  have hbn : 0 ≤ at1.toInt ∧ at1.toInt < 5 := by rw [hat]; exact ⟨(own_mod p3 5 5 (by decide) (by decide)).1, (own_mod p3 5 5 (by decide) (by decide)).2.1⟩
  rw [← hat]
  show own_G p.tables e below _ (T0.setTop (mkF m 214 #[.val (.long q1), .second, .val (.int p2), .val (.int p3), .val (.ref bA), .val (.int kk1), .val (.ref wf), .val (.int (4 : Int32)), .val (.int (1 : Int32)), .unset, .unset] [(.int at1)]))
  refine own_st (fun _ kS => XS.istore X0.here hx rfl (hb hby at_214) rfl (l' := #[.val (.long q1), .second, .val (.int p2), .val (.int p3), .val (.ref bA), .val (.int kk1), .val (.ref wf), .val (.int (4 : Int32)), .val (.int (1 : Int32)), .val (.int at1), .unset]) rfl kS) ?_
  show own_G p.tables e below _ (T0.setTop (mkF m 216 #[.val (.long q1), .second, .val (.int p2), .val (.int p3), .val (.ref bA), .val (.int kk1), .val (.ref wf), .val (.int (4 : Int32)), .val (.int (1 : Int32)), .val (.int at1), .unset] []))
  refine own_st (fun _ kS => XS.iload X0.here hx rfl (hb hby at_216) rfl kS) ?_
  show own_G p.tables e below _ (T0.setTop (mkF m 218 #[.val (.long q1), .second, .val (.int p2), .val (.int p3), .val (.ref bA), .val (.int kk1), .val (.ref wf), .val (.int (4 : Int32)), .val (.int (1 : Int32)), .val (.int at1), .unset] [(.int (4 : Int32))]))
  refine own_st (fun _ kS => XS.iconst X0.here hx rfl (hb hby at_218) kS) ?_
  show own_G p.tables e below _ (T0.setTop (mkF m 219 #[.val (.long q1), .second, .val (.int p2), .val (.int p3), .val (.ref bA), .val (.int kk1), .val (.ref wf), .val (.int (4 : Int32)), .val (.int (1 : Int32)), .val (.int at1), .unset] [(.int (1 : Int32)), (.int (4 : Int32))]))
  refine own_st (fun _ kS => XS.icmpYes X0.here hx rfl (pc0 := 219) (pc' := 234) rfl (hb hby at_219) rfl (feq (by decide : ¬ ((4 : Int32) = (1 : Int32)))).2 (by decide) (by decide) kS) ?_
  show own_G p.tables e below _ (T0.setTop (mkF m 234 #[.val (.long q1), .second, .val (.int p2), .val (.int p3), .val (.ref bA), .val (.int kk1), .val (.ref wf), .val (.int (4 : Int32)), .val (.int (1 : Int32)), .val (.int at1), .unset] []))
  refine own_st (fun _ kS => XS.iload X0.here hx rfl (hb hby at_234) rfl kS) ?_
  show own_G p.tables e below _ (T0.setTop (mkF m 236 #[.val (.long q1), .second, .val (.int p2), .val (.int p3), .val (.ref bA), .val (.int kk1), .val (.ref wf), .val (.int (4 : Int32)), .val (.int (1 : Int32)), .val (.int at1), .unset] [(.int (4 : Int32))]))
  refine own_st (fun _ kS => XS.iconst X0.here hx rfl (hb hby at_236) kS) ?_
  show own_G p.tables e below _ (T0.setTop (mkF m 237 #[.val (.long q1), .second, .val (.int p2), .val (.int p3), .val (.ref bA), .val (.int kk1), .val (.ref wf), .val (.int (4 : Int32)), .val (.int (1 : Int32)), .val (.int at1), .unset] [(.int (2 : Int32)), (.int (4 : Int32))]))
  refine own_st (fun _ kS => XS.icmpYes X0.here hx rfl (pc0 := 237) (pc' := 293) rfl (hb hby at_237) rfl (feq (by decide : ¬ ((4 : Int32) = (2 : Int32)))).2 (by decide) (by decide) kS) ?_
  show own_G p.tables e below _ (T0.setTop (mkF m 293 #[.val (.long q1), .second, .val (.int p2), .val (.int p3), .val (.ref bA), .val (.int kk1), .val (.ref wf), .val (.int (4 : Int32)), .val (.int (1 : Int32)), .val (.int at1), .unset] []))
  refine own_st (fun _ kS => XS.iload X0.here hx rfl (hb hby at_293) rfl kS) ?_
  show own_G p.tables e below _ (T0.setTop (mkF m 295 #[.val (.long q1), .second, .val (.int p2), .val (.int p3), .val (.ref bA), .val (.int kk1), .val (.ref wf), .val (.int (4 : Int32)), .val (.int (1 : Int32)), .val (.int at1), .unset] [(.int (1 : Int32))]))
  refine own_st (fun _ kS => XS.ifNo X0.here hx rfl (hb hby at_295) rfl ((if0 _ _).trans (feq (by decide : ¬ ((1 : Int32) = (0 : Int32)))).1) kS) ?_
  show own_G p.tables e below _ (T0.setTop (mkF m 298 #[.val (.long q1), .second, .val (.int p2), .val (.int p3), .val (.ref bA), .val (.int kk1), .val (.ref wf), .val (.int (4 : Int32)), .val (.int (1 : Int32)), .val (.int at1), .unset] []))
  refine own_st (fun _ kS => XS.aload X0.here hx rfl (hb hby at_298) rfl rfl kS) ?_
  show own_G p.tables e below _ (T0.setTop (mkF m 300 #[.val (.long q1), .second, .val (.int p2), .val (.int p3), .val (.ref bA), .val (.int kk1), .val (.ref wf), .val (.int (4 : Int32)), .val (.int (1 : Int32)), .val (.int at1), .unset] [(.ref bA)]))
  refine own_st (fun _ kS => XS.iload X0.here hx rfl (hb hby at_300) rfl kS) ?_
  show own_G p.tables e below _ (T0.setTop (mkF m 302 #[.val (.long q1), .second, .val (.int p2), .val (.int p3), .val (.ref bA), .val (.int kk1), .val (.ref wf), .val (.int (4 : Int32)), .val (.int (1 : Int32)), .val (.int at1), .unset] [(.int at1), (.ref bA)]))
  refine own_st (fun _ kS => XS.iconst X0.here hx rfl (hb hby at_302) kS) ?_
  show own_G p.tables e below _ (T0.setTop (mkF m 303 #[.val (.long q1), .second, .val (.int p2), .val (.int p3), .val (.ref bA), .val (.int kk1), .val (.ref wf), .val (.int (4 : Int32)), .val (.int (1 : Int32)), .val (.int at1), .unset] [(.int (3 : Int32)), (.int at1), (.ref bA)]))
  refine own_st (fun _ kS => XS.iadd X0.here hx rfl (hb hby at_303) rfl kS) ?_
  show own_G p.tables e below _ (T0.setTop (mkF m 304 #[.val (.long q1), .second, .val (.int p2), .val (.int p3), .val (.ref bA), .val (.int kk1), .val (.ref wf), .val (.int (4 : Int32)), .val (.int (1 : Int32)), .val (.int at1), .unset] [(.int (at1 + (3 : Int32))), (.ref bA)]))
  obtain ⟨_, _, ⟨T1, L1, k1, n1⟩, -, X1, ⟨Lc1, hQ1, l1, y1, z1⟩, st1⟩ := Jvm.LawKit.callS X0 hx (y := (⟨"com/example/provenir/provenir/TextEncodingUnitAtPinLaw", "u", "([BI)I"⟩ : MethodName)) hown (mvT hZ (hw _ (List.mem_of_getElem? (i := 5) rfl))) (mvT hZ (hw _ (List.mem_of_getElem? (i := 6) rfl))) (mvT hZ (hw _ (List.mem_of_getElem? (i := 7) rfl))) (mvT hZ (hw _ (List.mem_of_getElem? (i := 8) rfl))) (by decide) (backOf (W := 0) (rm_u l Z a0 hw [] bA cB (at1 + (3 : Int32)) h0 n0 Z0  Tb (own_inb hbn 3 (by decide))) hZ (hw _ (List.mem_of_getElem? (i := 8) rfl)) (hw _ (List.mem_of_getElem? (i := 7) rfl)) (by decide) (by decide)) (g := (mkF m 304 #[.val (.long q1), .second, .val (.int p2), .val (.int p3), .val (.ref bA), .val (.int kk1), .val (.ref wf), .val (.int (4 : Int32)), .val (.int (1 : Int32)), .val (.int at1), .unset] [(.int (at1 + (3 : Int32))), (.ref bA)])) rfl (by rw [hml]; rfl) (argsL := [(.ref bA), (.int (at1 + (3 : Int32)))]) (rest := []) (lenOf own_pd0 rfl) rfl (by show 2 * 0 + _ ≤ _; exact Nat.le_of_eq rfl) (hb hby at_304) (fun _ _ => ⟨rfl, e0, (by decide : 1 + 0 ≤ _), (by decide : 8 + 0 ≤ _)⟩)
  dsimp only [Pt.U, Pt.locs, Pt.cells, Pt.slots] at X1 l1 y1 z1 st1 hQ1
  subst l1 y1 z1
  obtain ⟨rfl, Nq1, eq1⟩ := hQ1
  have N1 := Fr.app N0 Nq1
  refine own_st st1 ?_
  show own_G p.tables e below _ (T1.setTop (mkF m 307 #[.val (.long q1), .second, .val (.int p2), .val (.int p3), .val (.ref bA), .val (.int kk1), .val (.ref wf), .val (.int (4 : Int32)), .val (.int (1 : Int32)), .val (.int at1), .unset] [(.int ((atv cB (at1 + (3 : Int32))) &&& (255 : Int32)))]))
  refine own_st (fun _ kS => XS.bipush X1.here hx rfl (hb hby at_307) kS) ?_
  show own_G p.tables e below _ (T1.setTop (mkF m 309 #[.val (.long q1), .second, .val (.int p2), .val (.int p3), .val (.ref bA), .val (.int kk1), .val (.ref wf), .val (.int (4 : Int32)), .val (.int (1 : Int32)), .val (.int at1), .unset] [(.int (24 : Int32)), (.int ((atv cB (at1 + (3 : Int32))) &&& (255 : Int32)))]))
  refine own_st (fun _ kS => XT.ishl X1.here hx rfl (hb hby at_309) rfl kS) ?_
  show own_G p.tables e below _ (T1.setTop (mkF m 310 #[.val (.long q1), .second, .val (.int p2), .val (.int p3), .val (.ref bA), .val (.int kk1), .val (.ref wf), .val (.int (4 : Int32)), .val (.int (1 : Int32)), .val (.int at1), .unset] [(.int (((atv cB (at1 + (3 : Int32))) &&& (255 : Int32)) <<< ((24 : Int32) &&& 31)))]))
  refine own_st (fun _ kS => XS.aload X1.here hx rfl (hb hby at_310) rfl rfl kS) ?_
  show own_G p.tables e below _ (T1.setTop (mkF m 312 #[.val (.long q1), .second, .val (.int p2), .val (.int p3), .val (.ref bA), .val (.int kk1), .val (.ref wf), .val (.int (4 : Int32)), .val (.int (1 : Int32)), .val (.int at1), .unset] [(.ref bA), (.int (((atv cB (at1 + (3 : Int32))) &&& (255 : Int32)) <<< ((24 : Int32) &&& 31)))]))
  refine own_st (fun _ kS => XS.iload X1.here hx rfl (hb hby at_312) rfl kS) ?_
  show own_G p.tables e below _ (T1.setTop (mkF m 314 #[.val (.long q1), .second, .val (.int p2), .val (.int p3), .val (.ref bA), .val (.int kk1), .val (.ref wf), .val (.int (4 : Int32)), .val (.int (1 : Int32)), .val (.int at1), .unset] [(.int at1), (.ref bA), (.int (((atv cB (at1 + (3 : Int32))) &&& (255 : Int32)) <<< ((24 : Int32) &&& 31)))]))
  refine own_st (fun _ kS => XS.iconst X1.here hx rfl (hb hby at_314) kS) ?_
  show own_G p.tables e below _ (T1.setTop (mkF m 315 #[.val (.long q1), .second, .val (.int p2), .val (.int p3), .val (.ref bA), .val (.int kk1), .val (.ref wf), .val (.int (4 : Int32)), .val (.int (1 : Int32)), .val (.int at1), .unset] [(.int (2 : Int32)), (.int at1), (.ref bA), (.int (((atv cB (at1 + (3 : Int32))) &&& (255 : Int32)) <<< ((24 : Int32) &&& 31)))]))
  refine own_st (fun _ kS => XS.iadd X1.here hx rfl (hb hby at_315) rfl kS) ?_
  show own_G p.tables e below _ (T1.setTop (mkF m 316 #[.val (.long q1), .second, .val (.int p2), .val (.int p3), .val (.ref bA), .val (.int kk1), .val (.ref wf), .val (.int (4 : Int32)), .val (.int (1 : Int32)), .val (.int at1), .unset] [(.int (at1 + (2 : Int32))), (.ref bA), (.int (((atv cB (at1 + (3 : Int32))) &&& (255 : Int32)) <<< ((24 : Int32) &&& 31)))]))
  obtain ⟨_, _, ⟨T2, L2, k2, n2⟩, -, X2, ⟨Lc2, hQ2, l2, y2, z2⟩, st2⟩ := Jvm.LawKit.callS X1 hx (y := (⟨"com/example/provenir/provenir/TextEncodingUnitAtPinLaw", "u", "([BI)I"⟩ : MethodName)) hown (mvT hZ (hw _ (List.mem_of_getElem? (i := 5) rfl))) (mvT hZ (hw _ (List.mem_of_getElem? (i := 6) rfl))) (mvT hZ (hw _ (List.mem_of_getElem? (i := 7) rfl))) (mvT hZ (hw _ (List.mem_of_getElem? (i := 8) rfl))) (by decide) (backOf (W := 1) (rm_u l Z a0 hw [] bA cB (at1 + (2 : Int32)) h0 n0 Z0  Tb (own_inb hbn 2 (by decide))) hZ (hw _ (List.mem_of_getElem? (i := 8) rfl)) (hw _ (List.mem_of_getElem? (i := 7) rfl)) (by decide) (by decide)) (g := (mkF m 316 #[.val (.long q1), .second, .val (.int p2), .val (.int p3), .val (.ref bA), .val (.int kk1), .val (.ref wf), .val (.int (4 : Int32)), .val (.int (1 : Int32)), .val (.int at1), .unset] [(.int (at1 + (2 : Int32))), (.ref bA), (.int (((atv cB (at1 + (3 : Int32))) &&& (255 : Int32)) <<< ((24 : Int32) &&& 31)))])) rfl (by rw [hml]; rfl) (argsL := [(.ref bA), (.int (at1 + (2 : Int32)))]) (rest := [(.int (((atv cB (at1 + (3 : Int32))) &&& (255 : Int32)) <<< ((24 : Int32) &&& 31)))]) (lenOf own_pd0 rfl) rfl (by show 2 * 0 + _ ≤ _; exact Nat.le_of_eq rfl) (hb hby at_316) (fun _ _ => ⟨rfl, eq1, (by decide : 1 + 0 ≤ _), (by decide : 8 + 0 ≤ _)⟩)
  dsimp only [Pt.U, Pt.locs, Pt.cells, Pt.slots] at X2 l2 y2 z2 st2 hQ2
  subst l2 y2 z2
  obtain ⟨rfl, Nq2, eq2⟩ := hQ2
  have N2 := Fr.app N1 Nq2
  refine own_st st2 ?_
  show own_G p.tables e below _ (T2.setTop (mkF m 319 #[.val (.long q1), .second, .val (.int p2), .val (.int p3), .val (.ref bA), .val (.int kk1), .val (.ref wf), .val (.int (4 : Int32)), .val (.int (1 : Int32)), .val (.int at1), .unset] [(.int ((atv cB (at1 + (2 : Int32))) &&& (255 : Int32))), (.int (((atv cB (at1 + (3 : Int32))) &&& (255 : Int32)) <<< ((24 : Int32) &&& 31)))]))
  refine own_st (fun _ kS => XS.bipush X2.here hx rfl (hb hby at_319) kS) ?_
  show own_G p.tables e below _ (T2.setTop (mkF m 321 #[.val (.long q1), .second, .val (.int p2), .val (.int p3), .val (.ref bA), .val (.int kk1), .val (.ref wf), .val (.int (4 : Int32)), .val (.int (1 : Int32)), .val (.int at1), .unset] [(.int (16 : Int32)), (.int ((atv cB (at1 + (2 : Int32))) &&& (255 : Int32))), (.int (((atv cB (at1 + (3 : Int32))) &&& (255 : Int32)) <<< ((24 : Int32) &&& 31)))]))
  refine own_st (fun _ kS => XT.ishl X2.here hx rfl (hb hby at_321) rfl kS) ?_
  show own_G p.tables e below _ (T2.setTop (mkF m 322 #[.val (.long q1), .second, .val (.int p2), .val (.int p3), .val (.ref bA), .val (.int kk1), .val (.ref wf), .val (.int (4 : Int32)), .val (.int (1 : Int32)), .val (.int at1), .unset] [(.int (((atv cB (at1 + (2 : Int32))) &&& (255 : Int32)) <<< ((16 : Int32) &&& 31))), (.int (((atv cB (at1 + (3 : Int32))) &&& (255 : Int32)) <<< ((24 : Int32) &&& 31)))]))
  refine own_st (fun _ kS => XT.ior X2.here hx rfl (hb hby at_322) rfl kS) ?_
  show own_G p.tables e below _ (T2.setTop (mkF m 323 #[.val (.long q1), .second, .val (.int p2), .val (.int p3), .val (.ref bA), .val (.int kk1), .val (.ref wf), .val (.int (4 : Int32)), .val (.int (1 : Int32)), .val (.int at1), .unset] [(.int ((((atv cB (at1 + (3 : Int32))) &&& (255 : Int32)) <<< ((24 : Int32) &&& 31)) ||| (((atv cB (at1 + (2 : Int32))) &&& (255 : Int32)) <<< ((16 : Int32) &&& 31))))]))
  refine own_st (fun _ kS => XS.aload X2.here hx rfl (hb hby at_323) rfl rfl kS) ?_
  show own_G p.tables e below _ (T2.setTop (mkF m 325 #[.val (.long q1), .second, .val (.int p2), .val (.int p3), .val (.ref bA), .val (.int kk1), .val (.ref wf), .val (.int (4 : Int32)), .val (.int (1 : Int32)), .val (.int at1), .unset] [(.ref bA), (.int ((((atv cB (at1 + (3 : Int32))) &&& (255 : Int32)) <<< ((24 : Int32) &&& 31)) ||| (((atv cB (at1 + (2 : Int32))) &&& (255 : Int32)) <<< ((16 : Int32) &&& 31))))]))
  refine own_st (fun _ kS => XS.iload X2.here hx rfl (hb hby at_325) rfl kS) ?_
  show own_G p.tables e below _ (T2.setTop (mkF m 327 #[.val (.long q1), .second, .val (.int p2), .val (.int p3), .val (.ref bA), .val (.int kk1), .val (.ref wf), .val (.int (4 : Int32)), .val (.int (1 : Int32)), .val (.int at1), .unset] [(.int at1), (.ref bA), (.int ((((atv cB (at1 + (3 : Int32))) &&& (255 : Int32)) <<< ((24 : Int32) &&& 31)) ||| (((atv cB (at1 + (2 : Int32))) &&& (255 : Int32)) <<< ((16 : Int32) &&& 31))))]))
  refine own_st (fun _ kS => XS.iconst X2.here hx rfl (hb hby at_327) kS) ?_
  show own_G p.tables e below _ (T2.setTop (mkF m 328 #[.val (.long q1), .second, .val (.int p2), .val (.int p3), .val (.ref bA), .val (.int kk1), .val (.ref wf), .val (.int (4 : Int32)), .val (.int (1 : Int32)), .val (.int at1), .unset] [(.int (1 : Int32)), (.int at1), (.ref bA), (.int ((((atv cB (at1 + (3 : Int32))) &&& (255 : Int32)) <<< ((24 : Int32) &&& 31)) ||| (((atv cB (at1 + (2 : Int32))) &&& (255 : Int32)) <<< ((16 : Int32) &&& 31))))]))
  refine own_st (fun _ kS => XS.iadd X2.here hx rfl (hb hby at_328) rfl kS) ?_
  show own_G p.tables e below _ (T2.setTop (mkF m 329 #[.val (.long q1), .second, .val (.int p2), .val (.int p3), .val (.ref bA), .val (.int kk1), .val (.ref wf), .val (.int (4 : Int32)), .val (.int (1 : Int32)), .val (.int at1), .unset] [(.int (at1 + (1 : Int32))), (.ref bA), (.int ((((atv cB (at1 + (3 : Int32))) &&& (255 : Int32)) <<< ((24 : Int32) &&& 31)) ||| (((atv cB (at1 + (2 : Int32))) &&& (255 : Int32)) <<< ((16 : Int32) &&& 31))))]))
  obtain ⟨_, _, ⟨T3, L3, k3, n3⟩, -, X3, ⟨Lc3, hQ3, l3, y3, z3⟩, st3⟩ := Jvm.LawKit.callS X2 hx (y := (⟨"com/example/provenir/provenir/TextEncodingUnitAtPinLaw", "u", "([BI)I"⟩ : MethodName)) hown (mvT hZ (hw _ (List.mem_of_getElem? (i := 5) rfl))) (mvT hZ (hw _ (List.mem_of_getElem? (i := 6) rfl))) (mvT hZ (hw _ (List.mem_of_getElem? (i := 7) rfl))) (mvT hZ (hw _ (List.mem_of_getElem? (i := 8) rfl))) (by decide) (backOf (W := 1) (rm_u l Z a0 hw [] bA cB (at1 + (1 : Int32)) h0 n0 Z0  Tb (own_inb hbn 1 (by decide))) hZ (hw _ (List.mem_of_getElem? (i := 8) rfl)) (hw _ (List.mem_of_getElem? (i := 7) rfl)) (by decide) (by decide)) (g := (mkF m 329 #[.val (.long q1), .second, .val (.int p2), .val (.int p3), .val (.ref bA), .val (.int kk1), .val (.ref wf), .val (.int (4 : Int32)), .val (.int (1 : Int32)), .val (.int at1), .unset] [(.int (at1 + (1 : Int32))), (.ref bA), (.int ((((atv cB (at1 + (3 : Int32))) &&& (255 : Int32)) <<< ((24 : Int32) &&& 31)) ||| (((atv cB (at1 + (2 : Int32))) &&& (255 : Int32)) <<< ((16 : Int32) &&& 31))))])) rfl (by rw [hml]; rfl) (argsL := [(.ref bA), (.int (at1 + (1 : Int32)))]) (rest := [(.int ((((atv cB (at1 + (3 : Int32))) &&& (255 : Int32)) <<< ((24 : Int32) &&& 31)) ||| (((atv cB (at1 + (2 : Int32))) &&& (255 : Int32)) <<< ((16 : Int32) &&& 31))))]) (lenOf own_pd0 rfl) rfl (by show 2 * 0 + _ ≤ _; exact Nat.le_of_eq rfl) (hb hby at_329) (fun _ _ => ⟨rfl, eq2, (by decide : 1 + 0 ≤ _), (by decide : 8 + 0 ≤ _)⟩)
  dsimp only [Pt.U, Pt.locs, Pt.cells, Pt.slots] at X3 l3 y3 z3 st3 hQ3
  subst l3 y3 z3
  obtain ⟨rfl, Nq3, eq3⟩ := hQ3
  have N3 := Fr.app N2 Nq3
  refine own_st st3 ?_
  show own_G p.tables e below _ (T3.setTop (mkF m 332 #[.val (.long q1), .second, .val (.int p2), .val (.int p3), .val (.ref bA), .val (.int kk1), .val (.ref wf), .val (.int (4 : Int32)), .val (.int (1 : Int32)), .val (.int at1), .unset] [(.int ((atv cB (at1 + (1 : Int32))) &&& (255 : Int32))), (.int ((((atv cB (at1 + (3 : Int32))) &&& (255 : Int32)) <<< ((24 : Int32) &&& 31)) ||| (((atv cB (at1 + (2 : Int32))) &&& (255 : Int32)) <<< ((16 : Int32) &&& 31))))]))
  refine own_st (fun _ kS => XS.bipush X3.here hx rfl (hb hby at_332) kS) ?_
  show own_G p.tables e below _ (T3.setTop (mkF m 334 #[.val (.long q1), .second, .val (.int p2), .val (.int p3), .val (.ref bA), .val (.int kk1), .val (.ref wf), .val (.int (4 : Int32)), .val (.int (1 : Int32)), .val (.int at1), .unset] [(.int (8 : Int32)), (.int ((atv cB (at1 + (1 : Int32))) &&& (255 : Int32))), (.int ((((atv cB (at1 + (3 : Int32))) &&& (255 : Int32)) <<< ((24 : Int32) &&& 31)) ||| (((atv cB (at1 + (2 : Int32))) &&& (255 : Int32)) <<< ((16 : Int32) &&& 31))))]))
  refine own_st (fun _ kS => XT.ishl X3.here hx rfl (hb hby at_334) rfl kS) ?_
  show own_G p.tables e below _ (T3.setTop (mkF m 335 #[.val (.long q1), .second, .val (.int p2), .val (.int p3), .val (.ref bA), .val (.int kk1), .val (.ref wf), .val (.int (4 : Int32)), .val (.int (1 : Int32)), .val (.int at1), .unset] [(.int (((atv cB (at1 + (1 : Int32))) &&& (255 : Int32)) <<< ((8 : Int32) &&& 31))), (.int ((((atv cB (at1 + (3 : Int32))) &&& (255 : Int32)) <<< ((24 : Int32) &&& 31)) ||| (((atv cB (at1 + (2 : Int32))) &&& (255 : Int32)) <<< ((16 : Int32) &&& 31))))]))
  refine own_st (fun _ kS => XT.ior X3.here hx rfl (hb hby at_335) rfl kS) ?_
  show own_G p.tables e below _ (T3.setTop (mkF m 336 #[.val (.long q1), .second, .val (.int p2), .val (.int p3), .val (.ref bA), .val (.int kk1), .val (.ref wf), .val (.int (4 : Int32)), .val (.int (1 : Int32)), .val (.int at1), .unset] [(.int (((((atv cB (at1 + (3 : Int32))) &&& (255 : Int32)) <<< ((24 : Int32) &&& 31)) ||| (((atv cB (at1 + (2 : Int32))) &&& (255 : Int32)) <<< ((16 : Int32) &&& 31))) ||| (((atv cB (at1 + (1 : Int32))) &&& (255 : Int32)) <<< ((8 : Int32) &&& 31))))]))
  refine own_st (fun _ kS => XS.aload X3.here hx rfl (hb hby at_336) rfl rfl kS) ?_
  show own_G p.tables e below _ (T3.setTop (mkF m 338 #[.val (.long q1), .second, .val (.int p2), .val (.int p3), .val (.ref bA), .val (.int kk1), .val (.ref wf), .val (.int (4 : Int32)), .val (.int (1 : Int32)), .val (.int at1), .unset] [(.ref bA), (.int (((((atv cB (at1 + (3 : Int32))) &&& (255 : Int32)) <<< ((24 : Int32) &&& 31)) ||| (((atv cB (at1 + (2 : Int32))) &&& (255 : Int32)) <<< ((16 : Int32) &&& 31))) ||| (((atv cB (at1 + (1 : Int32))) &&& (255 : Int32)) <<< ((8 : Int32) &&& 31))))]))
  refine own_st (fun _ kS => XS.iload X3.here hx rfl (hb hby at_338) rfl kS) ?_
  show own_G p.tables e below _ (T3.setTop (mkF m 340 #[.val (.long q1), .second, .val (.int p2), .val (.int p3), .val (.ref bA), .val (.int kk1), .val (.ref wf), .val (.int (4 : Int32)), .val (.int (1 : Int32)), .val (.int at1), .unset] [(.int at1), (.ref bA), (.int (((((atv cB (at1 + (3 : Int32))) &&& (255 : Int32)) <<< ((24 : Int32) &&& 31)) ||| (((atv cB (at1 + (2 : Int32))) &&& (255 : Int32)) <<< ((16 : Int32) &&& 31))) ||| (((atv cB (at1 + (1 : Int32))) &&& (255 : Int32)) <<< ((8 : Int32) &&& 31))))]))
  obtain ⟨_, _, ⟨T4, L4, k4, n4⟩, -, X4, ⟨Lc4, hQ4, l4, y4, z4⟩, st4⟩ := Jvm.LawKit.callS X3 hx (y := (⟨"com/example/provenir/provenir/TextEncodingUnitAtPinLaw", "u", "([BI)I"⟩ : MethodName)) hown (mvT hZ (hw _ (List.mem_of_getElem? (i := 5) rfl))) (mvT hZ (hw _ (List.mem_of_getElem? (i := 6) rfl))) (mvT hZ (hw _ (List.mem_of_getElem? (i := 7) rfl))) (mvT hZ (hw _ (List.mem_of_getElem? (i := 8) rfl))) (by decide) (backOf (W := 1) (rm_u l Z a0 hw [] bA cB at1 h0 n0 Z0  Tb (own_inb0 hbn (by decide))) hZ (hw _ (List.mem_of_getElem? (i := 8) rfl)) (hw _ (List.mem_of_getElem? (i := 7) rfl)) (by decide) (by decide)) (g := (mkF m 340 #[.val (.long q1), .second, .val (.int p2), .val (.int p3), .val (.ref bA), .val (.int kk1), .val (.ref wf), .val (.int (4 : Int32)), .val (.int (1 : Int32)), .val (.int at1), .unset] [(.int at1), (.ref bA), (.int (((((atv cB (at1 + (3 : Int32))) &&& (255 : Int32)) <<< ((24 : Int32) &&& 31)) ||| (((atv cB (at1 + (2 : Int32))) &&& (255 : Int32)) <<< ((16 : Int32) &&& 31))) ||| (((atv cB (at1 + (1 : Int32))) &&& (255 : Int32)) <<< ((8 : Int32) &&& 31))))])) rfl (by rw [hml]; rfl) (argsL := [(.ref bA), (.int at1)]) (rest := [(.int (((((atv cB (at1 + (3 : Int32))) &&& (255 : Int32)) <<< ((24 : Int32) &&& 31)) ||| (((atv cB (at1 + (2 : Int32))) &&& (255 : Int32)) <<< ((16 : Int32) &&& 31))) ||| (((atv cB (at1 + (1 : Int32))) &&& (255 : Int32)) <<< ((8 : Int32) &&& 31))))]) (lenOf own_pd0 rfl) rfl (by show 2 * 0 + _ ≤ _; exact Nat.le_of_eq rfl) (hb hby at_340) (fun _ _ => ⟨rfl, eq3, (by decide : 1 + 0 ≤ _), (by decide : 8 + 0 ≤ _)⟩)
  dsimp only [Pt.U, Pt.locs, Pt.cells, Pt.slots] at X4 l4 y4 z4 st4 hQ4
  subst l4 y4 z4
  obtain ⟨rfl, Nq4, eq4⟩ := hQ4
  have N4 := Fr.app N3 Nq4
  refine own_st st4 ?_
  show own_G p.tables e below _ (T4.setTop (mkF m 343 #[.val (.long q1), .second, .val (.int p2), .val (.int p3), .val (.ref bA), .val (.int kk1), .val (.ref wf), .val (.int (4 : Int32)), .val (.int (1 : Int32)), .val (.int at1), .unset] [(.int ((atv cB at1) &&& (255 : Int32))), (.int (((((atv cB (at1 + (3 : Int32))) &&& (255 : Int32)) <<< ((24 : Int32) &&& 31)) ||| (((atv cB (at1 + (2 : Int32))) &&& (255 : Int32)) <<< ((16 : Int32) &&& 31))) ||| (((atv cB (at1 + (1 : Int32))) &&& (255 : Int32)) <<< ((8 : Int32) &&& 31))))]))
  refine own_st (fun _ kS => XT.ior X4.here hx rfl (hb hby at_343) rfl kS) ?_
  show own_G p.tables e below _ (T4.setTop (mkF m 344 #[.val (.long q1), .second, .val (.int p2), .val (.int p3), .val (.ref bA), .val (.int kk1), .val (.ref wf), .val (.int (4 : Int32)), .val (.int (1 : Int32)), .val (.int at1), .unset] [(.int ((((((atv cB (at1 + (3 : Int32))) &&& (255 : Int32)) <<< ((24 : Int32) &&& 31)) ||| (((atv cB (at1 + (2 : Int32))) &&& (255 : Int32)) <<< ((16 : Int32) &&& 31))) ||| (((atv cB (at1 + (1 : Int32))) &&& (255 : Int32)) <<< ((8 : Int32) &&& 31))) ||| ((atv cB at1) &&& (255 : Int32))))]))
  refine own_st (fun _ kS => XS.goto X4.here hx rfl (pc0 := 344) (pc' := 393) rfl (hb hby at_344) (by decide) (by decide) kS) ?_
  show own_G p.tables e below _ (T4.setTop (mkF m 393 #[.val (.long q1), .second, .val (.int p2), .val (.int p3), .val (.ref bA), .val (.int kk1), .val (.ref wf), .val (.int (4 : Int32)), .val (.int (1 : Int32)), .val (.int at1), .unset] [(.int ((((((atv cB (at1 + (3 : Int32))) &&& (255 : Int32)) <<< ((24 : Int32) &&& 31)) ||| (((atv cB (at1 + (2 : Int32))) &&& (255 : Int32)) <<< ((16 : Int32) &&& 31))) ||| (((atv cB (at1 + (1 : Int32))) &&& (255 : Int32)) <<< ((8 : Int32) &&& 31))) ||| ((atv cB at1) &&& (255 : Int32))))]))
  refine own_st (fun _ kS => XS.istore X4.here hx rfl (hb hby at_393) rfl (l' := #[.val (.long q1), .second, .val (.int p2), .val (.int p3), .val (.ref bA), .val (.int kk1), .val (.ref wf), .val (.int (4 : Int32)), .val (.int (1 : Int32)), .val (.int at1), .val (.int ((((((atv cB (at1 + (3 : Int32))) &&& (255 : Int32)) <<< ((24 : Int32) &&& 31)) ||| (((atv cB (at1 + (2 : Int32))) &&& (255 : Int32)) <<< ((16 : Int32) &&& 31))) ||| (((atv cB (at1 + (1 : Int32))) &&& (255 : Int32)) <<< ((8 : Int32) &&& 31))) ||| ((atv cB at1) &&& (255 : Int32))))]) rfl kS) ?_
  show own_G p.tables e below _ (T4.setTop (mkF m 395 #[.val (.long q1), .second, .val (.int p2), .val (.int p3), .val (.ref bA), .val (.int kk1), .val (.ref wf), .val (.int (4 : Int32)), .val (.int (1 : Int32)), .val (.int at1), .val (.int ((((((atv cB (at1 + (3 : Int32))) &&& (255 : Int32)) <<< ((24 : Int32) &&& 31)) ||| (((atv cB (at1 + (2 : Int32))) &&& (255 : Int32)) <<< ((16 : Int32) &&& 31))) ||| (((atv cB (at1 + (1 : Int32))) &&& (255 : Int32)) <<< ((8 : Int32) &&& 31))) ||| ((atv cB at1) &&& (255 : Int32))))] []))
  refine own_st (fun _ kS => XS.aload X4.here hx rfl (hb hby at_395) rfl rfl kS) ?_
  show own_G p.tables e below _ (T4.setTop (mkF m 397 #[.val (.long q1), .second, .val (.int p2), .val (.int p3), .val (.ref bA), .val (.int kk1), .val (.ref wf), .val (.int (4 : Int32)), .val (.int (1 : Int32)), .val (.int at1), .val (.int ((((((atv cB (at1 + (3 : Int32))) &&& (255 : Int32)) <<< ((24 : Int32) &&& 31)) ||| (((atv cB (at1 + (2 : Int32))) &&& (255 : Int32)) <<< ((16 : Int32) &&& 31))) ||| (((atv cB (at1 + (1 : Int32))) &&& (255 : Int32)) <<< ((8 : Int32) &&& 31))) ||| ((atv cB at1) &&& (255 : Int32))))] [(.ref wf)]))
  refine own_st (fun _ kS => XS.aload X4.here hx rfl (hb hby at_397) rfl rfl kS) ?_
  show own_G p.tables e below _ (T4.setTop (mkF m 399 #[.val (.long q1), .second, .val (.int p2), .val (.int p3), .val (.ref bA), .val (.int kk1), .val (.ref wf), .val (.int (4 : Int32)), .val (.int (1 : Int32)), .val (.int at1), .val (.int ((((((atv cB (at1 + (3 : Int32))) &&& (255 : Int32)) <<< ((24 : Int32) &&& 31)) ||| (((atv cB (at1 + (2 : Int32))) &&& (255 : Int32)) <<< ((16 : Int32) &&& 31))) ||| (((atv cB (at1 + (1 : Int32))) &&& (255 : Int32)) <<< ((8 : Int32) &&& 31))) ||| ((atv cB at1) &&& (255 : Int32))))] [(.ref bA), (.ref wf)]))
  refine own_st (fun _ kS => XS.iload X4.here hx rfl (hb hby at_399) rfl kS) ?_
  show own_G p.tables e below _ (T4.setTop (mkF m 401 #[.val (.long q1), .second, .val (.int p2), .val (.int p3), .val (.ref bA), .val (.int kk1), .val (.ref wf), .val (.int (4 : Int32)), .val (.int (1 : Int32)), .val (.int at1), .val (.int ((((((atv cB (at1 + (3 : Int32))) &&& (255 : Int32)) <<< ((24 : Int32) &&& 31)) ||| (((atv cB (at1 + (2 : Int32))) &&& (255 : Int32)) <<< ((16 : Int32) &&& 31))) ||| (((atv cB (at1 + (1 : Int32))) &&& (255 : Int32)) <<< ((8 : Int32) &&& 31))) ||| ((atv cB at1) &&& (255 : Int32))))] [(.int at1), (.ref bA), (.ref wf)]))
  obtain ⟨cq5, kq5, q5a, q5b, q5c⟩ := isOf hZ eq4 (Exa.ext O0.2 Ef)
  obtain ⟨_, _, ⟨T5, L5, k5, n5⟩, -, X5, ⟨Lc5, hQ5, l5, y5, z5⟩, st5⟩ := X4.virtualBack hx (y := (⟨"com/example/provenir/provenir/TextEncoding", "unitAt", "([BI)I"⟩ : MethodName)) (z := (⟨"com/example/provenir/provenir/TextEncoding", "unitAt", "([BI)I"⟩ : MethodName)) hown (mvT hZ (hw _ (List.mem_of_getElem? (i := 9) rfl))) (mvT hZ (hw _ (List.mem_of_getElem? (i := 10) rfl))) (notFace_of_selects (args := #[]) (mvT hZ (hw _ (List.mem_of_getElem? (i := 12) rfl)))) (mvT hZ (hw _ (List.mem_of_getElem? (i := 12) rfl))) (mvT hZ (hw _ (List.mem_of_getElem? (i := 11) rfl))) (by decide) (backOf (W := 0) (rm_unitAt_4_1 l Z a0 hw [] wf bA cB at1 h0 n0 Z0 O0 Fw Fl Tb hbn) hZ (hw _ (List.mem_of_getElem? (i := 13) rfl)) (hw _ (List.mem_of_getElem? (i := 3) rfl)) (by decide) (by decide)) q5a q5c (g := (mkF m 401 #[.val (.long q1), .second, .val (.int p2), .val (.int p3), .val (.ref bA), .val (.int kk1), .val (.ref wf), .val (.int (4 : Int32)), .val (.int (1 : Int32)), .val (.int at1), .val (.int ((((((atv cB (at1 + (3 : Int32))) &&& (255 : Int32)) <<< ((24 : Int32) &&& 31)) ||| (((atv cB (at1 + (2 : Int32))) &&& (255 : Int32)) <<< ((16 : Int32) &&& 31))) ||| (((atv cB (at1 + (1 : Int32))) &&& (255 : Int32)) <<< ((8 : Int32) &&& 31))) ||| ((atv cB at1) &&& (255 : Int32))))] [(.int at1), (.ref bA), (.ref wf)])) rfl (by rw [hml]; rfl) (Steps.refl _) (argsL := [(.ref bA), (.int at1)]) (rest := []) (lenOf own_pd0 rfl) rfl (by show 2 * 0 + _ ≤ _; exact Nat.le_of_eq rfl) (hb hby at_401) (fun _ _ => ⟨rfl, eq4, (by decide : 1 + 0 ≤ _), (by decide : 8 + 0 ≤ _)⟩)
  dsimp only [Pt.U, Pt.locs, Pt.cells, Pt.slots] at X5 l5 y5 z5 st5 hQ5
  subst l5 y5 z5
  obtain ⟨rfl, Nq5, eq5⟩ := hQ5
  have N5 := Fr.app N4 Nq5
  refine own_tr st5 ?_
  show own_G p.tables e below _ (T5.setTop (mkF m 404 #[.val (.long q1), .second, .val (.int p2), .val (.int p3), .val (.ref bA), .val (.int kk1), .val (.ref wf), .val (.int (4 : Int32)), .val (.int (1 : Int32)), .val (.int at1), .val (.int ((((((atv cB (at1 + (3 : Int32))) &&& (255 : Int32)) <<< ((24 : Int32) &&& 31)) ||| (((atv cB (at1 + (2 : Int32))) &&& (255 : Int32)) <<< ((16 : Int32) &&& 31))) ||| (((atv cB (at1 + (1 : Int32))) &&& (255 : Int32)) <<< ((8 : Int32) &&& 31))) ||| ((atv cB at1) &&& (255 : Int32))))] [(.int ((((((((0 : Int32) ||| ((atv cB (at1 + (3 : Int32))) &&& (255 : Int32))) <<< ((8 : Int32) &&& 31)) ||| ((atv cB (at1 + (2 : Int32))) &&& (255 : Int32))) <<< ((8 : Int32) &&& 31)) ||| ((atv cB (at1 + (1 : Int32))) &&& (255 : Int32))) <<< ((8 : Int32) &&& 31)) ||| ((atv cB at1) &&& (255 : Int32))))]))
  refine own_st (fun _ kS => XS.iload X5.here hx rfl (hb hby at_404) rfl kS) ?_
  show own_G p.tables e below _ (T5.setTop (mkF m 406 #[.val (.long q1), .second, .val (.int p2), .val (.int p3), .val (.ref bA), .val (.int kk1), .val (.ref wf), .val (.int (4 : Int32)), .val (.int (1 : Int32)), .val (.int at1), .val (.int ((((((atv cB (at1 + (3 : Int32))) &&& (255 : Int32)) <<< ((24 : Int32) &&& 31)) ||| (((atv cB (at1 + (2 : Int32))) &&& (255 : Int32)) <<< ((16 : Int32) &&& 31))) ||| (((atv cB (at1 + (1 : Int32))) &&& (255 : Int32)) <<< ((8 : Int32) &&& 31))) ||| ((atv cB at1) &&& (255 : Int32))))] [(.int ((((((atv cB (at1 + (3 : Int32))) &&& (255 : Int32)) <<< ((24 : Int32) &&& 31)) ||| (((atv cB (at1 + (2 : Int32))) &&& (255 : Int32)) <<< ((16 : Int32) &&& 31))) ||| (((atv cB (at1 + (1 : Int32))) &&& (255 : Int32)) <<< ((8 : Int32) &&& 31))) ||| ((atv cB at1) &&& (255 : Int32)))), (.int ((((((((0 : Int32) ||| ((atv cB (at1 + (3 : Int32))) &&& (255 : Int32))) <<< ((8 : Int32) &&& 31)) ||| ((atv cB (at1 + (2 : Int32))) &&& (255 : Int32))) <<< ((8 : Int32) &&& 31)) ||| ((atv cB (at1 + (1 : Int32))) &&& (255 : Int32))) <<< ((8 : Int32) &&& 31)) ||| ((atv cB at1) &&& (255 : Int32))))]))
  refine own_st (fun _ kS => XS.icmpNo X5.here hx rfl (hb hby at_406) rfl (teq (own_eq4 _ _ _ _ : ((((((((0 : Int32) ||| ((atv cB (at1 + (3 : Int32))) &&& (255 : Int32))) <<< ((8 : Int32) &&& 31)) ||| ((atv cB (at1 + (2 : Int32))) &&& (255 : Int32))) <<< ((8 : Int32) &&& 31)) ||| ((atv cB (at1 + (1 : Int32))) &&& (255 : Int32))) <<< ((8 : Int32) &&& 31)) ||| ((atv cB at1) &&& (255 : Int32))) = ((((((atv cB (at1 + (3 : Int32))) &&& (255 : Int32)) <<< ((24 : Int32) &&& 31)) ||| (((atv cB (at1 + (2 : Int32))) &&& (255 : Int32)) <<< ((16 : Int32) &&& 31))) ||| (((atv cB (at1 + (1 : Int32))) &&& (255 : Int32)) <<< ((8 : Int32) &&& 31))) ||| ((atv cB at1) &&& (255 : Int32))))).2 kS) ?_
  show own_G p.tables e below _ (T5.setTop (mkF m 409 #[.val (.long q1), .second, .val (.int p2), .val (.int p3), .val (.ref bA), .val (.int kk1), .val (.ref wf), .val (.int (4 : Int32)), .val (.int (1 : Int32)), .val (.int at1), .val (.int ((((((atv cB (at1 + (3 : Int32))) &&& (255 : Int32)) <<< ((24 : Int32) &&& 31)) ||| (((atv cB (at1 + (2 : Int32))) &&& (255 : Int32)) <<< ((16 : Int32) &&& 31))) ||| (((atv cB (at1 + (1 : Int32))) &&& (255 : Int32)) <<< ((8 : Int32) &&& 31))) ||| ((atv cB at1) &&& (255 : Int32))))] []))
  refine own_st (fun _ kS => XS.iconst X5.here hx rfl (hb hby at_409) kS) ?_
  show own_G p.tables e below _ (T5.setTop (mkF m 410 #[.val (.long q1), .second, .val (.int p2), .val (.int p3), .val (.ref bA), .val (.int kk1), .val (.ref wf), .val (.int (4 : Int32)), .val (.int (1 : Int32)), .val (.int at1), .val (.int ((((((atv cB (at1 + (3 : Int32))) &&& (255 : Int32)) <<< ((24 : Int32) &&& 31)) ||| (((atv cB (at1 + (2 : Int32))) &&& (255 : Int32)) <<< ((16 : Int32) &&& 31))) ||| (((atv cB (at1 + (1 : Int32))) &&& (255 : Int32)) <<< ((8 : Int32) &&& 31))) ||| ((atv cB at1) &&& (255 : Int32))))] [(.int (1 : Int32))]))
  refine own_st (fun _ kS => XS.goto X5.here hx rfl (pc0 := 410) (pc' := 414) rfl (hb hby at_410) (by decide) (by decide) kS) ?_
  show own_G p.tables e below _ (T5.setTop (mkF m 414 #[.val (.long q1), .second, .val (.int p2), .val (.int p3), .val (.ref bA), .val (.int kk1), .val (.ref wf), .val (.int (4 : Int32)), .val (.int (1 : Int32)), .val (.int at1), .val (.int ((((((atv cB (at1 + (3 : Int32))) &&& (255 : Int32)) <<< ((24 : Int32) &&& 31)) ||| (((atv cB (at1 + (2 : Int32))) &&& (255 : Int32)) <<< ((16 : Int32) &&& 31))) ||| (((atv cB (at1 + (1 : Int32))) &&& (255 : Int32)) <<< ((8 : Int32) &&& 31))) ||| ((atv cB at1) &&& (255 : Int32))))] [(.int (1 : Int32))]))
  exact own_retN X5 hx hlk (t := .boolean) hret (by simp) (hb hby at_414) (by decide) (by decide) (v' := (1 : Int32)) rfl (by rw [eq5]; exact ⟨rfl, N5⟩)
set_option maxRecDepth 65536 in
set_option maxHeartbeats 40000000 in
theorem sg_S_2_0 {p : Program} {l : Launch} {e : Env} {s : State} {m : MethodId} {args : Array Value} {below : List Frame} {meth : Method} {c : Code} {T0 : State} {locs : List Loc} {Z : State} {a0 : Array Value} {h0 : Heap} {n0 : Nat} (hx : p.tables.exec = Jvm.exec) (hby : c.code = code) (hml : c.maxLocals = 11) (hown : s.vm.findClass "com/example/provenir/provenir/TextEncodingUnitAtPinLaw" = some m.cls) (hlk : meth.locks = false) (hret : meth.sig.returnType = some .boolean) (hZ : Z.Warmed39 s.vm) (hw : ∀ d ∈ tables_1, d.before a0 Z = true) (Z0 : n0 ≤ h0.size)
    (X0 : Stand p l e room_1 s m args below meth c T0 locs 1 8) (e0 : T0.heap = h0) (N0 : Fr n0 locs) (O0 : Old Z n0 h0) (q1 : Int64) (p2 : Int32) (p3 : Int32) (bA : Addr) (kk1 : Int32) (wf : Addr) (cB : Cell) (Tb : Tab Z h0 bA cB .byte (8 : Int32)) (Ef : Exa Z Z.heap wf "com/example/provenir/provenir/TextEncoding") (Fw : Fld Z Z.heap wf "com/example/provenir/provenir/TextEncoding" "width" "I" (.int (2 : Int32))) (Fl : Fld Z Z.heap wf "com/example/provenir/provenir/TextEncoding" "littleEndian" "Z" (.int (0 : Int32))) :
    own_G p.tables e below (own_E s (Q_law n0) room_1.cells room_1.slots) (T0.setTop (mkF m 204 #[.val (.long q1), .second, .val (.int p2), .val (.int p3), .val (.ref bA), .val (.int kk1), .val (.ref wf), .val (.int (2 : Int32)), .val (.int (0 : Int32)), .unset, .unset] [])) := by
  show own_G p.tables e below _ (T0.setTop (mkF m 204 #[.val (.long q1), .second, .val (.int p2), .val (.int p3), .val (.ref bA), .val (.int kk1), .val (.ref wf), .val (.int (2 : Int32)), .val (.int (0 : Int32)), .unset, .unset] []))
  refine own_st (fun _ kS => XS.iloadN X0.here hx rfl (hb hby at_204) rfl kS) ?_
  show own_G p.tables e below _ (T0.setTop (mkF m 205 #[.val (.long q1), .second, .val (.int p2), .val (.int p3), .val (.ref bA), .val (.int kk1), .val (.ref wf), .val (.int (2 : Int32)), .val (.int (0 : Int32)), .unset, .unset] [(.int p3)]))
  refine own_st (fun _ kS => X0.ldcInt hx hown (mvT hZ (hw _ (List.mem_of_getElem? (i := 1) rfl))) (g := (mkF m 205 #[.val (.long q1), .second, .val (.int p2), .val (.int p3), .val (.ref bA), .val (.int kk1), .val (.ref wf), .val (.int (2 : Int32)), .val (.int (0 : Int32)), .unset, .unset] [(.int p3)])) rfl (hb hby at_205) _ kS) ?_
  show own_G p.tables e below _ (T0.setTop (mkF m 207 #[.val (.long q1), .second, .val (.int p2), .val (.int p3), .val (.ref bA), .val (.int kk1), .val (.ref wf), .val (.int (2 : Int32)), .val (.int (0 : Int32)), .unset, .unset] [(.int (2147483647 : Int32)), (.int p3)]))
  refine own_st (fun _ kS => XS.iand X0.here hx rfl (hb hby at_207) rfl kS) ?_
  show own_G p.tables e below _ (T0.setTop (mkF m 208 #[.val (.long q1), .second, .val (.int p2), .val (.int p3), .val (.ref bA), .val (.int kk1), .val (.ref wf), .val (.int (2 : Int32)), .val (.int (0 : Int32)), .unset, .unset] [(.int (p3 &&& (2147483647 : Int32)))]))
  refine own_st (fun _ kS => XS.bipush X0.here hx rfl (hb hby at_208) kS) ?_
  show own_G p.tables e below _ (T0.setTop (mkF m 210 #[.val (.long q1), .second, .val (.int p2), .val (.int p3), .val (.ref bA), .val (.int kk1), .val (.ref wf), .val (.int (2 : Int32)), .val (.int (0 : Int32)), .unset, .unset] [(.int (9 : Int32)), (.int (p3 &&& (2147483647 : Int32)))]))
  refine own_st (fun _ kS => XS.iload X0.here hx rfl (hb hby at_210) rfl kS) ?_
  show own_G p.tables e below _ (T0.setTop (mkF m 212 #[.val (.long q1), .second, .val (.int p2), .val (.int p3), .val (.ref bA), .val (.int kk1), .val (.ref wf), .val (.int (2 : Int32)), .val (.int (0 : Int32)), .unset, .unset] [(.int (2 : Int32)), (.int (9 : Int32)), (.int (p3 &&& (2147483647 : Int32)))]))
  refine own_st (fun _ kS => XS.isub X0.here hx rfl (hb hby at_212) rfl kS) ?_
  show own_G p.tables e below _ (T0.setTop (mkF m 213 #[.val (.long q1), .second, .val (.int p2), .val (.int p3), .val (.ref bA), .val (.int kk1), .val (.ref wf), .val (.int (2 : Int32)), .val (.int (0 : Int32)), .unset, .unset] [(.int (7 : Int32)), (.int (p3 &&& (2147483647 : Int32)))]))
  refine own_st (fun _ kS => iremM (g := (mkF m 213 #[.val (.long q1), .second, .val (.int p2), .val (.int p3), .val (.ref bA), .val (.int kk1), .val (.ref wf), .val (.int (2 : Int32)), .val (.int (0 : Int32)), .unset, .unset] [(.int (7 : Int32)), (.int (p3 &&& (2147483647 : Int32)))])) X0 hx rfl (hb hby at_213) rfl (by decide) kS) ?_
  show own_G p.tables e below _ (T0.setTop (mkF m 214 #[.val (.long q1), .second, .val (.int p2), .val (.int p3), .val (.ref bA), .val (.int kk1), .val (.ref wf), .val (.int (2 : Int32)), .val (.int (0 : Int32)), .unset, .unset] [(.int ((p3 &&& (2147483647 : Int32)) % (7 : Int32)))]))
  obtain ⟨at1, hat⟩ : ∃ z, z = ((p3 &&& (2147483647 : Int32)) % (7 : Int32)) := ⟨_, rfl⟩
  have hbn : 0 ≤ at1.toInt ∧ at1.toInt < 7 := by rw [hat]; exact ⟨(own_mod p3 7 7 (by decide) (by decide)).1, (own_mod p3 7 7 (by decide) (by decide)).2.1⟩
  rw [← hat]
  show own_G p.tables e below _ (T0.setTop (mkF m 214 #[.val (.long q1), .second, .val (.int p2), .val (.int p3), .val (.ref bA), .val (.int kk1), .val (.ref wf), .val (.int (2 : Int32)), .val (.int (0 : Int32)), .unset, .unset] [(.int at1)]))
  refine own_st (fun _ kS => XS.istore X0.here hx rfl (hb hby at_214) rfl (l' := #[.val (.long q1), .second, .val (.int p2), .val (.int p3), .val (.ref bA), .val (.int kk1), .val (.ref wf), .val (.int (2 : Int32)), .val (.int (0 : Int32)), .val (.int at1), .unset]) rfl kS) ?_
  show own_G p.tables e below _ (T0.setTop (mkF m 216 #[.val (.long q1), .second, .val (.int p2), .val (.int p3), .val (.ref bA), .val (.int kk1), .val (.ref wf), .val (.int (2 : Int32)), .val (.int (0 : Int32)), .val (.int at1), .unset] []))
  refine own_st (fun _ kS => XS.iload X0.here hx rfl (hb hby at_216) rfl kS) ?_
  show own_G p.tables e below _ (T0.setTop (mkF m 218 #[.val (.long q1), .second, .val (.int p2), .val (.int p3), .val (.ref bA), .val (.int kk1), .val (.ref wf), .val (.int (2 : Int32)), .val (.int (0 : Int32)), .val (.int at1), .unset] [(.int (2 : Int32))]))
  refine own_st (fun _ kS => XS.iconst X0.here hx rfl (hb hby at_218) kS) ?_
  show own_G p.tables e below _ (T0.setTop (mkF m 219 #[.val (.long q1), .second, .val (.int p2), .val (.int p3), .val (.ref bA), .val (.int kk1), .val (.ref wf), .val (.int (2 : Int32)), .val (.int (0 : Int32)), .val (.int at1), .unset] [(.int (1 : Int32)), (.int (2 : Int32))]))
  refine own_st (fun _ kS => XS.icmpYes X0.here hx rfl (pc0 := 219) (pc' := 234) rfl (hb hby at_219) rfl (feq (by decide : ¬ ((2 : Int32) = (1 : Int32)))).2 (by decide) (by decide) kS) ?_
  show own_G p.tables e below _ (T0.setTop (mkF m 234 #[.val (.long q1), .second, .val (.int p2), .val (.int p3), .val (.ref bA), .val (.int kk1), .val (.ref wf), .val (.int (2 : Int32)), .val (.int (0 : Int32)), .val (.int at1), .unset] []))
  refine own_st (fun _ kS => XS.iload X0.here hx rfl (hb hby at_234) rfl kS) ?_
  show own_G p.tables e below _ (T0.setTop (mkF m 236 #[.val (.long q1), .second, .val (.int p2), .val (.int p3), .val (.ref bA), .val (.int kk1), .val (.ref wf), .val (.int (2 : Int32)), .val (.int (0 : Int32)), .val (.int at1), .unset] [(.int (2 : Int32))]))
  refine own_st (fun _ kS => XS.iconst X0.here hx rfl (hb hby at_236) kS) ?_
  show own_G p.tables e below _ (T0.setTop (mkF m 237 #[.val (.long q1), .second, .val (.int p2), .val (.int p3), .val (.ref bA), .val (.int kk1), .val (.ref wf), .val (.int (2 : Int32)), .val (.int (0 : Int32)), .val (.int at1), .unset] [(.int (2 : Int32)), (.int (2 : Int32))]))
  refine own_st (fun _ kS => XS.icmpNo X0.here hx rfl (hb hby at_237) rfl (teq (by decide : (2 : Int32) = (2 : Int32))).2 kS) ?_
  show own_G p.tables e below _ (T0.setTop (mkF m 240 #[.val (.long q1), .second, .val (.int p2), .val (.int p3), .val (.ref bA), .val (.int kk1), .val (.ref wf), .val (.int (2 : Int32)), .val (.int (0 : Int32)), .val (.int at1), .unset] []))
  refine own_st (fun _ kS => XS.iload X0.here hx rfl (hb hby at_240) rfl kS) ?_
  show own_G p.tables e below _ (T0.setTop (mkF m 242 #[.val (.long q1), .second, .val (.int p2), .val (.int p3), .val (.ref bA), .val (.int kk1), .val (.ref wf), .val (.int (2 : Int32)), .val (.int (0 : Int32)), .val (.int at1), .unset] [(.int (0 : Int32))]))
  refine own_st (fun _ kS => XS.ifYes X0.here hx rfl (pc0 := 242) (pc' := 268) rfl (hb hby at_242) rfl ((if0 _ _).trans (teq (by decide : (0 : Int32) = (0 : Int32))).1) (by decide) (by decide) kS) ?_
  show own_G p.tables e below _ (T0.setTop (mkF m 268 #[.val (.long q1), .second, .val (.int p2), .val (.int p3), .val (.ref bA), .val (.int kk1), .val (.ref wf), .val (.int (2 : Int32)), .val (.int (0 : Int32)), .val (.int at1), .unset] []))
  refine own_st (fun _ kS => XS.aload X0.here hx rfl (hb hby at_268) rfl rfl kS) ?_
  show own_G p.tables e below _ (T0.setTop (mkF m 270 #[.val (.long q1), .second, .val (.int p2), .val (.int p3), .val (.ref bA), .val (.int kk1), .val (.ref wf), .val (.int (2 : Int32)), .val (.int (0 : Int32)), .val (.int at1), .unset] [(.ref bA)]))
  refine own_st (fun _ kS => XS.iload X0.here hx rfl (hb hby at_270) rfl kS) ?_
  show own_G p.tables e below _ (T0.setTop (mkF m 272 #[.val (.long q1), .second, .val (.int p2), .val (.int p3), .val (.ref bA), .val (.int kk1), .val (.ref wf), .val (.int (2 : Int32)), .val (.int (0 : Int32)), .val (.int at1), .unset] [(.int at1), (.ref bA)]))
  obtain ⟨_, _, ⟨T1, L1, k1, n1⟩, -, X1, ⟨Lc1, hQ1, l1, y1, z1⟩, st1⟩ := Jvm.LawKit.callS X0 hx (y := (⟨"com/example/provenir/provenir/TextEncodingUnitAtPinLaw", "u", "([BI)I"⟩ : MethodName)) hown (mvT hZ (hw _ (List.mem_of_getElem? (i := 5) rfl))) (mvT hZ (hw _ (List.mem_of_getElem? (i := 6) rfl))) (mvT hZ (hw _ (List.mem_of_getElem? (i := 7) rfl))) (mvT hZ (hw _ (List.mem_of_getElem? (i := 8) rfl))) (by decide) (backOf (W := 0) (rm_u l Z a0 hw [] bA cB at1 h0 n0 Z0  Tb (own_inb0 hbn (by decide))) hZ (hw _ (List.mem_of_getElem? (i := 8) rfl)) (hw _ (List.mem_of_getElem? (i := 7) rfl)) (by decide) (by decide)) (g := (mkF m 272 #[.val (.long q1), .second, .val (.int p2), .val (.int p3), .val (.ref bA), .val (.int kk1), .val (.ref wf), .val (.int (2 : Int32)), .val (.int (0 : Int32)), .val (.int at1), .unset] [(.int at1), (.ref bA)])) rfl (by rw [hml]; rfl) (argsL := [(.ref bA), (.int at1)]) (rest := []) (lenOf own_pd0 rfl) rfl (by show 2 * 0 + _ ≤ _; exact Nat.le_of_eq rfl) (hb hby at_272) (fun _ _ => ⟨rfl, e0, (by decide : 1 + 0 ≤ _), (by decide : 8 + 0 ≤ _)⟩)
  dsimp only [Pt.U, Pt.locs, Pt.cells, Pt.slots] at X1 l1 y1 z1 st1 hQ1
  subst l1 y1 z1
  obtain ⟨rfl, Nq1, eq1⟩ := hQ1
  have N1 := Fr.app N0 Nq1
  refine own_st st1 ?_
  show own_G p.tables e below _ (T1.setTop (mkF m 275 #[.val (.long q1), .second, .val (.int p2), .val (.int p3), .val (.ref bA), .val (.int kk1), .val (.ref wf), .val (.int (2 : Int32)), .val (.int (0 : Int32)), .val (.int at1), .unset] [(.int ((atv cB at1) &&& (255 : Int32)))]))
  refine own_st (fun _ kS => XS.bipush X1.here hx rfl (hb hby at_275) kS) ?_
  show own_G p.tables e below _ (T1.setTop (mkF m 277 #[.val (.long q1), .second, .val (.int p2), .val (.int p3), .val (.ref bA), .val (.int kk1), .val (.ref wf), .val (.int (2 : Int32)), .val (.int (0 : Int32)), .val (.int at1), .unset] [(.int (8 : Int32)), (.int ((atv cB at1) &&& (255 : Int32)))]))
  refine own_st (fun _ kS => XT.ishl X1.here hx rfl (hb hby at_277) rfl kS) ?_
  show own_G p.tables e below _ (T1.setTop (mkF m 278 #[.val (.long q1), .second, .val (.int p2), .val (.int p3), .val (.ref bA), .val (.int kk1), .val (.ref wf), .val (.int (2 : Int32)), .val (.int (0 : Int32)), .val (.int at1), .unset] [(.int (((atv cB at1) &&& (255 : Int32)) <<< ((8 : Int32) &&& 31)))]))
  refine own_st (fun _ kS => XS.aload X1.here hx rfl (hb hby at_278) rfl rfl kS) ?_
  show own_G p.tables e below _ (T1.setTop (mkF m 280 #[.val (.long q1), .second, .val (.int p2), .val (.int p3), .val (.ref bA), .val (.int kk1), .val (.ref wf), .val (.int (2 : Int32)), .val (.int (0 : Int32)), .val (.int at1), .unset] [(.ref bA), (.int (((atv cB at1) &&& (255 : Int32)) <<< ((8 : Int32) &&& 31)))]))
  refine own_st (fun _ kS => XS.iload X1.here hx rfl (hb hby at_280) rfl kS) ?_
  show own_G p.tables e below _ (T1.setTop (mkF m 282 #[.val (.long q1), .second, .val (.int p2), .val (.int p3), .val (.ref bA), .val (.int kk1), .val (.ref wf), .val (.int (2 : Int32)), .val (.int (0 : Int32)), .val (.int at1), .unset] [(.int at1), (.ref bA), (.int (((atv cB at1) &&& (255 : Int32)) <<< ((8 : Int32) &&& 31)))]))
  refine own_st (fun _ kS => XS.iconst X1.here hx rfl (hb hby at_282) kS) ?_
  show own_G p.tables e below _ (T1.setTop (mkF m 283 #[.val (.long q1), .second, .val (.int p2), .val (.int p3), .val (.ref bA), .val (.int kk1), .val (.ref wf), .val (.int (2 : Int32)), .val (.int (0 : Int32)), .val (.int at1), .unset] [(.int (1 : Int32)), (.int at1), (.ref bA), (.int (((atv cB at1) &&& (255 : Int32)) <<< ((8 : Int32) &&& 31)))]))
  refine own_st (fun _ kS => XS.iadd X1.here hx rfl (hb hby at_283) rfl kS) ?_
  show own_G p.tables e below _ (T1.setTop (mkF m 284 #[.val (.long q1), .second, .val (.int p2), .val (.int p3), .val (.ref bA), .val (.int kk1), .val (.ref wf), .val (.int (2 : Int32)), .val (.int (0 : Int32)), .val (.int at1), .unset] [(.int (at1 + (1 : Int32))), (.ref bA), (.int (((atv cB at1) &&& (255 : Int32)) <<< ((8 : Int32) &&& 31)))]))
  obtain ⟨_, _, ⟨T2, L2, k2, n2⟩, -, X2, ⟨Lc2, hQ2, l2, y2, z2⟩, st2⟩ := Jvm.LawKit.callS X1 hx (y := (⟨"com/example/provenir/provenir/TextEncodingUnitAtPinLaw", "u", "([BI)I"⟩ : MethodName)) hown (mvT hZ (hw _ (List.mem_of_getElem? (i := 5) rfl))) (mvT hZ (hw _ (List.mem_of_getElem? (i := 6) rfl))) (mvT hZ (hw _ (List.mem_of_getElem? (i := 7) rfl))) (mvT hZ (hw _ (List.mem_of_getElem? (i := 8) rfl))) (by decide) (backOf (W := 1) (rm_u l Z a0 hw [] bA cB (at1 + (1 : Int32)) h0 n0 Z0  Tb (own_inb hbn 1 (by decide))) hZ (hw _ (List.mem_of_getElem? (i := 8) rfl)) (hw _ (List.mem_of_getElem? (i := 7) rfl)) (by decide) (by decide)) (g := (mkF m 284 #[.val (.long q1), .second, .val (.int p2), .val (.int p3), .val (.ref bA), .val (.int kk1), .val (.ref wf), .val (.int (2 : Int32)), .val (.int (0 : Int32)), .val (.int at1), .unset] [(.int (at1 + (1 : Int32))), (.ref bA), (.int (((atv cB at1) &&& (255 : Int32)) <<< ((8 : Int32) &&& 31)))])) rfl (by rw [hml]; rfl) (argsL := [(.ref bA), (.int (at1 + (1 : Int32)))]) (rest := [(.int (((atv cB at1) &&& (255 : Int32)) <<< ((8 : Int32) &&& 31)))]) (lenOf own_pd0 rfl) rfl (by show 2 * 0 + _ ≤ _; exact Nat.le_of_eq rfl) (hb hby at_284) (fun _ _ => ⟨rfl, eq1, (by decide : 1 + 0 ≤ _), (by decide : 8 + 0 ≤ _)⟩)
  dsimp only [Pt.U, Pt.locs, Pt.cells, Pt.slots] at X2 l2 y2 z2 st2 hQ2
  subst l2 y2 z2
  obtain ⟨rfl, Nq2, eq2⟩ := hQ2
  have N2 := Fr.app N1 Nq2
  refine own_st st2 ?_
  show own_G p.tables e below _ (T2.setTop (mkF m 287 #[.val (.long q1), .second, .val (.int p2), .val (.int p3), .val (.ref bA), .val (.int kk1), .val (.ref wf), .val (.int (2 : Int32)), .val (.int (0 : Int32)), .val (.int at1), .unset] [(.int ((atv cB (at1 + (1 : Int32))) &&& (255 : Int32))), (.int (((atv cB at1) &&& (255 : Int32)) <<< ((8 : Int32) &&& 31)))]))
  refine own_st (fun _ kS => XT.ior X2.here hx rfl (hb hby at_287) rfl kS) ?_
  show own_G p.tables e below _ (T2.setTop (mkF m 288 #[.val (.long q1), .second, .val (.int p2), .val (.int p3), .val (.ref bA), .val (.int kk1), .val (.ref wf), .val (.int (2 : Int32)), .val (.int (0 : Int32)), .val (.int at1), .unset] [(.int ((((atv cB at1) &&& (255 : Int32)) <<< ((8 : Int32) &&& 31)) ||| ((atv cB (at1 + (1 : Int32))) &&& (255 : Int32))))]))
  refine own_st (fun _ kS => XS.istore X2.here hx rfl (hb hby at_288) rfl (l' := #[.val (.long q1), .second, .val (.int p2), .val (.int p3), .val (.ref bA), .val (.int kk1), .val (.ref wf), .val (.int (2 : Int32)), .val (.int (0 : Int32)), .val (.int at1), .val (.int ((((atv cB at1) &&& (255 : Int32)) <<< ((8 : Int32) &&& 31)) ||| ((atv cB (at1 + (1 : Int32))) &&& (255 : Int32))))]) rfl kS) ?_
  show own_G p.tables e below _ (T2.setTop (mkF m 290 #[.val (.long q1), .second, .val (.int p2), .val (.int p3), .val (.ref bA), .val (.int kk1), .val (.ref wf), .val (.int (2 : Int32)), .val (.int (0 : Int32)), .val (.int at1), .val (.int ((((atv cB at1) &&& (255 : Int32)) <<< ((8 : Int32) &&& 31)) ||| ((atv cB (at1 + (1 : Int32))) &&& (255 : Int32))))] []))
  refine own_st (fun _ kS => XS.goto X2.here hx rfl (pc0 := 290) (pc' := 395) rfl (hb hby at_290) (by decide) (by decide) kS) ?_
  show own_G p.tables e below _ (T2.setTop (mkF m 395 #[.val (.long q1), .second, .val (.int p2), .val (.int p3), .val (.ref bA), .val (.int kk1), .val (.ref wf), .val (.int (2 : Int32)), .val (.int (0 : Int32)), .val (.int at1), .val (.int ((((atv cB at1) &&& (255 : Int32)) <<< ((8 : Int32) &&& 31)) ||| ((atv cB (at1 + (1 : Int32))) &&& (255 : Int32))))] []))
  refine own_st (fun _ kS => XS.aload X2.here hx rfl (hb hby at_395) rfl rfl kS) ?_
  show own_G p.tables e below _ (T2.setTop (mkF m 397 #[.val (.long q1), .second, .val (.int p2), .val (.int p3), .val (.ref bA), .val (.int kk1), .val (.ref wf), .val (.int (2 : Int32)), .val (.int (0 : Int32)), .val (.int at1), .val (.int ((((atv cB at1) &&& (255 : Int32)) <<< ((8 : Int32) &&& 31)) ||| ((atv cB (at1 + (1 : Int32))) &&& (255 : Int32))))] [(.ref wf)]))
  refine own_st (fun _ kS => XS.aload X2.here hx rfl (hb hby at_397) rfl rfl kS) ?_
  show own_G p.tables e below _ (T2.setTop (mkF m 399 #[.val (.long q1), .second, .val (.int p2), .val (.int p3), .val (.ref bA), .val (.int kk1), .val (.ref wf), .val (.int (2 : Int32)), .val (.int (0 : Int32)), .val (.int at1), .val (.int ((((atv cB at1) &&& (255 : Int32)) <<< ((8 : Int32) &&& 31)) ||| ((atv cB (at1 + (1 : Int32))) &&& (255 : Int32))))] [(.ref bA), (.ref wf)]))
  refine own_st (fun _ kS => XS.iload X2.here hx rfl (hb hby at_399) rfl kS) ?_
  show own_G p.tables e below _ (T2.setTop (mkF m 401 #[.val (.long q1), .second, .val (.int p2), .val (.int p3), .val (.ref bA), .val (.int kk1), .val (.ref wf), .val (.int (2 : Int32)), .val (.int (0 : Int32)), .val (.int at1), .val (.int ((((atv cB at1) &&& (255 : Int32)) <<< ((8 : Int32) &&& 31)) ||| ((atv cB (at1 + (1 : Int32))) &&& (255 : Int32))))] [(.int at1), (.ref bA), (.ref wf)]))
  obtain ⟨cq3, kq3, q3a, q3b, q3c⟩ := isOf hZ eq2 (Exa.ext O0.2 Ef)
  obtain ⟨_, _, ⟨T3, L3, k3, n3⟩, -, X3, ⟨Lc3, hQ3, l3, y3, z3⟩, st3⟩ := X2.virtualBack hx (y := (⟨"com/example/provenir/provenir/TextEncoding", "unitAt", "([BI)I"⟩ : MethodName)) (z := (⟨"com/example/provenir/provenir/TextEncoding", "unitAt", "([BI)I"⟩ : MethodName)) hown (mvT hZ (hw _ (List.mem_of_getElem? (i := 9) rfl))) (mvT hZ (hw _ (List.mem_of_getElem? (i := 10) rfl))) (notFace_of_selects (args := #[]) (mvT hZ (hw _ (List.mem_of_getElem? (i := 12) rfl)))) (mvT hZ (hw _ (List.mem_of_getElem? (i := 12) rfl))) (mvT hZ (hw _ (List.mem_of_getElem? (i := 11) rfl))) (by decide) (backOf (W := 0) (rm_unitAt_2_0 l Z a0 hw [] wf bA cB at1 h0 n0 Z0 O0 Fw Fl Tb hbn) hZ (hw _ (List.mem_of_getElem? (i := 13) rfl)) (hw _ (List.mem_of_getElem? (i := 3) rfl)) (by decide) (by decide)) q3a q3c (g := (mkF m 401 #[.val (.long q1), .second, .val (.int p2), .val (.int p3), .val (.ref bA), .val (.int kk1), .val (.ref wf), .val (.int (2 : Int32)), .val (.int (0 : Int32)), .val (.int at1), .val (.int ((((atv cB at1) &&& (255 : Int32)) <<< ((8 : Int32) &&& 31)) ||| ((atv cB (at1 + (1 : Int32))) &&& (255 : Int32))))] [(.int at1), (.ref bA), (.ref wf)])) rfl (by rw [hml]; rfl) (Steps.refl _) (argsL := [(.ref bA), (.int at1)]) (rest := []) (lenOf own_pd0 rfl) rfl (by show 2 * 0 + _ ≤ _; exact Nat.le_of_eq rfl) (hb hby at_401) (fun _ _ => ⟨rfl, eq2, (by decide : 1 + 0 ≤ _), (by decide : 8 + 0 ≤ _)⟩)
  dsimp only [Pt.U, Pt.locs, Pt.cells, Pt.slots] at X3 l3 y3 z3 st3 hQ3
  subst l3 y3 z3
  obtain ⟨rfl, Nq3, eq3⟩ := hQ3
  have N3 := Fr.app N2 Nq3
  refine own_tr st3 ?_
  show own_G p.tables e below _ (T3.setTop (mkF m 404 #[.val (.long q1), .second, .val (.int p2), .val (.int p3), .val (.ref bA), .val (.int kk1), .val (.ref wf), .val (.int (2 : Int32)), .val (.int (0 : Int32)), .val (.int at1), .val (.int ((((atv cB at1) &&& (255 : Int32)) <<< ((8 : Int32) &&& 31)) ||| ((atv cB (at1 + (1 : Int32))) &&& (255 : Int32))))] [(.int ((((0 : Int32) ||| ((atv cB at1) &&& (255 : Int32))) <<< ((8 : Int32) &&& 31)) ||| ((atv cB (at1 + (1 : Int32))) &&& (255 : Int32))))]))
  refine own_st (fun _ kS => XS.iload X3.here hx rfl (hb hby at_404) rfl kS) ?_
  show own_G p.tables e below _ (T3.setTop (mkF m 406 #[.val (.long q1), .second, .val (.int p2), .val (.int p3), .val (.ref bA), .val (.int kk1), .val (.ref wf), .val (.int (2 : Int32)), .val (.int (0 : Int32)), .val (.int at1), .val (.int ((((atv cB at1) &&& (255 : Int32)) <<< ((8 : Int32) &&& 31)) ||| ((atv cB (at1 + (1 : Int32))) &&& (255 : Int32))))] [(.int ((((atv cB at1) &&& (255 : Int32)) <<< ((8 : Int32) &&& 31)) ||| ((atv cB (at1 + (1 : Int32))) &&& (255 : Int32)))), (.int ((((0 : Int32) ||| ((atv cB at1) &&& (255 : Int32))) <<< ((8 : Int32) &&& 31)) ||| ((atv cB (at1 + (1 : Int32))) &&& (255 : Int32))))]))
  refine own_st (fun _ kS => XS.icmpNo X3.here hx rfl (hb hby at_406) rfl (teq (own_eq2 _ _ : ((((0 : Int32) ||| ((atv cB at1) &&& (255 : Int32))) <<< ((8 : Int32) &&& 31)) ||| ((atv cB (at1 + (1 : Int32))) &&& (255 : Int32))) = ((((atv cB at1) &&& (255 : Int32)) <<< ((8 : Int32) &&& 31)) ||| ((atv cB (at1 + (1 : Int32))) &&& (255 : Int32))))).2 kS) ?_
  show own_G p.tables e below _ (T3.setTop (mkF m 409 #[.val (.long q1), .second, .val (.int p2), .val (.int p3), .val (.ref bA), .val (.int kk1), .val (.ref wf), .val (.int (2 : Int32)), .val (.int (0 : Int32)), .val (.int at1), .val (.int ((((atv cB at1) &&& (255 : Int32)) <<< ((8 : Int32) &&& 31)) ||| ((atv cB (at1 + (1 : Int32))) &&& (255 : Int32))))] []))
  refine own_st (fun _ kS => XS.iconst X3.here hx rfl (hb hby at_409) kS) ?_
  show own_G p.tables e below _ (T3.setTop (mkF m 410 #[.val (.long q1), .second, .val (.int p2), .val (.int p3), .val (.ref bA), .val (.int kk1), .val (.ref wf), .val (.int (2 : Int32)), .val (.int (0 : Int32)), .val (.int at1), .val (.int ((((atv cB at1) &&& (255 : Int32)) <<< ((8 : Int32) &&& 31)) ||| ((atv cB (at1 + (1 : Int32))) &&& (255 : Int32))))] [(.int (1 : Int32))]))
  refine own_st (fun _ kS => XS.goto X3.here hx rfl (pc0 := 410) (pc' := 414) rfl (hb hby at_410) (by decide) (by decide) kS) ?_
  show own_G p.tables e below _ (T3.setTop (mkF m 414 #[.val (.long q1), .second, .val (.int p2), .val (.int p3), .val (.ref bA), .val (.int kk1), .val (.ref wf), .val (.int (2 : Int32)), .val (.int (0 : Int32)), .val (.int at1), .val (.int ((((atv cB at1) &&& (255 : Int32)) <<< ((8 : Int32) &&& 31)) ||| ((atv cB (at1 + (1 : Int32))) &&& (255 : Int32))))] [(.int (1 : Int32))]))
  exact own_retN X3 hx hlk (t := .boolean) hret (by simp) (hb hby at_414) (by decide) (by decide) (v' := (1 : Int32)) rfl (by rw [eq3]; exact ⟨rfl, N3⟩)
set_option maxRecDepth 65536 in
set_option maxHeartbeats 40000000 in
theorem sg_S_2_1 {p : Program} {l : Launch} {e : Env} {s : State} {m : MethodId} {args : Array Value} {below : List Frame} {meth : Method} {c : Code} {T0 : State} {locs : List Loc} {Z : State} {a0 : Array Value} {h0 : Heap} {n0 : Nat} (hx : p.tables.exec = Jvm.exec) (hby : c.code = code) (hml : c.maxLocals = 11) (hown : s.vm.findClass "com/example/provenir/provenir/TextEncodingUnitAtPinLaw" = some m.cls) (hlk : meth.locks = false) (hret : meth.sig.returnType = some .boolean) (hZ : Z.Warmed39 s.vm) (hw : ∀ d ∈ tables_1, d.before a0 Z = true) (Z0 : n0 ≤ h0.size)
    (X0 : Stand p l e room_1 s m args below meth c T0 locs 1 8) (e0 : T0.heap = h0) (N0 : Fr n0 locs) (O0 : Old Z n0 h0) (q1 : Int64) (p2 : Int32) (p3 : Int32) (bA : Addr) (kk1 : Int32) (wf : Addr) (cB : Cell) (Tb : Tab Z h0 bA cB .byte (8 : Int32)) (Ef : Exa Z Z.heap wf "com/example/provenir/provenir/TextEncoding") (Fw : Fld Z Z.heap wf "com/example/provenir/provenir/TextEncoding" "width" "I" (.int (2 : Int32))) (Fl : Fld Z Z.heap wf "com/example/provenir/provenir/TextEncoding" "littleEndian" "Z" (.int (1 : Int32))) :
    own_G p.tables e below (own_E s (Q_law n0) room_1.cells room_1.slots) (T0.setTop (mkF m 204 #[.val (.long q1), .second, .val (.int p2), .val (.int p3), .val (.ref bA), .val (.int kk1), .val (.ref wf), .val (.int (2 : Int32)), .val (.int (1 : Int32)), .unset, .unset] [])) := by
  show own_G p.tables e below _ (T0.setTop (mkF m 204 #[.val (.long q1), .second, .val (.int p2), .val (.int p3), .val (.ref bA), .val (.int kk1), .val (.ref wf), .val (.int (2 : Int32)), .val (.int (1 : Int32)), .unset, .unset] []))
  refine own_st (fun _ kS => XS.iloadN X0.here hx rfl (hb hby at_204) rfl kS) ?_
  show own_G p.tables e below _ (T0.setTop (mkF m 205 #[.val (.long q1), .second, .val (.int p2), .val (.int p3), .val (.ref bA), .val (.int kk1), .val (.ref wf), .val (.int (2 : Int32)), .val (.int (1 : Int32)), .unset, .unset] [(.int p3)]))
  refine own_st (fun _ kS => X0.ldcInt hx hown (mvT hZ (hw _ (List.mem_of_getElem? (i := 1) rfl))) (g := (mkF m 205 #[.val (.long q1), .second, .val (.int p2), .val (.int p3), .val (.ref bA), .val (.int kk1), .val (.ref wf), .val (.int (2 : Int32)), .val (.int (1 : Int32)), .unset, .unset] [(.int p3)])) rfl (hb hby at_205) _ kS) ?_
  show own_G p.tables e below _ (T0.setTop (mkF m 207 #[.val (.long q1), .second, .val (.int p2), .val (.int p3), .val (.ref bA), .val (.int kk1), .val (.ref wf), .val (.int (2 : Int32)), .val (.int (1 : Int32)), .unset, .unset] [(.int (2147483647 : Int32)), (.int p3)]))
  refine own_st (fun _ kS => XS.iand X0.here hx rfl (hb hby at_207) rfl kS) ?_
  show own_G p.tables e below _ (T0.setTop (mkF m 208 #[.val (.long q1), .second, .val (.int p2), .val (.int p3), .val (.ref bA), .val (.int kk1), .val (.ref wf), .val (.int (2 : Int32)), .val (.int (1 : Int32)), .unset, .unset] [(.int (p3 &&& (2147483647 : Int32)))]))
  refine own_st (fun _ kS => XS.bipush X0.here hx rfl (hb hby at_208) kS) ?_
  show own_G p.tables e below _ (T0.setTop (mkF m 210 #[.val (.long q1), .second, .val (.int p2), .val (.int p3), .val (.ref bA), .val (.int kk1), .val (.ref wf), .val (.int (2 : Int32)), .val (.int (1 : Int32)), .unset, .unset] [(.int (9 : Int32)), (.int (p3 &&& (2147483647 : Int32)))]))
  refine own_st (fun _ kS => XS.iload X0.here hx rfl (hb hby at_210) rfl kS) ?_
  show own_G p.tables e below _ (T0.setTop (mkF m 212 #[.val (.long q1), .second, .val (.int p2), .val (.int p3), .val (.ref bA), .val (.int kk1), .val (.ref wf), .val (.int (2 : Int32)), .val (.int (1 : Int32)), .unset, .unset] [(.int (2 : Int32)), (.int (9 : Int32)), (.int (p3 &&& (2147483647 : Int32)))]))
  refine own_st (fun _ kS => XS.isub X0.here hx rfl (hb hby at_212) rfl kS) ?_
  show own_G p.tables e below _ (T0.setTop (mkF m 213 #[.val (.long q1), .second, .val (.int p2), .val (.int p3), .val (.ref bA), .val (.int kk1), .val (.ref wf), .val (.int (2 : Int32)), .val (.int (1 : Int32)), .unset, .unset] [(.int (7 : Int32)), (.int (p3 &&& (2147483647 : Int32)))]))
  refine own_st (fun _ kS => iremM (g := (mkF m 213 #[.val (.long q1), .second, .val (.int p2), .val (.int p3), .val (.ref bA), .val (.int kk1), .val (.ref wf), .val (.int (2 : Int32)), .val (.int (1 : Int32)), .unset, .unset] [(.int (7 : Int32)), (.int (p3 &&& (2147483647 : Int32)))])) X0 hx rfl (hb hby at_213) rfl (by decide) kS) ?_
  show own_G p.tables e below _ (T0.setTop (mkF m 214 #[.val (.long q1), .second, .val (.int p2), .val (.int p3), .val (.ref bA), .val (.int kk1), .val (.ref wf), .val (.int (2 : Int32)), .val (.int (1 : Int32)), .unset, .unset] [(.int ((p3 &&& (2147483647 : Int32)) % (7 : Int32)))]))
  obtain ⟨at1, hat⟩ : ∃ z, z = ((p3 &&& (2147483647 : Int32)) % (7 : Int32)) := ⟨_, rfl⟩
  have hbn : 0 ≤ at1.toInt ∧ at1.toInt < 7 := by rw [hat]; exact ⟨(own_mod p3 7 7 (by decide) (by decide)).1, (own_mod p3 7 7 (by decide) (by decide)).2.1⟩
  rw [← hat]
  show own_G p.tables e below _ (T0.setTop (mkF m 214 #[.val (.long q1), .second, .val (.int p2), .val (.int p3), .val (.ref bA), .val (.int kk1), .val (.ref wf), .val (.int (2 : Int32)), .val (.int (1 : Int32)), .unset, .unset] [(.int at1)]))
  refine own_st (fun _ kS => XS.istore X0.here hx rfl (hb hby at_214) rfl (l' := #[.val (.long q1), .second, .val (.int p2), .val (.int p3), .val (.ref bA), .val (.int kk1), .val (.ref wf), .val (.int (2 : Int32)), .val (.int (1 : Int32)), .val (.int at1), .unset]) rfl kS) ?_
  show own_G p.tables e below _ (T0.setTop (mkF m 216 #[.val (.long q1), .second, .val (.int p2), .val (.int p3), .val (.ref bA), .val (.int kk1), .val (.ref wf), .val (.int (2 : Int32)), .val (.int (1 : Int32)), .val (.int at1), .unset] []))
  refine own_st (fun _ kS => XS.iload X0.here hx rfl (hb hby at_216) rfl kS) ?_
  show own_G p.tables e below _ (T0.setTop (mkF m 218 #[.val (.long q1), .second, .val (.int p2), .val (.int p3), .val (.ref bA), .val (.int kk1), .val (.ref wf), .val (.int (2 : Int32)), .val (.int (1 : Int32)), .val (.int at1), .unset] [(.int (2 : Int32))]))
  refine own_st (fun _ kS => XS.iconst X0.here hx rfl (hb hby at_218) kS) ?_
  show own_G p.tables e below _ (T0.setTop (mkF m 219 #[.val (.long q1), .second, .val (.int p2), .val (.int p3), .val (.ref bA), .val (.int kk1), .val (.ref wf), .val (.int (2 : Int32)), .val (.int (1 : Int32)), .val (.int at1), .unset] [(.int (1 : Int32)), (.int (2 : Int32))]))
  refine own_st (fun _ kS => XS.icmpYes X0.here hx rfl (pc0 := 219) (pc' := 234) rfl (hb hby at_219) rfl (feq (by decide : ¬ ((2 : Int32) = (1 : Int32)))).2 (by decide) (by decide) kS) ?_
  show own_G p.tables e below _ (T0.setTop (mkF m 234 #[.val (.long q1), .second, .val (.int p2), .val (.int p3), .val (.ref bA), .val (.int kk1), .val (.ref wf), .val (.int (2 : Int32)), .val (.int (1 : Int32)), .val (.int at1), .unset] []))
  refine own_st (fun _ kS => XS.iload X0.here hx rfl (hb hby at_234) rfl kS) ?_
  show own_G p.tables e below _ (T0.setTop (mkF m 236 #[.val (.long q1), .second, .val (.int p2), .val (.int p3), .val (.ref bA), .val (.int kk1), .val (.ref wf), .val (.int (2 : Int32)), .val (.int (1 : Int32)), .val (.int at1), .unset] [(.int (2 : Int32))]))
  refine own_st (fun _ kS => XS.iconst X0.here hx rfl (hb hby at_236) kS) ?_
  show own_G p.tables e below _ (T0.setTop (mkF m 237 #[.val (.long q1), .second, .val (.int p2), .val (.int p3), .val (.ref bA), .val (.int kk1), .val (.ref wf), .val (.int (2 : Int32)), .val (.int (1 : Int32)), .val (.int at1), .unset] [(.int (2 : Int32)), (.int (2 : Int32))]))
  refine own_st (fun _ kS => XS.icmpNo X0.here hx rfl (hb hby at_237) rfl (teq (by decide : (2 : Int32) = (2 : Int32))).2 kS) ?_
  show own_G p.tables e below _ (T0.setTop (mkF m 240 #[.val (.long q1), .second, .val (.int p2), .val (.int p3), .val (.ref bA), .val (.int kk1), .val (.ref wf), .val (.int (2 : Int32)), .val (.int (1 : Int32)), .val (.int at1), .unset] []))
  refine own_st (fun _ kS => XS.iload X0.here hx rfl (hb hby at_240) rfl kS) ?_
  show own_G p.tables e below _ (T0.setTop (mkF m 242 #[.val (.long q1), .second, .val (.int p2), .val (.int p3), .val (.ref bA), .val (.int kk1), .val (.ref wf), .val (.int (2 : Int32)), .val (.int (1 : Int32)), .val (.int at1), .unset] [(.int (1 : Int32))]))
  refine own_st (fun _ kS => XS.ifNo X0.here hx rfl (hb hby at_242) rfl ((if0 _ _).trans (feq (by decide : ¬ ((1 : Int32) = (0 : Int32)))).1) kS) ?_
  show own_G p.tables e below _ (T0.setTop (mkF m 245 #[.val (.long q1), .second, .val (.int p2), .val (.int p3), .val (.ref bA), .val (.int kk1), .val (.ref wf), .val (.int (2 : Int32)), .val (.int (1 : Int32)), .val (.int at1), .unset] []))
  refine own_st (fun _ kS => XS.aload X0.here hx rfl (hb hby at_245) rfl rfl kS) ?_
  show own_G p.tables e below _ (T0.setTop (mkF m 247 #[.val (.long q1), .second, .val (.int p2), .val (.int p3), .val (.ref bA), .val (.int kk1), .val (.ref wf), .val (.int (2 : Int32)), .val (.int (1 : Int32)), .val (.int at1), .unset] [(.ref bA)]))
  refine own_st (fun _ kS => XS.iload X0.here hx rfl (hb hby at_247) rfl kS) ?_
  show own_G p.tables e below _ (T0.setTop (mkF m 249 #[.val (.long q1), .second, .val (.int p2), .val (.int p3), .val (.ref bA), .val (.int kk1), .val (.ref wf), .val (.int (2 : Int32)), .val (.int (1 : Int32)), .val (.int at1), .unset] [(.int at1), (.ref bA)]))
  refine own_st (fun _ kS => XS.iconst X0.here hx rfl (hb hby at_249) kS) ?_
  show own_G p.tables e below _ (T0.setTop (mkF m 250 #[.val (.long q1), .second, .val (.int p2), .val (.int p3), .val (.ref bA), .val (.int kk1), .val (.ref wf), .val (.int (2 : Int32)), .val (.int (1 : Int32)), .val (.int at1), .unset] [(.int (1 : Int32)), (.int at1), (.ref bA)]))
  refine own_st (fun _ kS => XS.iadd X0.here hx rfl (hb hby at_250) rfl kS) ?_
  show own_G p.tables e below _ (T0.setTop (mkF m 251 #[.val (.long q1), .second, .val (.int p2), .val (.int p3), .val (.ref bA), .val (.int kk1), .val (.ref wf), .val (.int (2 : Int32)), .val (.int (1 : Int32)), .val (.int at1), .unset] [(.int (at1 + (1 : Int32))), (.ref bA)]))
  obtain ⟨_, _, ⟨T1, L1, k1, n1⟩, -, X1, ⟨Lc1, hQ1, l1, y1, z1⟩, st1⟩ := Jvm.LawKit.callS X0 hx (y := (⟨"com/example/provenir/provenir/TextEncodingUnitAtPinLaw", "u", "([BI)I"⟩ : MethodName)) hown (mvT hZ (hw _ (List.mem_of_getElem? (i := 5) rfl))) (mvT hZ (hw _ (List.mem_of_getElem? (i := 6) rfl))) (mvT hZ (hw _ (List.mem_of_getElem? (i := 7) rfl))) (mvT hZ (hw _ (List.mem_of_getElem? (i := 8) rfl))) (by decide) (backOf (W := 0) (rm_u l Z a0 hw [] bA cB (at1 + (1 : Int32)) h0 n0 Z0  Tb (own_inb hbn 1 (by decide))) hZ (hw _ (List.mem_of_getElem? (i := 8) rfl)) (hw _ (List.mem_of_getElem? (i := 7) rfl)) (by decide) (by decide)) (g := (mkF m 251 #[.val (.long q1), .second, .val (.int p2), .val (.int p3), .val (.ref bA), .val (.int kk1), .val (.ref wf), .val (.int (2 : Int32)), .val (.int (1 : Int32)), .val (.int at1), .unset] [(.int (at1 + (1 : Int32))), (.ref bA)])) rfl (by rw [hml]; rfl) (argsL := [(.ref bA), (.int (at1 + (1 : Int32)))]) (rest := []) (lenOf own_pd0 rfl) rfl (by show 2 * 0 + _ ≤ _; exact Nat.le_of_eq rfl) (hb hby at_251) (fun _ _ => ⟨rfl, e0, (by decide : 1 + 0 ≤ _), (by decide : 8 + 0 ≤ _)⟩)
  dsimp only [Pt.U, Pt.locs, Pt.cells, Pt.slots] at X1 l1 y1 z1 st1 hQ1
  subst l1 y1 z1
  obtain ⟨rfl, Nq1, eq1⟩ := hQ1
  have N1 := Fr.app N0 Nq1
  refine own_st st1 ?_
  show own_G p.tables e below _ (T1.setTop (mkF m 254 #[.val (.long q1), .second, .val (.int p2), .val (.int p3), .val (.ref bA), .val (.int kk1), .val (.ref wf), .val (.int (2 : Int32)), .val (.int (1 : Int32)), .val (.int at1), .unset] [(.int ((atv cB (at1 + (1 : Int32))) &&& (255 : Int32)))]))
  refine own_st (fun _ kS => XS.bipush X1.here hx rfl (hb hby at_254) kS) ?_
  show own_G p.tables e below _ (T1.setTop (mkF m 256 #[.val (.long q1), .second, .val (.int p2), .val (.int p3), .val (.ref bA), .val (.int kk1), .val (.ref wf), .val (.int (2 : Int32)), .val (.int (1 : Int32)), .val (.int at1), .unset] [(.int (8 : Int32)), (.int ((atv cB (at1 + (1 : Int32))) &&& (255 : Int32)))]))
  refine own_st (fun _ kS => XT.ishl X1.here hx rfl (hb hby at_256) rfl kS) ?_
  show own_G p.tables e below _ (T1.setTop (mkF m 257 #[.val (.long q1), .second, .val (.int p2), .val (.int p3), .val (.ref bA), .val (.int kk1), .val (.ref wf), .val (.int (2 : Int32)), .val (.int (1 : Int32)), .val (.int at1), .unset] [(.int (((atv cB (at1 + (1 : Int32))) &&& (255 : Int32)) <<< ((8 : Int32) &&& 31)))]))
  refine own_st (fun _ kS => XS.aload X1.here hx rfl (hb hby at_257) rfl rfl kS) ?_
  show own_G p.tables e below _ (T1.setTop (mkF m 259 #[.val (.long q1), .second, .val (.int p2), .val (.int p3), .val (.ref bA), .val (.int kk1), .val (.ref wf), .val (.int (2 : Int32)), .val (.int (1 : Int32)), .val (.int at1), .unset] [(.ref bA), (.int (((atv cB (at1 + (1 : Int32))) &&& (255 : Int32)) <<< ((8 : Int32) &&& 31)))]))
  refine own_st (fun _ kS => XS.iload X1.here hx rfl (hb hby at_259) rfl kS) ?_
  show own_G p.tables e below _ (T1.setTop (mkF m 261 #[.val (.long q1), .second, .val (.int p2), .val (.int p3), .val (.ref bA), .val (.int kk1), .val (.ref wf), .val (.int (2 : Int32)), .val (.int (1 : Int32)), .val (.int at1), .unset] [(.int at1), (.ref bA), (.int (((atv cB (at1 + (1 : Int32))) &&& (255 : Int32)) <<< ((8 : Int32) &&& 31)))]))
  obtain ⟨_, _, ⟨T2, L2, k2, n2⟩, -, X2, ⟨Lc2, hQ2, l2, y2, z2⟩, st2⟩ := Jvm.LawKit.callS X1 hx (y := (⟨"com/example/provenir/provenir/TextEncodingUnitAtPinLaw", "u", "([BI)I"⟩ : MethodName)) hown (mvT hZ (hw _ (List.mem_of_getElem? (i := 5) rfl))) (mvT hZ (hw _ (List.mem_of_getElem? (i := 6) rfl))) (mvT hZ (hw _ (List.mem_of_getElem? (i := 7) rfl))) (mvT hZ (hw _ (List.mem_of_getElem? (i := 8) rfl))) (by decide) (backOf (W := 1) (rm_u l Z a0 hw [] bA cB at1 h0 n0 Z0  Tb (own_inb0 hbn (by decide))) hZ (hw _ (List.mem_of_getElem? (i := 8) rfl)) (hw _ (List.mem_of_getElem? (i := 7) rfl)) (by decide) (by decide)) (g := (mkF m 261 #[.val (.long q1), .second, .val (.int p2), .val (.int p3), .val (.ref bA), .val (.int kk1), .val (.ref wf), .val (.int (2 : Int32)), .val (.int (1 : Int32)), .val (.int at1), .unset] [(.int at1), (.ref bA), (.int (((atv cB (at1 + (1 : Int32))) &&& (255 : Int32)) <<< ((8 : Int32) &&& 31)))])) rfl (by rw [hml]; rfl) (argsL := [(.ref bA), (.int at1)]) (rest := [(.int (((atv cB (at1 + (1 : Int32))) &&& (255 : Int32)) <<< ((8 : Int32) &&& 31)))]) (lenOf own_pd0 rfl) rfl (by show 2 * 0 + _ ≤ _; exact Nat.le_of_eq rfl) (hb hby at_261) (fun _ _ => ⟨rfl, eq1, (by decide : 1 + 0 ≤ _), (by decide : 8 + 0 ≤ _)⟩)
  dsimp only [Pt.U, Pt.locs, Pt.cells, Pt.slots] at X2 l2 y2 z2 st2 hQ2
  subst l2 y2 z2
  obtain ⟨rfl, Nq2, eq2⟩ := hQ2
  have N2 := Fr.app N1 Nq2
  refine own_st st2 ?_
  show own_G p.tables e below _ (T2.setTop (mkF m 264 #[.val (.long q1), .second, .val (.int p2), .val (.int p3), .val (.ref bA), .val (.int kk1), .val (.ref wf), .val (.int (2 : Int32)), .val (.int (1 : Int32)), .val (.int at1), .unset] [(.int ((atv cB at1) &&& (255 : Int32))), (.int (((atv cB (at1 + (1 : Int32))) &&& (255 : Int32)) <<< ((8 : Int32) &&& 31)))]))
  refine own_st (fun _ kS => XT.ior X2.here hx rfl (hb hby at_264) rfl kS) ?_
  show own_G p.tables e below _ (T2.setTop (mkF m 265 #[.val (.long q1), .second, .val (.int p2), .val (.int p3), .val (.ref bA), .val (.int kk1), .val (.ref wf), .val (.int (2 : Int32)), .val (.int (1 : Int32)), .val (.int at1), .unset] [(.int ((((atv cB (at1 + (1 : Int32))) &&& (255 : Int32)) <<< ((8 : Int32) &&& 31)) ||| ((atv cB at1) &&& (255 : Int32))))]))
  refine own_st (fun _ kS => XS.goto X2.here hx rfl (pc0 := 265) (pc' := 288) rfl (hb hby at_265) (by decide) (by decide) kS) ?_
  show own_G p.tables e below _ (T2.setTop (mkF m 288 #[.val (.long q1), .second, .val (.int p2), .val (.int p3), .val (.ref bA), .val (.int kk1), .val (.ref wf), .val (.int (2 : Int32)), .val (.int (1 : Int32)), .val (.int at1), .unset] [(.int ((((atv cB (at1 + (1 : Int32))) &&& (255 : Int32)) <<< ((8 : Int32) &&& 31)) ||| ((atv cB at1) &&& (255 : Int32))))]))
  refine own_st (fun _ kS => XS.istore X2.here hx rfl (hb hby at_288) rfl (l' := #[.val (.long q1), .second, .val (.int p2), .val (.int p3), .val (.ref bA), .val (.int kk1), .val (.ref wf), .val (.int (2 : Int32)), .val (.int (1 : Int32)), .val (.int at1), .val (.int ((((atv cB (at1 + (1 : Int32))) &&& (255 : Int32)) <<< ((8 : Int32) &&& 31)) ||| ((atv cB at1) &&& (255 : Int32))))]) rfl kS) ?_
  show own_G p.tables e below _ (T2.setTop (mkF m 290 #[.val (.long q1), .second, .val (.int p2), .val (.int p3), .val (.ref bA), .val (.int kk1), .val (.ref wf), .val (.int (2 : Int32)), .val (.int (1 : Int32)), .val (.int at1), .val (.int ((((atv cB (at1 + (1 : Int32))) &&& (255 : Int32)) <<< ((8 : Int32) &&& 31)) ||| ((atv cB at1) &&& (255 : Int32))))] []))
  refine own_st (fun _ kS => XS.goto X2.here hx rfl (pc0 := 290) (pc' := 395) rfl (hb hby at_290) (by decide) (by decide) kS) ?_
  show own_G p.tables e below _ (T2.setTop (mkF m 395 #[.val (.long q1), .second, .val (.int p2), .val (.int p3), .val (.ref bA), .val (.int kk1), .val (.ref wf), .val (.int (2 : Int32)), .val (.int (1 : Int32)), .val (.int at1), .val (.int ((((atv cB (at1 + (1 : Int32))) &&& (255 : Int32)) <<< ((8 : Int32) &&& 31)) ||| ((atv cB at1) &&& (255 : Int32))))] []))
  refine own_st (fun _ kS => XS.aload X2.here hx rfl (hb hby at_395) rfl rfl kS) ?_
  show own_G p.tables e below _ (T2.setTop (mkF m 397 #[.val (.long q1), .second, .val (.int p2), .val (.int p3), .val (.ref bA), .val (.int kk1), .val (.ref wf), .val (.int (2 : Int32)), .val (.int (1 : Int32)), .val (.int at1), .val (.int ((((atv cB (at1 + (1 : Int32))) &&& (255 : Int32)) <<< ((8 : Int32) &&& 31)) ||| ((atv cB at1) &&& (255 : Int32))))] [(.ref wf)]))
  refine own_st (fun _ kS => XS.aload X2.here hx rfl (hb hby at_397) rfl rfl kS) ?_
  show own_G p.tables e below _ (T2.setTop (mkF m 399 #[.val (.long q1), .second, .val (.int p2), .val (.int p3), .val (.ref bA), .val (.int kk1), .val (.ref wf), .val (.int (2 : Int32)), .val (.int (1 : Int32)), .val (.int at1), .val (.int ((((atv cB (at1 + (1 : Int32))) &&& (255 : Int32)) <<< ((8 : Int32) &&& 31)) ||| ((atv cB at1) &&& (255 : Int32))))] [(.ref bA), (.ref wf)]))
  refine own_st (fun _ kS => XS.iload X2.here hx rfl (hb hby at_399) rfl kS) ?_
  show own_G p.tables e below _ (T2.setTop (mkF m 401 #[.val (.long q1), .second, .val (.int p2), .val (.int p3), .val (.ref bA), .val (.int kk1), .val (.ref wf), .val (.int (2 : Int32)), .val (.int (1 : Int32)), .val (.int at1), .val (.int ((((atv cB (at1 + (1 : Int32))) &&& (255 : Int32)) <<< ((8 : Int32) &&& 31)) ||| ((atv cB at1) &&& (255 : Int32))))] [(.int at1), (.ref bA), (.ref wf)]))
  obtain ⟨cq3, kq3, q3a, q3b, q3c⟩ := isOf hZ eq2 (Exa.ext O0.2 Ef)
  obtain ⟨_, _, ⟨T3, L3, k3, n3⟩, -, X3, ⟨Lc3, hQ3, l3, y3, z3⟩, st3⟩ := X2.virtualBack hx (y := (⟨"com/example/provenir/provenir/TextEncoding", "unitAt", "([BI)I"⟩ : MethodName)) (z := (⟨"com/example/provenir/provenir/TextEncoding", "unitAt", "([BI)I"⟩ : MethodName)) hown (mvT hZ (hw _ (List.mem_of_getElem? (i := 9) rfl))) (mvT hZ (hw _ (List.mem_of_getElem? (i := 10) rfl))) (notFace_of_selects (args := #[]) (mvT hZ (hw _ (List.mem_of_getElem? (i := 12) rfl)))) (mvT hZ (hw _ (List.mem_of_getElem? (i := 12) rfl))) (mvT hZ (hw _ (List.mem_of_getElem? (i := 11) rfl))) (by decide) (backOf (W := 0) (rm_unitAt_2_1 l Z a0 hw [] wf bA cB at1 h0 n0 Z0 O0 Fw Fl Tb hbn) hZ (hw _ (List.mem_of_getElem? (i := 13) rfl)) (hw _ (List.mem_of_getElem? (i := 3) rfl)) (by decide) (by decide)) q3a q3c (g := (mkF m 401 #[.val (.long q1), .second, .val (.int p2), .val (.int p3), .val (.ref bA), .val (.int kk1), .val (.ref wf), .val (.int (2 : Int32)), .val (.int (1 : Int32)), .val (.int at1), .val (.int ((((atv cB (at1 + (1 : Int32))) &&& (255 : Int32)) <<< ((8 : Int32) &&& 31)) ||| ((atv cB at1) &&& (255 : Int32))))] [(.int at1), (.ref bA), (.ref wf)])) rfl (by rw [hml]; rfl) (Steps.refl _) (argsL := [(.ref bA), (.int at1)]) (rest := []) (lenOf own_pd0 rfl) rfl (by show 2 * 0 + _ ≤ _; exact Nat.le_of_eq rfl) (hb hby at_401) (fun _ _ => ⟨rfl, eq2, (by decide : 1 + 0 ≤ _), (by decide : 8 + 0 ≤ _)⟩)
  dsimp only [Pt.U, Pt.locs, Pt.cells, Pt.slots] at X3 l3 y3 z3 st3 hQ3
  subst l3 y3 z3
  obtain ⟨rfl, Nq3, eq3⟩ := hQ3
  have N3 := Fr.app N2 Nq3
  refine own_tr st3 ?_
  show own_G p.tables e below _ (T3.setTop (mkF m 404 #[.val (.long q1), .second, .val (.int p2), .val (.int p3), .val (.ref bA), .val (.int kk1), .val (.ref wf), .val (.int (2 : Int32)), .val (.int (1 : Int32)), .val (.int at1), .val (.int ((((atv cB (at1 + (1 : Int32))) &&& (255 : Int32)) <<< ((8 : Int32) &&& 31)) ||| ((atv cB at1) &&& (255 : Int32))))] [(.int ((((0 : Int32) ||| ((atv cB (at1 + (1 : Int32))) &&& (255 : Int32))) <<< ((8 : Int32) &&& 31)) ||| ((atv cB at1) &&& (255 : Int32))))]))
  refine own_st (fun _ kS => XS.iload X3.here hx rfl (hb hby at_404) rfl kS) ?_
  show own_G p.tables e below _ (T3.setTop (mkF m 406 #[.val (.long q1), .second, .val (.int p2), .val (.int p3), .val (.ref bA), .val (.int kk1), .val (.ref wf), .val (.int (2 : Int32)), .val (.int (1 : Int32)), .val (.int at1), .val (.int ((((atv cB (at1 + (1 : Int32))) &&& (255 : Int32)) <<< ((8 : Int32) &&& 31)) ||| ((atv cB at1) &&& (255 : Int32))))] [(.int ((((atv cB (at1 + (1 : Int32))) &&& (255 : Int32)) <<< ((8 : Int32) &&& 31)) ||| ((atv cB at1) &&& (255 : Int32)))), (.int ((((0 : Int32) ||| ((atv cB (at1 + (1 : Int32))) &&& (255 : Int32))) <<< ((8 : Int32) &&& 31)) ||| ((atv cB at1) &&& (255 : Int32))))]))
  refine own_st (fun _ kS => XS.icmpNo X3.here hx rfl (hb hby at_406) rfl (teq (own_eq2 _ _ : ((((0 : Int32) ||| ((atv cB (at1 + (1 : Int32))) &&& (255 : Int32))) <<< ((8 : Int32) &&& 31)) ||| ((atv cB at1) &&& (255 : Int32))) = ((((atv cB (at1 + (1 : Int32))) &&& (255 : Int32)) <<< ((8 : Int32) &&& 31)) ||| ((atv cB at1) &&& (255 : Int32))))).2 kS) ?_
  show own_G p.tables e below _ (T3.setTop (mkF m 409 #[.val (.long q1), .second, .val (.int p2), .val (.int p3), .val (.ref bA), .val (.int kk1), .val (.ref wf), .val (.int (2 : Int32)), .val (.int (1 : Int32)), .val (.int at1), .val (.int ((((atv cB (at1 + (1 : Int32))) &&& (255 : Int32)) <<< ((8 : Int32) &&& 31)) ||| ((atv cB at1) &&& (255 : Int32))))] []))
  refine own_st (fun _ kS => XS.iconst X3.here hx rfl (hb hby at_409) kS) ?_
  show own_G p.tables e below _ (T3.setTop (mkF m 410 #[.val (.long q1), .second, .val (.int p2), .val (.int p3), .val (.ref bA), .val (.int kk1), .val (.ref wf), .val (.int (2 : Int32)), .val (.int (1 : Int32)), .val (.int at1), .val (.int ((((atv cB (at1 + (1 : Int32))) &&& (255 : Int32)) <<< ((8 : Int32) &&& 31)) ||| ((atv cB at1) &&& (255 : Int32))))] [(.int (1 : Int32))]))
  refine own_st (fun _ kS => XS.goto X3.here hx rfl (pc0 := 410) (pc' := 414) rfl (hb hby at_410) (by decide) (by decide) kS) ?_
  show own_G p.tables e below _ (T3.setTop (mkF m 414 #[.val (.long q1), .second, .val (.int p2), .val (.int p3), .val (.ref bA), .val (.int kk1), .val (.ref wf), .val (.int (2 : Int32)), .val (.int (1 : Int32)), .val (.int at1), .val (.int ((((atv cB (at1 + (1 : Int32))) &&& (255 : Int32)) <<< ((8 : Int32) &&& 31)) ||| ((atv cB at1) &&& (255 : Int32))))] [(.int (1 : Int32))]))
  exact own_retN X3 hx hlk (t := .boolean) hret (by simp) (hb hby at_414) (by decide) (by decide) (v' := (1 : Int32)) rfl (by rw [eq3]; exact ⟨rfl, N3⟩)
theorem ef_law (m : MethodId) (x0 : Int64) (x1 : Int32) (x2 : Int32) : entryFrame m #[(.long x0), (.int x1), (.int x2)] maxLocals = mkF m 0 #[.val (.long x0), .second, .val (.int x1), .val (.int x2), .unset, .unset, .unset, .unset, .unset, .unset, .unset] [] := by first | (simp [entryFrame, mkF, argsToLocals, Value.category, maxLocals]; done) | rfl
set_option maxRecDepth 65536 in
set_option maxHeartbeats 40000000 in
theorem rm_law (l : Launch) (Z : State) (a0 : Array Value) (hw : ∀ d ∈ tables_1, d.before a0 Z = true) (ws : List Jvm.Cond) (q1 : Int64) (p2 : Int32) (p3 : Int32) (w_UTF_8 : Addr) (w_UTF_32BE : Addr) (w_UTF_32LE : Addr) (w_UTF_16BE : Addr) (w_UTF_16LE : Addr) (w_UNMARKED : Addr) (h0 : Heap) (n0 : Nat) (Z0 : n0 ≤ h0.size) (O0 : Old Z n0 h0) (S_UTF_8 : Sta Z Z.heap "com/example/provenir/provenir/TextEncoding" "UTF_8" "Lcom/example/provenir/provenir/TextEncoding;" (.ref w_UTF_8)) (S_UTF_32BE : Sta Z Z.heap "com/example/provenir/provenir/TextEncoding" "UTF_32BE" "Lcom/example/provenir/provenir/TextEncoding;" (.ref w_UTF_32BE)) (S_UTF_32LE : Sta Z Z.heap "com/example/provenir/provenir/TextEncoding" "UTF_32LE" "Lcom/example/provenir/provenir/TextEncoding;" (.ref w_UTF_32LE)) (S_UTF_16BE : Sta Z Z.heap "com/example/provenir/provenir/TextEncoding" "UTF_16BE" "Lcom/example/provenir/provenir/TextEncoding;" (.ref w_UTF_16BE)) (S_UTF_16LE : Sta Z Z.heap "com/example/provenir/provenir/TextEncoding" "UTF_16LE" "Lcom/example/provenir/provenir/TextEncoding;" (.ref w_UTF_16LE)) (S_UNMARKED : Sta Z Z.heap "com/example/provenir/provenir/TextEncoding" "UNMARKED" "Lcom/example/provenir/provenir/TextEncoding;" (.ref w_UNMARKED)) (E_UTF_8 : Exa Z Z.heap w_UTF_8 "com/example/provenir/provenir/TextEncoding") (E_UTF_32BE : Exa Z Z.heap w_UTF_32BE "com/example/provenir/provenir/TextEncoding") (E_UTF_32LE : Exa Z Z.heap w_UTF_32LE "com/example/provenir/provenir/TextEncoding") (E_UTF_16BE : Exa Z Z.heap w_UTF_16BE "com/example/provenir/provenir/TextEncoding") (E_UTF_16LE : Exa Z Z.heap w_UTF_16LE "com/example/provenir/provenir/TextEncoding") (E_UNMARKED : Exa Z Z.heap w_UNMARKED "com/example/provenir/provenir/TextEncoding") (F_UTF_8_width : Fld Z Z.heap w_UTF_8 "com/example/provenir/provenir/TextEncoding" "width" "I" (.int (1 : Int32))) (F_UTF_8_littleEndian : Fld Z Z.heap w_UTF_8 "com/example/provenir/provenir/TextEncoding" "littleEndian" "Z" (.int (0 : Int32))) (F_UTF_32BE_width : Fld Z Z.heap w_UTF_32BE "com/example/provenir/provenir/TextEncoding" "width" "I" (.int (4 : Int32))) (F_UTF_32BE_littleEndian : Fld Z Z.heap w_UTF_32BE "com/example/provenir/provenir/TextEncoding" "littleEndian" "Z" (.int (0 : Int32))) (F_UTF_32LE_width : Fld Z Z.heap w_UTF_32LE "com/example/provenir/provenir/TextEncoding" "width" "I" (.int (4 : Int32))) (F_UTF_32LE_littleEndian : Fld Z Z.heap w_UTF_32LE "com/example/provenir/provenir/TextEncoding" "littleEndian" "Z" (.int (1 : Int32))) (F_UTF_16BE_width : Fld Z Z.heap w_UTF_16BE "com/example/provenir/provenir/TextEncoding" "width" "I" (.int (2 : Int32))) (F_UTF_16BE_littleEndian : Fld Z Z.heap w_UTF_16BE "com/example/provenir/provenir/TextEncoding" "littleEndian" "Z" (.int (0 : Int32))) (F_UTF_16LE_width : Fld Z Z.heap w_UTF_16LE "com/example/provenir/provenir/TextEncoding" "width" "I" (.int (2 : Int32))) (F_UTF_16LE_littleEndian : Fld Z Z.heap w_UTF_16LE "com/example/provenir/provenir/TextEncoding" "littleEndian" "Z" (.int (1 : Int32))) (F_UNMARKED_width : Fld Z Z.heap w_UNMARKED "com/example/provenir/provenir/TextEncoding" "width" "I" (.int (1 : Int32))) (F_UNMARKED_littleEndian : Fld Z Z.heap w_UNMARKED "com/example/provenir/provenir/TextEncoding" "littleEndian" "Z" (.int (0 : Int32))) :
    MetFree l x (head1 (Jvm.Cond.code x code maxLocals ret :: ws) room_1) (fun a U => a = #[(.long q1), (.int p2), (.int p3)] ∧ Z.Warmed39 U.vm ∧ U.heap = h0) (fun _ _ _ _ _ => True) (fun _ U o U' => ∃ v L, o = .returned v ∧ Q_law n0 v U'.heap L ∧ FrameEnd U o U' L room_1.cells room_1.slots) := by
  refine MetFree.of_bodySF (plainFor_of_name pn_0) hisR ?_
  intro p e s m args below meth c s₁ Bd hml0 hP hK
  obtain ⟨rfl, hZ, hh⟩ := hP
  have hx := Bd.exec
  have hby := Bd.bytes
  have hml : c.maxLocals = 11 := hml0
  have hown : s.vm.findClass "com/example/provenir/provenir/TextEncodingUnitAtPinLaw" = some m.cls := findClass_of_methodNamed Bd.named
  have hnm := (name_of_methodNamed Bd.named Bd.method).1
  have hlk := Bd.notSynchronized
  have hret := Bd.returns
  have X0 : Stand p l e room_1 s m #[(.long q1), (.int p2), (.int p3)] below meth c s₁ [] 0 0 := Stand.of_body Bd
  have e0 : s₁.heap = h0 := by rw [← hh, Bd.state]; rfl
  have N0 := Fr.nil n0
  refine own_in room_1.cells room_1.slots (Q_law n0) (ef_law m q1 p2 p3) ?_
  show own_G p.tables e below _ (s₁.setTop (mkF m 0 #[.val (.long q1), .second, .val (.int p2), .val (.int p3), .unset, .unset, .unset, .unset, .unset, .unset, .unset] []))
  refine own_st (fun _ kS => XS.bipush X0.here hx rfl (hb hby at_0) kS) ?_
  show own_G p.tables e below _ (s₁.setTop (mkF m 2 #[.val (.long q1), .second, .val (.int p2), .val (.int p3), .unset, .unset, .unset, .unset, .unset, .unset, .unset] [(.int (8 : Int32))]))
  obtain ⟨T1, h1, k1, X1, e1, E1, A1, st1⟩ := newP X0 hx hZ (hw _ (List.mem_of_getElem? (i := 0) rfl)) e0 (g := (mkF m 2 #[.val (.long q1), .second, .val (.int p2), .val (.int p3), .unset, .unset, .unset, .unset, .unset, .unset, .unset] [(.int (8 : Int32))])) rfl (hb hby at_2) rfl (by decide) (cap := 8) (by decide) (by decide) (by decide) (by decide)
  obtain ⟨b1, g1⟩ : ∃ z, z = h0.size := ⟨_, rfl⟩
  have ge_b1 : n0 ≤ b1 := Nat.le_trans Z0 (Nat.le_of_eq g1.symm)
  rw [← g1] at A1 st1
  have O1 := O0.ext E1
  have R1 : Arv Z h1 b1 k1 .byte (8 : Int32) [(.int (0 : Int32)), (.int (0 : Int32)), (.int (0 : Int32)), (.int (0 : Int32)), (.int (0 : Int32)), (.int (0 : Int32)), (.int (0 : Int32)), (.int (0 : Int32))] (.int (0 : Int32)) := (Arv.new A1 (by decide)).pad (pad_rep [] (.int (0 : Int32)) 8)
  refine own_st st1 ?_
  show own_G p.tables e below _ (T1.setTop (mkF m 4 #[.val (.long q1), .second, .val (.int p2), .val (.int p3), .unset, .unset, .unset, .unset, .unset, .unset, .unset] [(.ref b1)]))
  refine own_st (fun _ kS => XS.astore X1.here hx rfl (hb hby at_4) rfl rfl (l' := #[.val (.long q1), .second, .val (.int p2), .val (.int p3), .val (.ref b1), .unset, .unset, .unset, .unset, .unset, .unset]) rfl kS) ?_
  show own_G p.tables e below _ (T1.setTop (mkF m 6 #[.val (.long q1), .second, .val (.int p2), .val (.int p3), .val (.ref b1), .unset, .unset, .unset, .unset, .unset, .unset] []))
  refine own_st (fun _ kS => XS.aload X1.here hx rfl (hb hby at_6) rfl rfl kS) ?_
  show own_G p.tables e below _ (T1.setTop (mkF m 8 #[.val (.long q1), .second, .val (.int p2), .val (.int p3), .val (.ref b1), .unset, .unset, .unset, .unset, .unset, .unset] [(.ref b1)]))
  refine own_st (fun _ kS => XS.iconst X1.here hx rfl (hb hby at_8) kS) ?_
  show own_G p.tables e below _ (T1.setTop (mkF m 9 #[.val (.long q1), .second, .val (.int p2), .val (.int p3), .val (.ref b1), .unset, .unset, .unset, .unset, .unset, .unset] [(.int (0 : Int32)), (.ref b1)]))
  refine own_st (fun _ kS => XT.lloadN X1.here hx rfl (hb hby at_9) rfl kS) ?_
  show own_G p.tables e below _ (T1.setTop (mkF m 10 #[.val (.long q1), .second, .val (.int p2), .val (.int p3), .val (.ref b1), .unset, .unset, .unset, .unset, .unset, .unset] [(.long q1), (.int (0 : Int32)), (.ref b1)]))
  refine own_st (fun _ kS => XT.l2i X1.here hx rfl (hb hby at_10) rfl kS) ?_
  show own_G p.tables e below _ (T1.setTop (mkF m 11 #[.val (.long q1), .second, .val (.int p2), .val (.int p3), .val (.ref b1), .unset, .unset, .unset, .unset, .unset, .unset] [(.int (q1.toInt32)), (.int (0 : Int32)), (.ref b1)]))
  refine own_st (fun _ kS => XT.i2b X1.here hx rfl (hb hby at_11) rfl kS) ?_
  show own_G p.tables e below _ (T1.setTop (mkF m 12 #[.val (.long q1), .second, .val (.int p2), .val (.int p3), .val (.ref b1), .unset, .unset, .unset, .unset, .unset, .unset] [(.int ((q1.toInt32).toInt8.toInt32)), (.int (0 : Int32)), (.ref b1)]))
  obtain ⟨cl2, Ar2, qa2, qs2, qn2, qh2, qg2⟩ := id R1
  obtain ⟨T2, h2, X2, e2, W2, st2⟩ := stB X1 hx hZ e1 Ar2 (j := (0 : Int32)) (inb_of qs2 ⟨by decide, by decide⟩) (g := (mkF m 12 #[.val (.long q1), .second, .val (.int p2), .val (.int p3), .val (.ref b1), .unset, .unset, .unset, .unset, .unset, .unset] [(.int ((q1.toInt32).toInt8.toInt32)), (.int (0 : Int32)), (.ref b1)])) rfl rfl (hb hby at_12)
  have N2 := Fr.snoc X2 N0 ge_b1
  have O2 := O1.wr W2 ge_b1
  have R2 : Arv Z h2 b1 k1 .byte (8 : Int32) [(.int (nar .byte ((q1.toInt32).toInt8.toInt32))), (.int (0 : Int32)), (.int (0 : Int32)), (.int (0 : Int32)), (.int (0 : Int32)), (.int (0 : Int32)), (.int (0 : Int32)), (.int (0 : Int32))] (.int (0 : Int32)) := Arv.set Ar2 qa2 qs2 qn2 qh2 qg2 (fits_nar_byte _) W2 0 rfl (Nat.le_of_ble_eq_true rfl)
  refine own_st st2 ?_
  show own_G p.tables e below _ (T2.setTop (mkF m 13 #[.val (.long q1), .second, .val (.int p2), .val (.int p3), .val (.ref b1), .unset, .unset, .unset, .unset, .unset, .unset] []))
  refine own_st (fun _ kS => XS.aload X2.here hx rfl (hb hby at_13) rfl rfl kS) ?_
  show own_G p.tables e below _ (T2.setTop (mkF m 15 #[.val (.long q1), .second, .val (.int p2), .val (.int p3), .val (.ref b1), .unset, .unset, .unset, .unset, .unset, .unset] [(.ref b1)]))
  refine own_st (fun _ kS => XS.iconst X2.here hx rfl (hb hby at_15) kS) ?_
  show own_G p.tables e below _ (T2.setTop (mkF m 16 #[.val (.long q1), .second, .val (.int p2), .val (.int p3), .val (.ref b1), .unset, .unset, .unset, .unset, .unset, .unset] [(.int (1 : Int32)), (.ref b1)]))
  refine own_st (fun _ kS => XT.lloadN X2.here hx rfl (hb hby at_16) rfl kS) ?_
  show own_G p.tables e below _ (T2.setTop (mkF m 17 #[.val (.long q1), .second, .val (.int p2), .val (.int p3), .val (.ref b1), .unset, .unset, .unset, .unset, .unset, .unset] [(.long q1), (.int (1 : Int32)), (.ref b1)]))
  refine own_st (fun _ kS => XS.bipush X2.here hx rfl (hb hby at_17) kS) ?_
  show own_G p.tables e below _ (T2.setTop (mkF m 19 #[.val (.long q1), .second, .val (.int p2), .val (.int p3), .val (.ref b1), .unset, .unset, .unset, .unset, .unset, .unset] [(.int (8 : Int32)), (.long q1), (.int (1 : Int32)), (.ref b1)]))
  refine own_st (fun _ kS => XT.lushr X2.here hx rfl (hb hby at_19) rfl kS) ?_
  show own_G p.tables e below _ (T2.setTop (mkF m 20 #[.val (.long q1), .second, .val (.int p2), .val (.int p3), .val (.ref b1), .unset, .unset, .unset, .unset, .unset, .unset] [(.long (XT.ushrL q1 (8 : Int32))), (.int (1 : Int32)), (.ref b1)]))
  refine own_st (fun _ kS => XT.l2i X2.here hx rfl (hb hby at_20) rfl kS) ?_
  show own_G p.tables e below _ (T2.setTop (mkF m 21 #[.val (.long q1), .second, .val (.int p2), .val (.int p3), .val (.ref b1), .unset, .unset, .unset, .unset, .unset, .unset] [(.int ((XT.ushrL q1 (8 : Int32)).toInt32)), (.int (1 : Int32)), (.ref b1)]))
  refine own_st (fun _ kS => XT.i2b X2.here hx rfl (hb hby at_21) rfl kS) ?_
  show own_G p.tables e below _ (T2.setTop (mkF m 22 #[.val (.long q1), .second, .val (.int p2), .val (.int p3), .val (.ref b1), .unset, .unset, .unset, .unset, .unset, .unset] [(.int (((XT.ushrL q1 (8 : Int32)).toInt32).toInt8.toInt32)), (.int (1 : Int32)), (.ref b1)]))
  obtain ⟨cl3, Ar3, qa3, qs3, qn3, qh3, qg3⟩ := id R2
  obtain ⟨T3, h3, X3, e3, W3, st3⟩ := stB X2 hx hZ e2 Ar3 (j := (1 : Int32)) (inb_of qs3 ⟨by decide, by decide⟩) (g := (mkF m 22 #[.val (.long q1), .second, .val (.int p2), .val (.int p3), .val (.ref b1), .unset, .unset, .unset, .unset, .unset, .unset] [(.int (((XT.ushrL q1 (8 : Int32)).toInt32).toInt8.toInt32)), (.int (1 : Int32)), (.ref b1)])) rfl rfl (hb hby at_22)
  have N3 := Fr.snoc X3 N2 ge_b1
  have O3 := O2.wr W3 ge_b1
  have R3 : Arv Z h3 b1 k1 .byte (8 : Int32) [(.int (nar .byte ((q1.toInt32).toInt8.toInt32))), (.int (nar .byte (((XT.ushrL q1 (8 : Int32)).toInt32).toInt8.toInt32))), (.int (0 : Int32)), (.int (0 : Int32)), (.int (0 : Int32)), (.int (0 : Int32)), (.int (0 : Int32)), (.int (0 : Int32))] (.int (0 : Int32)) := Arv.set Ar3 qa3 qs3 qn3 qh3 qg3 (fits_nar_byte _) W3 1 rfl (Nat.le_of_ble_eq_true rfl)
  refine own_st st3 ?_
  show own_G p.tables e below _ (T3.setTop (mkF m 23 #[.val (.long q1), .second, .val (.int p2), .val (.int p3), .val (.ref b1), .unset, .unset, .unset, .unset, .unset, .unset] []))
  refine own_st (fun _ kS => XS.aload X3.here hx rfl (hb hby at_23) rfl rfl kS) ?_
  show own_G p.tables e below _ (T3.setTop (mkF m 25 #[.val (.long q1), .second, .val (.int p2), .val (.int p3), .val (.ref b1), .unset, .unset, .unset, .unset, .unset, .unset] [(.ref b1)]))
  refine own_st (fun _ kS => XS.iconst X3.here hx rfl (hb hby at_25) kS) ?_
  show own_G p.tables e below _ (T3.setTop (mkF m 26 #[.val (.long q1), .second, .val (.int p2), .val (.int p3), .val (.ref b1), .unset, .unset, .unset, .unset, .unset, .unset] [(.int (2 : Int32)), (.ref b1)]))
  refine own_st (fun _ kS => XT.lloadN X3.here hx rfl (hb hby at_26) rfl kS) ?_
  show own_G p.tables e below _ (T3.setTop (mkF m 27 #[.val (.long q1), .second, .val (.int p2), .val (.int p3), .val (.ref b1), .unset, .unset, .unset, .unset, .unset, .unset] [(.long q1), (.int (2 : Int32)), (.ref b1)]))
  refine own_st (fun _ kS => XS.bipush X3.here hx rfl (hb hby at_27) kS) ?_
  show own_G p.tables e below _ (T3.setTop (mkF m 29 #[.val (.long q1), .second, .val (.int p2), .val (.int p3), .val (.ref b1), .unset, .unset, .unset, .unset, .unset, .unset] [(.int (16 : Int32)), (.long q1), (.int (2 : Int32)), (.ref b1)]))
  refine own_st (fun _ kS => XT.lushr X3.here hx rfl (hb hby at_29) rfl kS) ?_
  show own_G p.tables e below _ (T3.setTop (mkF m 30 #[.val (.long q1), .second, .val (.int p2), .val (.int p3), .val (.ref b1), .unset, .unset, .unset, .unset, .unset, .unset] [(.long (XT.ushrL q1 (16 : Int32))), (.int (2 : Int32)), (.ref b1)]))
  refine own_st (fun _ kS => XT.l2i X3.here hx rfl (hb hby at_30) rfl kS) ?_
  show own_G p.tables e below _ (T3.setTop (mkF m 31 #[.val (.long q1), .second, .val (.int p2), .val (.int p3), .val (.ref b1), .unset, .unset, .unset, .unset, .unset, .unset] [(.int ((XT.ushrL q1 (16 : Int32)).toInt32)), (.int (2 : Int32)), (.ref b1)]))
  refine own_st (fun _ kS => XT.i2b X3.here hx rfl (hb hby at_31) rfl kS) ?_
  show own_G p.tables e below _ (T3.setTop (mkF m 32 #[.val (.long q1), .second, .val (.int p2), .val (.int p3), .val (.ref b1), .unset, .unset, .unset, .unset, .unset, .unset] [(.int (((XT.ushrL q1 (16 : Int32)).toInt32).toInt8.toInt32)), (.int (2 : Int32)), (.ref b1)]))
  obtain ⟨cl4, Ar4, qa4, qs4, qn4, qh4, qg4⟩ := id R3
  obtain ⟨T4, h4, X4, e4, W4, st4⟩ := stB X3 hx hZ e3 Ar4 (j := (2 : Int32)) (inb_of qs4 ⟨by decide, by decide⟩) (g := (mkF m 32 #[.val (.long q1), .second, .val (.int p2), .val (.int p3), .val (.ref b1), .unset, .unset, .unset, .unset, .unset, .unset] [(.int (((XT.ushrL q1 (16 : Int32)).toInt32).toInt8.toInt32)), (.int (2 : Int32)), (.ref b1)])) rfl rfl (hb hby at_32)
  have N4 := Fr.snoc X4 N3 ge_b1
  have O4 := O3.wr W4 ge_b1
  have R4 : Arv Z h4 b1 k1 .byte (8 : Int32) [(.int (nar .byte ((q1.toInt32).toInt8.toInt32))), (.int (nar .byte (((XT.ushrL q1 (8 : Int32)).toInt32).toInt8.toInt32))), (.int (nar .byte (((XT.ushrL q1 (16 : Int32)).toInt32).toInt8.toInt32))), (.int (0 : Int32)), (.int (0 : Int32)), (.int (0 : Int32)), (.int (0 : Int32)), (.int (0 : Int32))] (.int (0 : Int32)) := Arv.set Ar4 qa4 qs4 qn4 qh4 qg4 (fits_nar_byte _) W4 2 rfl (Nat.le_of_ble_eq_true rfl)
  refine own_st st4 ?_
  show own_G p.tables e below _ (T4.setTop (mkF m 33 #[.val (.long q1), .second, .val (.int p2), .val (.int p3), .val (.ref b1), .unset, .unset, .unset, .unset, .unset, .unset] []))
  refine own_st (fun _ kS => XS.aload X4.here hx rfl (hb hby at_33) rfl rfl kS) ?_
  show own_G p.tables e below _ (T4.setTop (mkF m 35 #[.val (.long q1), .second, .val (.int p2), .val (.int p3), .val (.ref b1), .unset, .unset, .unset, .unset, .unset, .unset] [(.ref b1)]))
  refine own_st (fun _ kS => XS.iconst X4.here hx rfl (hb hby at_35) kS) ?_
  show own_G p.tables e below _ (T4.setTop (mkF m 36 #[.val (.long q1), .second, .val (.int p2), .val (.int p3), .val (.ref b1), .unset, .unset, .unset, .unset, .unset, .unset] [(.int (3 : Int32)), (.ref b1)]))
  refine own_st (fun _ kS => XT.lloadN X4.here hx rfl (hb hby at_36) rfl kS) ?_
  show own_G p.tables e below _ (T4.setTop (mkF m 37 #[.val (.long q1), .second, .val (.int p2), .val (.int p3), .val (.ref b1), .unset, .unset, .unset, .unset, .unset, .unset] [(.long q1), (.int (3 : Int32)), (.ref b1)]))
  refine own_st (fun _ kS => XS.bipush X4.here hx rfl (hb hby at_37) kS) ?_
  show own_G p.tables e below _ (T4.setTop (mkF m 39 #[.val (.long q1), .second, .val (.int p2), .val (.int p3), .val (.ref b1), .unset, .unset, .unset, .unset, .unset, .unset] [(.int (24 : Int32)), (.long q1), (.int (3 : Int32)), (.ref b1)]))
  refine own_st (fun _ kS => XT.lushr X4.here hx rfl (hb hby at_39) rfl kS) ?_
  show own_G p.tables e below _ (T4.setTop (mkF m 40 #[.val (.long q1), .second, .val (.int p2), .val (.int p3), .val (.ref b1), .unset, .unset, .unset, .unset, .unset, .unset] [(.long (XT.ushrL q1 (24 : Int32))), (.int (3 : Int32)), (.ref b1)]))
  refine own_st (fun _ kS => XT.l2i X4.here hx rfl (hb hby at_40) rfl kS) ?_
  show own_G p.tables e below _ (T4.setTop (mkF m 41 #[.val (.long q1), .second, .val (.int p2), .val (.int p3), .val (.ref b1), .unset, .unset, .unset, .unset, .unset, .unset] [(.int ((XT.ushrL q1 (24 : Int32)).toInt32)), (.int (3 : Int32)), (.ref b1)]))
  refine own_st (fun _ kS => XT.i2b X4.here hx rfl (hb hby at_41) rfl kS) ?_
  show own_G p.tables e below _ (T4.setTop (mkF m 42 #[.val (.long q1), .second, .val (.int p2), .val (.int p3), .val (.ref b1), .unset, .unset, .unset, .unset, .unset, .unset] [(.int (((XT.ushrL q1 (24 : Int32)).toInt32).toInt8.toInt32)), (.int (3 : Int32)), (.ref b1)]))
  obtain ⟨cl5, Ar5, qa5, qs5, qn5, qh5, qg5⟩ := id R4
  obtain ⟨T5, h5, X5, e5, W5, st5⟩ := stB X4 hx hZ e4 Ar5 (j := (3 : Int32)) (inb_of qs5 ⟨by decide, by decide⟩) (g := (mkF m 42 #[.val (.long q1), .second, .val (.int p2), .val (.int p3), .val (.ref b1), .unset, .unset, .unset, .unset, .unset, .unset] [(.int (((XT.ushrL q1 (24 : Int32)).toInt32).toInt8.toInt32)), (.int (3 : Int32)), (.ref b1)])) rfl rfl (hb hby at_42)
  have N5 := Fr.snoc X5 N4 ge_b1
  have O5 := O4.wr W5 ge_b1
  have R5 : Arv Z h5 b1 k1 .byte (8 : Int32) [(.int (nar .byte ((q1.toInt32).toInt8.toInt32))), (.int (nar .byte (((XT.ushrL q1 (8 : Int32)).toInt32).toInt8.toInt32))), (.int (nar .byte (((XT.ushrL q1 (16 : Int32)).toInt32).toInt8.toInt32))), (.int (nar .byte (((XT.ushrL q1 (24 : Int32)).toInt32).toInt8.toInt32))), (.int (0 : Int32)), (.int (0 : Int32)), (.int (0 : Int32)), (.int (0 : Int32))] (.int (0 : Int32)) := Arv.set Ar5 qa5 qs5 qn5 qh5 qg5 (fits_nar_byte _) W5 3 rfl (Nat.le_of_ble_eq_true rfl)
  refine own_st st5 ?_
  show own_G p.tables e below _ (T5.setTop (mkF m 43 #[.val (.long q1), .second, .val (.int p2), .val (.int p3), .val (.ref b1), .unset, .unset, .unset, .unset, .unset, .unset] []))
  refine own_st (fun _ kS => XS.aload X5.here hx rfl (hb hby at_43) rfl rfl kS) ?_
  show own_G p.tables e below _ (T5.setTop (mkF m 45 #[.val (.long q1), .second, .val (.int p2), .val (.int p3), .val (.ref b1), .unset, .unset, .unset, .unset, .unset, .unset] [(.ref b1)]))
  refine own_st (fun _ kS => XS.iconst X5.here hx rfl (hb hby at_45) kS) ?_
  show own_G p.tables e below _ (T5.setTop (mkF m 46 #[.val (.long q1), .second, .val (.int p2), .val (.int p3), .val (.ref b1), .unset, .unset, .unset, .unset, .unset, .unset] [(.int (4 : Int32)), (.ref b1)]))
  refine own_st (fun _ kS => XT.lloadN X5.here hx rfl (hb hby at_46) rfl kS) ?_
  show own_G p.tables e below _ (T5.setTop (mkF m 47 #[.val (.long q1), .second, .val (.int p2), .val (.int p3), .val (.ref b1), .unset, .unset, .unset, .unset, .unset, .unset] [(.long q1), (.int (4 : Int32)), (.ref b1)]))
  refine own_st (fun _ kS => XS.bipush X5.here hx rfl (hb hby at_47) kS) ?_
  show own_G p.tables e below _ (T5.setTop (mkF m 49 #[.val (.long q1), .second, .val (.int p2), .val (.int p3), .val (.ref b1), .unset, .unset, .unset, .unset, .unset, .unset] [(.int (32 : Int32)), (.long q1), (.int (4 : Int32)), (.ref b1)]))
  refine own_st (fun _ kS => XT.lushr X5.here hx rfl (hb hby at_49) rfl kS) ?_
  show own_G p.tables e below _ (T5.setTop (mkF m 50 #[.val (.long q1), .second, .val (.int p2), .val (.int p3), .val (.ref b1), .unset, .unset, .unset, .unset, .unset, .unset] [(.long (XT.ushrL q1 (32 : Int32))), (.int (4 : Int32)), (.ref b1)]))
  refine own_st (fun _ kS => XT.l2i X5.here hx rfl (hb hby at_50) rfl kS) ?_
  show own_G p.tables e below _ (T5.setTop (mkF m 51 #[.val (.long q1), .second, .val (.int p2), .val (.int p3), .val (.ref b1), .unset, .unset, .unset, .unset, .unset, .unset] [(.int ((XT.ushrL q1 (32 : Int32)).toInt32)), (.int (4 : Int32)), (.ref b1)]))
  refine own_st (fun _ kS => XT.i2b X5.here hx rfl (hb hby at_51) rfl kS) ?_
  show own_G p.tables e below _ (T5.setTop (mkF m 52 #[.val (.long q1), .second, .val (.int p2), .val (.int p3), .val (.ref b1), .unset, .unset, .unset, .unset, .unset, .unset] [(.int (((XT.ushrL q1 (32 : Int32)).toInt32).toInt8.toInt32)), (.int (4 : Int32)), (.ref b1)]))
  obtain ⟨cl6, Ar6, qa6, qs6, qn6, qh6, qg6⟩ := id R5
  obtain ⟨T6, h6, X6, e6, W6, st6⟩ := stB X5 hx hZ e5 Ar6 (j := (4 : Int32)) (inb_of qs6 ⟨by decide, by decide⟩) (g := (mkF m 52 #[.val (.long q1), .second, .val (.int p2), .val (.int p3), .val (.ref b1), .unset, .unset, .unset, .unset, .unset, .unset] [(.int (((XT.ushrL q1 (32 : Int32)).toInt32).toInt8.toInt32)), (.int (4 : Int32)), (.ref b1)])) rfl rfl (hb hby at_52)
  have N6 := Fr.snoc X6 N5 ge_b1
  have O6 := O5.wr W6 ge_b1
  have R6 : Arv Z h6 b1 k1 .byte (8 : Int32) [(.int (nar .byte ((q1.toInt32).toInt8.toInt32))), (.int (nar .byte (((XT.ushrL q1 (8 : Int32)).toInt32).toInt8.toInt32))), (.int (nar .byte (((XT.ushrL q1 (16 : Int32)).toInt32).toInt8.toInt32))), (.int (nar .byte (((XT.ushrL q1 (24 : Int32)).toInt32).toInt8.toInt32))), (.int (nar .byte (((XT.ushrL q1 (32 : Int32)).toInt32).toInt8.toInt32))), (.int (0 : Int32)), (.int (0 : Int32)), (.int (0 : Int32))] (.int (0 : Int32)) := Arv.set Ar6 qa6 qs6 qn6 qh6 qg6 (fits_nar_byte _) W6 4 rfl (Nat.le_of_ble_eq_true rfl)
  refine own_st st6 ?_
  show own_G p.tables e below _ (T6.setTop (mkF m 53 #[.val (.long q1), .second, .val (.int p2), .val (.int p3), .val (.ref b1), .unset, .unset, .unset, .unset, .unset, .unset] []))
  refine own_st (fun _ kS => XS.aload X6.here hx rfl (hb hby at_53) rfl rfl kS) ?_
  show own_G p.tables e below _ (T6.setTop (mkF m 55 #[.val (.long q1), .second, .val (.int p2), .val (.int p3), .val (.ref b1), .unset, .unset, .unset, .unset, .unset, .unset] [(.ref b1)]))
  refine own_st (fun _ kS => XS.iconst X6.here hx rfl (hb hby at_55) kS) ?_
  show own_G p.tables e below _ (T6.setTop (mkF m 56 #[.val (.long q1), .second, .val (.int p2), .val (.int p3), .val (.ref b1), .unset, .unset, .unset, .unset, .unset, .unset] [(.int (5 : Int32)), (.ref b1)]))
  refine own_st (fun _ kS => XT.lloadN X6.here hx rfl (hb hby at_56) rfl kS) ?_
  show own_G p.tables e below _ (T6.setTop (mkF m 57 #[.val (.long q1), .second, .val (.int p2), .val (.int p3), .val (.ref b1), .unset, .unset, .unset, .unset, .unset, .unset] [(.long q1), (.int (5 : Int32)), (.ref b1)]))
  refine own_st (fun _ kS => XS.bipush X6.here hx rfl (hb hby at_57) kS) ?_
  show own_G p.tables e below _ (T6.setTop (mkF m 59 #[.val (.long q1), .second, .val (.int p2), .val (.int p3), .val (.ref b1), .unset, .unset, .unset, .unset, .unset, .unset] [(.int (40 : Int32)), (.long q1), (.int (5 : Int32)), (.ref b1)]))
  refine own_st (fun _ kS => XT.lushr X6.here hx rfl (hb hby at_59) rfl kS) ?_
  show own_G p.tables e below _ (T6.setTop (mkF m 60 #[.val (.long q1), .second, .val (.int p2), .val (.int p3), .val (.ref b1), .unset, .unset, .unset, .unset, .unset, .unset] [(.long (XT.ushrL q1 (40 : Int32))), (.int (5 : Int32)), (.ref b1)]))
  refine own_st (fun _ kS => XT.l2i X6.here hx rfl (hb hby at_60) rfl kS) ?_
  show own_G p.tables e below _ (T6.setTop (mkF m 61 #[.val (.long q1), .second, .val (.int p2), .val (.int p3), .val (.ref b1), .unset, .unset, .unset, .unset, .unset, .unset] [(.int ((XT.ushrL q1 (40 : Int32)).toInt32)), (.int (5 : Int32)), (.ref b1)]))
  refine own_st (fun _ kS => XT.i2b X6.here hx rfl (hb hby at_61) rfl kS) ?_
  show own_G p.tables e below _ (T6.setTop (mkF m 62 #[.val (.long q1), .second, .val (.int p2), .val (.int p3), .val (.ref b1), .unset, .unset, .unset, .unset, .unset, .unset] [(.int (((XT.ushrL q1 (40 : Int32)).toInt32).toInt8.toInt32)), (.int (5 : Int32)), (.ref b1)]))
  obtain ⟨cl7, Ar7, qa7, qs7, qn7, qh7, qg7⟩ := id R6
  obtain ⟨T7, h7, X7, e7, W7, st7⟩ := stB X6 hx hZ e6 Ar7 (j := (5 : Int32)) (inb_of qs7 ⟨by decide, by decide⟩) (g := (mkF m 62 #[.val (.long q1), .second, .val (.int p2), .val (.int p3), .val (.ref b1), .unset, .unset, .unset, .unset, .unset, .unset] [(.int (((XT.ushrL q1 (40 : Int32)).toInt32).toInt8.toInt32)), (.int (5 : Int32)), (.ref b1)])) rfl rfl (hb hby at_62)
  have N7 := Fr.snoc X7 N6 ge_b1
  have O7 := O6.wr W7 ge_b1
  have R7 : Arv Z h7 b1 k1 .byte (8 : Int32) [(.int (nar .byte ((q1.toInt32).toInt8.toInt32))), (.int (nar .byte (((XT.ushrL q1 (8 : Int32)).toInt32).toInt8.toInt32))), (.int (nar .byte (((XT.ushrL q1 (16 : Int32)).toInt32).toInt8.toInt32))), (.int (nar .byte (((XT.ushrL q1 (24 : Int32)).toInt32).toInt8.toInt32))), (.int (nar .byte (((XT.ushrL q1 (32 : Int32)).toInt32).toInt8.toInt32))), (.int (nar .byte (((XT.ushrL q1 (40 : Int32)).toInt32).toInt8.toInt32))), (.int (0 : Int32)), (.int (0 : Int32))] (.int (0 : Int32)) := Arv.set Ar7 qa7 qs7 qn7 qh7 qg7 (fits_nar_byte _) W7 5 rfl (Nat.le_of_ble_eq_true rfl)
  refine own_st st7 ?_
  show own_G p.tables e below _ (T7.setTop (mkF m 63 #[.val (.long q1), .second, .val (.int p2), .val (.int p3), .val (.ref b1), .unset, .unset, .unset, .unset, .unset, .unset] []))
  refine own_st (fun _ kS => XS.aload X7.here hx rfl (hb hby at_63) rfl rfl kS) ?_
  show own_G p.tables e below _ (T7.setTop (mkF m 65 #[.val (.long q1), .second, .val (.int p2), .val (.int p3), .val (.ref b1), .unset, .unset, .unset, .unset, .unset, .unset] [(.ref b1)]))
  refine own_st (fun _ kS => XS.bipush X7.here hx rfl (hb hby at_65) kS) ?_
  show own_G p.tables e below _ (T7.setTop (mkF m 67 #[.val (.long q1), .second, .val (.int p2), .val (.int p3), .val (.ref b1), .unset, .unset, .unset, .unset, .unset, .unset] [(.int (6 : Int32)), (.ref b1)]))
  refine own_st (fun _ kS => XT.lloadN X7.here hx rfl (hb hby at_67) rfl kS) ?_
  show own_G p.tables e below _ (T7.setTop (mkF m 68 #[.val (.long q1), .second, .val (.int p2), .val (.int p3), .val (.ref b1), .unset, .unset, .unset, .unset, .unset, .unset] [(.long q1), (.int (6 : Int32)), (.ref b1)]))
  refine own_st (fun _ kS => XS.bipush X7.here hx rfl (hb hby at_68) kS) ?_
  show own_G p.tables e below _ (T7.setTop (mkF m 70 #[.val (.long q1), .second, .val (.int p2), .val (.int p3), .val (.ref b1), .unset, .unset, .unset, .unset, .unset, .unset] [(.int (48 : Int32)), (.long q1), (.int (6 : Int32)), (.ref b1)]))
  refine own_st (fun _ kS => XT.lushr X7.here hx rfl (hb hby at_70) rfl kS) ?_
  show own_G p.tables e below _ (T7.setTop (mkF m 71 #[.val (.long q1), .second, .val (.int p2), .val (.int p3), .val (.ref b1), .unset, .unset, .unset, .unset, .unset, .unset] [(.long (XT.ushrL q1 (48 : Int32))), (.int (6 : Int32)), (.ref b1)]))
  refine own_st (fun _ kS => XT.l2i X7.here hx rfl (hb hby at_71) rfl kS) ?_
  show own_G p.tables e below _ (T7.setTop (mkF m 72 #[.val (.long q1), .second, .val (.int p2), .val (.int p3), .val (.ref b1), .unset, .unset, .unset, .unset, .unset, .unset] [(.int ((XT.ushrL q1 (48 : Int32)).toInt32)), (.int (6 : Int32)), (.ref b1)]))
  refine own_st (fun _ kS => XT.i2b X7.here hx rfl (hb hby at_72) rfl kS) ?_
  show own_G p.tables e below _ (T7.setTop (mkF m 73 #[.val (.long q1), .second, .val (.int p2), .val (.int p3), .val (.ref b1), .unset, .unset, .unset, .unset, .unset, .unset] [(.int (((XT.ushrL q1 (48 : Int32)).toInt32).toInt8.toInt32)), (.int (6 : Int32)), (.ref b1)]))
  obtain ⟨cl8, Ar8, qa8, qs8, qn8, qh8, qg8⟩ := id R7
  obtain ⟨T8, h8, X8, e8, W8, st8⟩ := stB X7 hx hZ e7 Ar8 (j := (6 : Int32)) (inb_of qs8 ⟨by decide, by decide⟩) (g := (mkF m 73 #[.val (.long q1), .second, .val (.int p2), .val (.int p3), .val (.ref b1), .unset, .unset, .unset, .unset, .unset, .unset] [(.int (((XT.ushrL q1 (48 : Int32)).toInt32).toInt8.toInt32)), (.int (6 : Int32)), (.ref b1)])) rfl rfl (hb hby at_73)
  have N8 := Fr.snoc X8 N7 ge_b1
  have O8 := O7.wr W8 ge_b1
  have R8 : Arv Z h8 b1 k1 .byte (8 : Int32) [(.int (nar .byte ((q1.toInt32).toInt8.toInt32))), (.int (nar .byte (((XT.ushrL q1 (8 : Int32)).toInt32).toInt8.toInt32))), (.int (nar .byte (((XT.ushrL q1 (16 : Int32)).toInt32).toInt8.toInt32))), (.int (nar .byte (((XT.ushrL q1 (24 : Int32)).toInt32).toInt8.toInt32))), (.int (nar .byte (((XT.ushrL q1 (32 : Int32)).toInt32).toInt8.toInt32))), (.int (nar .byte (((XT.ushrL q1 (40 : Int32)).toInt32).toInt8.toInt32))), (.int (nar .byte (((XT.ushrL q1 (48 : Int32)).toInt32).toInt8.toInt32))), (.int (0 : Int32))] (.int (0 : Int32)) := Arv.set Ar8 qa8 qs8 qn8 qh8 qg8 (fits_nar_byte _) W8 6 rfl (Nat.le_of_ble_eq_true rfl)
  refine own_st st8 ?_
  show own_G p.tables e below _ (T8.setTop (mkF m 74 #[.val (.long q1), .second, .val (.int p2), .val (.int p3), .val (.ref b1), .unset, .unset, .unset, .unset, .unset, .unset] []))
  refine own_st (fun _ kS => XS.aload X8.here hx rfl (hb hby at_74) rfl rfl kS) ?_
  show own_G p.tables e below _ (T8.setTop (mkF m 76 #[.val (.long q1), .second, .val (.int p2), .val (.int p3), .val (.ref b1), .unset, .unset, .unset, .unset, .unset, .unset] [(.ref b1)]))
  refine own_st (fun _ kS => XS.bipush X8.here hx rfl (hb hby at_76) kS) ?_
  show own_G p.tables e below _ (T8.setTop (mkF m 78 #[.val (.long q1), .second, .val (.int p2), .val (.int p3), .val (.ref b1), .unset, .unset, .unset, .unset, .unset, .unset] [(.int (7 : Int32)), (.ref b1)]))
  refine own_st (fun _ kS => XT.lloadN X8.here hx rfl (hb hby at_78) rfl kS) ?_
  show own_G p.tables e below _ (T8.setTop (mkF m 79 #[.val (.long q1), .second, .val (.int p2), .val (.int p3), .val (.ref b1), .unset, .unset, .unset, .unset, .unset, .unset] [(.long q1), (.int (7 : Int32)), (.ref b1)]))
  refine own_st (fun _ kS => XS.bipush X8.here hx rfl (hb hby at_79) kS) ?_
  show own_G p.tables e below _ (T8.setTop (mkF m 81 #[.val (.long q1), .second, .val (.int p2), .val (.int p3), .val (.ref b1), .unset, .unset, .unset, .unset, .unset, .unset] [(.int (56 : Int32)), (.long q1), (.int (7 : Int32)), (.ref b1)]))
  refine own_st (fun _ kS => XT.lushr X8.here hx rfl (hb hby at_81) rfl kS) ?_
  show own_G p.tables e below _ (T8.setTop (mkF m 82 #[.val (.long q1), .second, .val (.int p2), .val (.int p3), .val (.ref b1), .unset, .unset, .unset, .unset, .unset, .unset] [(.long (XT.ushrL q1 (56 : Int32))), (.int (7 : Int32)), (.ref b1)]))
  refine own_st (fun _ kS => XT.l2i X8.here hx rfl (hb hby at_82) rfl kS) ?_
  show own_G p.tables e below _ (T8.setTop (mkF m 83 #[.val (.long q1), .second, .val (.int p2), .val (.int p3), .val (.ref b1), .unset, .unset, .unset, .unset, .unset, .unset] [(.int ((XT.ushrL q1 (56 : Int32)).toInt32)), (.int (7 : Int32)), (.ref b1)]))
  refine own_st (fun _ kS => XT.i2b X8.here hx rfl (hb hby at_83) rfl kS) ?_
  show own_G p.tables e below _ (T8.setTop (mkF m 84 #[.val (.long q1), .second, .val (.int p2), .val (.int p3), .val (.ref b1), .unset, .unset, .unset, .unset, .unset, .unset] [(.int (((XT.ushrL q1 (56 : Int32)).toInt32).toInt8.toInt32)), (.int (7 : Int32)), (.ref b1)]))
  obtain ⟨cl9, Ar9, qa9, qs9, qn9, qh9, qg9⟩ := id R8
  obtain ⟨T9, h9, X9, e9, W9, st9⟩ := stB X8 hx hZ e8 Ar9 (j := (7 : Int32)) (inb_of qs9 ⟨by decide, by decide⟩) (g := (mkF m 84 #[.val (.long q1), .second, .val (.int p2), .val (.int p3), .val (.ref b1), .unset, .unset, .unset, .unset, .unset, .unset] [(.int (((XT.ushrL q1 (56 : Int32)).toInt32).toInt8.toInt32)), (.int (7 : Int32)), (.ref b1)])) rfl rfl (hb hby at_84)
  have N9 := Fr.snoc X9 N8 ge_b1
  have O9 := O8.wr W9 ge_b1
  have R9 : Arv Z h9 b1 k1 .byte (8 : Int32) [(.int (nar .byte ((q1.toInt32).toInt8.toInt32))), (.int (nar .byte (((XT.ushrL q1 (8 : Int32)).toInt32).toInt8.toInt32))), (.int (nar .byte (((XT.ushrL q1 (16 : Int32)).toInt32).toInt8.toInt32))), (.int (nar .byte (((XT.ushrL q1 (24 : Int32)).toInt32).toInt8.toInt32))), (.int (nar .byte (((XT.ushrL q1 (32 : Int32)).toInt32).toInt8.toInt32))), (.int (nar .byte (((XT.ushrL q1 (40 : Int32)).toInt32).toInt8.toInt32))), (.int (nar .byte (((XT.ushrL q1 (48 : Int32)).toInt32).toInt8.toInt32))), (.int (nar .byte (((XT.ushrL q1 (56 : Int32)).toInt32).toInt8.toInt32)))] (.int (0 : Int32)) := Arv.set Ar9 qa9 qs9 qn9 qh9 qg9 (fits_nar_byte _) W9 7 rfl (Nat.le_of_ble_eq_true rfl)
  refine own_st st9 ?_
  show own_G p.tables e below _ (T9.setTop (mkF m 85 #[.val (.long q1), .second, .val (.int p2), .val (.int p3), .val (.ref b1), .unset, .unset, .unset, .unset, .unset, .unset] []))
  refine own_st (fun _ kS => XS.iloadN X9.here hx rfl (hb hby at_85) rfl kS) ?_
  show own_G p.tables e below _ (T9.setTop (mkF m 86 #[.val (.long q1), .second, .val (.int p2), .val (.int p3), .val (.ref b1), .unset, .unset, .unset, .unset, .unset, .unset] [(.int p2)]))
  refine own_st (fun _ kS => X9.ldcInt hx hown (mvT hZ (hw _ (List.mem_of_getElem? (i := 1) rfl))) (g := (mkF m 86 #[.val (.long q1), .second, .val (.int p2), .val (.int p3), .val (.ref b1), .unset, .unset, .unset, .unset, .unset, .unset] [(.int p2)])) rfl (hb hby at_86) _ kS) ?_
  show own_G p.tables e below _ (T9.setTop (mkF m 88 #[.val (.long q1), .second, .val (.int p2), .val (.int p3), .val (.ref b1), .unset, .unset, .unset, .unset, .unset, .unset] [(.int (2147483647 : Int32)), (.int p2)]))
  refine own_st (fun _ kS => XS.iand X9.here hx rfl (hb hby at_88) rfl kS) ?_
  show own_G p.tables e below _ (T9.setTop (mkF m 89 #[.val (.long q1), .second, .val (.int p2), .val (.int p3), .val (.ref b1), .unset, .unset, .unset, .unset, .unset, .unset] [(.int (p2 &&& (2147483647 : Int32)))]))
  refine own_st (fun _ kS => XS.bipush X9.here hx rfl (hb hby at_89) kS) ?_
  show own_G p.tables e below _ (T9.setTop (mkF m 91 #[.val (.long q1), .second, .val (.int p2), .val (.int p3), .val (.ref b1), .unset, .unset, .unset, .unset, .unset, .unset] [(.int (6 : Int32)), (.int (p2 &&& (2147483647 : Int32)))]))
  refine own_st (fun _ kS => iremM (g := (mkF m 91 #[.val (.long q1), .second, .val (.int p2), .val (.int p3), .val (.ref b1), .unset, .unset, .unset, .unset, .unset, .unset] [(.int (6 : Int32)), (.int (p2 &&& (2147483647 : Int32)))])) X9 hx rfl (hb hby at_91) rfl (by decide) kS) ?_
  show own_G p.tables e below _ (T9.setTop (mkF m 92 #[.val (.long q1), .second, .val (.int p2), .val (.int p3), .val (.ref b1), .unset, .unset, .unset, .unset, .unset, .unset] [(.int ((p2 &&& (2147483647 : Int32)) % (6 : Int32)))]))
  obtain ⟨cB, Tb⟩ := own_tab R9 (fun i => by match i with | 0 => exact ⟨_, rfl⟩ | 1 => exact ⟨_, rfl⟩ | 2 => exact ⟨_, rfl⟩ | 3 => exact ⟨_, rfl⟩ | 4 => exact ⟨_, rfl⟩ | 5 => exact ⟨_, rfl⟩ | 6 => exact ⟨_, rfl⟩ | 7 => exact ⟨_, rfl⟩ | _ + 8 => exact ⟨_, rfl⟩)
  rcases own_mod6 p2 with hk10 | hk10 | hk10 | hk10 | hk10 | hk10
  · rw [hk10]
    show own_G p.tables e below _ (T9.setTop (mkF m 92 #[.val (.long q1), .second, .val (.int p2), .val (.int p3), .val (.ref b1), .unset, .unset, .unset, .unset, .unset, .unset] [(.int (0 : Int32))]))
    refine own_st (fun _ kS => XS.istore X9.here hx rfl (hb hby at_92) rfl (l' := #[.val (.long q1), .second, .val (.int p2), .val (.int p3), .val (.ref b1), .val (.int (0 : Int32)), .unset, .unset, .unset, .unset, .unset]) rfl kS) ?_
    show own_G p.tables e below _ (T9.setTop (mkF m 94 #[.val (.long q1), .second, .val (.int p2), .val (.int p3), .val (.ref b1), .val (.int (0 : Int32)), .unset, .unset, .unset, .unset, .unset] []))
    refine own_st (fun _ kS => XS.iload X9.here hx rfl (hb hby at_94) rfl kS) ?_
    show own_G p.tables e below _ (T9.setTop (mkF m 96 #[.val (.long q1), .second, .val (.int p2), .val (.int p3), .val (.ref b1), .val (.int (0 : Int32)), .unset, .unset, .unset, .unset, .unset] [(.int (0 : Int32))]))
    refine own_st (fun _ kS => XS.ifNo X9.here hx rfl (hb hby at_96) rfl ((if0 _ _).trans (teq (by decide : (0 : Int32) = (0 : Int32))).2) kS) ?_
    show own_G p.tables e below _ (T9.setTop (mkF m 99 #[.val (.long q1), .second, .val (.int p2), .val (.int p3), .val (.ref b1), .val (.int (0 : Int32)), .unset, .unset, .unset, .unset, .unset] []))
    obtain ⟨T11, X11, e11, st11⟩ := getS2 X9 hx hZ hown (host := "") (Or.inl (hw _ (List.mem_of_getElem? (i := 20) rfl))) Via.refl e9 (Sta.ext O9.2 S_UTF_8) (g := (mkF m 99 #[.val (.long q1), .second, .val (.int p2), .val (.int p3), .val (.ref b1), .val (.int (0 : Int32)), .unset, .unset, .unset, .unset, .unset] [])) rfl (hb hby at_99)
    refine own_st st11 ?_
    show own_G p.tables e below _ (T11.setTop (mkF m 102 #[.val (.long q1), .second, .val (.int p2), .val (.int p3), .val (.ref b1), .val (.int (0 : Int32)), .unset, .unset, .unset, .unset, .unset] [(.ref w_UTF_8)]))
    refine own_st (fun _ kS => XS.astore X11.here hx rfl (hb hby at_102) rfl rfl (l' := #[.val (.long q1), .second, .val (.int p2), .val (.int p3), .val (.ref b1), .val (.int (0 : Int32)), .val (.ref w_UTF_8), .unset, .unset, .unset, .unset]) rfl kS) ?_
    show own_G p.tables e below _ (T11.setTop (mkF m 104 #[.val (.long q1), .second, .val (.int p2), .val (.int p3), .val (.ref b1), .val (.int (0 : Int32)), .val (.ref w_UTF_8), .unset, .unset, .unset, .unset] []))
    refine own_st (fun _ kS => XS.iconst X11.here hx rfl (hb hby at_104) kS) ?_
    show own_G p.tables e below _ (T11.setTop (mkF m 105 #[.val (.long q1), .second, .val (.int p2), .val (.int p3), .val (.ref b1), .val (.int (0 : Int32)), .val (.ref w_UTF_8), .unset, .unset, .unset, .unset] [(.int (1 : Int32))]))
    refine own_st (fun _ kS => XS.istore X11.here hx rfl (hb hby at_105) rfl (l' := #[.val (.long q1), .second, .val (.int p2), .val (.int p3), .val (.ref b1), .val (.int (0 : Int32)), .val (.ref w_UTF_8), .val (.int (1 : Int32)), .unset, .unset, .unset]) rfl kS) ?_
    show own_G p.tables e below _ (T11.setTop (mkF m 107 #[.val (.long q1), .second, .val (.int p2), .val (.int p3), .val (.ref b1), .val (.int (0 : Int32)), .val (.ref w_UTF_8), .val (.int (1 : Int32)), .unset, .unset, .unset] []))
    refine own_st (fun _ kS => XS.iconst X11.here hx rfl (hb hby at_107) kS) ?_
    show own_G p.tables e below _ (T11.setTop (mkF m 108 #[.val (.long q1), .second, .val (.int p2), .val (.int p3), .val (.ref b1), .val (.int (0 : Int32)), .val (.ref w_UTF_8), .val (.int (1 : Int32)), .unset, .unset, .unset] [(.int (0 : Int32))]))
    refine own_st (fun _ kS => XS.istore X11.here hx rfl (hb hby at_108) rfl (l' := #[.val (.long q1), .second, .val (.int p2), .val (.int p3), .val (.ref b1), .val (.int (0 : Int32)), .val (.ref w_UTF_8), .val (.int (1 : Int32)), .val (.int (0 : Int32)), .unset, .unset]) rfl kS) ?_
    show own_G p.tables e below _ (T11.setTop (mkF m 110 #[.val (.long q1), .second, .val (.int p2), .val (.int p3), .val (.ref b1), .val (.int (0 : Int32)), .val (.ref w_UTF_8), .val (.int (1 : Int32)), .val (.int (0 : Int32)), .unset, .unset] []))
    refine own_st (fun _ kS => XS.goto X11.here hx rfl (pc0 := 110) (pc' := 204) rfl (hb hby at_110) (by decide) (by decide) kS) ?_
    show own_G p.tables e below _ (T11.setTop (mkF m 204 #[.val (.long q1), .second, .val (.int p2), .val (.int p3), .val (.ref b1), .val (.int (0 : Int32)), .val (.ref w_UTF_8), .val (.int (1 : Int32)), .val (.int (0 : Int32)), .unset, .unset] []))
    exact sg_S_1_0 hx hby hml hown hlk hret hZ hw (Nat.le_trans (Nat.le_trans (Nat.le_trans (Nat.le_trans (Nat.le_trans (Nat.le_trans (Nat.le_trans (Nat.le_trans (Nat.le_trans Z0 E1.1) (Keep.of_wr W2).1) (Keep.of_wr W3).1) (Keep.of_wr W4).1) (Keep.of_wr W5).1) (Keep.of_wr W6).1) (Keep.of_wr W7).1) (Keep.of_wr W8).1) (Keep.of_wr W9).1)  X11 e11 N9 O9 q1 p2 p3 b1 (0 : Int32) w_UTF_8 cB Tb E_UTF_8 F_UTF_8_width F_UTF_8_littleEndian
  · rw [hk10]
    show own_G p.tables e below _ (T9.setTop (mkF m 92 #[.val (.long q1), .second, .val (.int p2), .val (.int p3), .val (.ref b1), .unset, .unset, .unset, .unset, .unset, .unset] [(.int (1 : Int32))]))
    refine own_st (fun _ kS => XS.istore X9.here hx rfl (hb hby at_92) rfl (l' := #[.val (.long q1), .second, .val (.int p2), .val (.int p3), .val (.ref b1), .val (.int (1 : Int32)), .unset, .unset, .unset, .unset, .unset]) rfl kS) ?_
    show own_G p.tables e below _ (T9.setTop (mkF m 94 #[.val (.long q1), .second, .val (.int p2), .val (.int p3), .val (.ref b1), .val (.int (1 : Int32)), .unset, .unset, .unset, .unset, .unset] []))
    refine own_st (fun _ kS => XS.iload X9.here hx rfl (hb hby at_94) rfl kS) ?_
    show own_G p.tables e below _ (T9.setTop (mkF m 96 #[.val (.long q1), .second, .val (.int p2), .val (.int p3), .val (.ref b1), .val (.int (1 : Int32)), .unset, .unset, .unset, .unset, .unset] [(.int (1 : Int32))]))
    refine own_st (fun _ kS => XS.ifYes X9.here hx rfl (pc0 := 96) (pc' := 113) rfl (hb hby at_96) rfl ((if0 _ _).trans (feq (by decide : ¬ ((1 : Int32) = (0 : Int32)))).2) (by decide) (by decide) kS) ?_
    show own_G p.tables e below _ (T9.setTop (mkF m 113 #[.val (.long q1), .second, .val (.int p2), .val (.int p3), .val (.ref b1), .val (.int (1 : Int32)), .unset, .unset, .unset, .unset, .unset] []))
    refine own_st (fun _ kS => XS.iload X9.here hx rfl (hb hby at_113) rfl kS) ?_
    show own_G p.tables e below _ (T9.setTop (mkF m 115 #[.val (.long q1), .second, .val (.int p2), .val (.int p3), .val (.ref b1), .val (.int (1 : Int32)), .unset, .unset, .unset, .unset, .unset] [(.int (1 : Int32))]))
    refine own_st (fun _ kS => XS.iconst X9.here hx rfl (hb hby at_115) kS) ?_
    show own_G p.tables e below _ (T9.setTop (mkF m 116 #[.val (.long q1), .second, .val (.int p2), .val (.int p3), .val (.ref b1), .val (.int (1 : Int32)), .unset, .unset, .unset, .unset, .unset] [(.int (1 : Int32)), (.int (1 : Int32))]))
    refine own_st (fun _ kS => XS.icmpNo X9.here hx rfl (hb hby at_116) rfl (teq (by decide : (1 : Int32) = (1 : Int32))).2 kS) ?_
    show own_G p.tables e below _ (T9.setTop (mkF m 119 #[.val (.long q1), .second, .val (.int p2), .val (.int p3), .val (.ref b1), .val (.int (1 : Int32)), .unset, .unset, .unset, .unset, .unset] []))
    obtain ⟨T12, X12, e12, st12⟩ := getS2 X9 hx hZ hown (host := "") (Or.inl (hw _ (List.mem_of_getElem? (i := 22) rfl))) Via.refl e9 (Sta.ext O9.2 S_UTF_32BE) (g := (mkF m 119 #[.val (.long q1), .second, .val (.int p2), .val (.int p3), .val (.ref b1), .val (.int (1 : Int32)), .unset, .unset, .unset, .unset, .unset] [])) rfl (hb hby at_119)
    refine own_st st12 ?_
    show own_G p.tables e below _ (T12.setTop (mkF m 122 #[.val (.long q1), .second, .val (.int p2), .val (.int p3), .val (.ref b1), .val (.int (1 : Int32)), .unset, .unset, .unset, .unset, .unset] [(.ref w_UTF_32BE)]))
    refine own_st (fun _ kS => XS.astore X12.here hx rfl (hb hby at_122) rfl rfl (l' := #[.val (.long q1), .second, .val (.int p2), .val (.int p3), .val (.ref b1), .val (.int (1 : Int32)), .val (.ref w_UTF_32BE), .unset, .unset, .unset, .unset]) rfl kS) ?_
    show own_G p.tables e below _ (T12.setTop (mkF m 124 #[.val (.long q1), .second, .val (.int p2), .val (.int p3), .val (.ref b1), .val (.int (1 : Int32)), .val (.ref w_UTF_32BE), .unset, .unset, .unset, .unset] []))
    refine own_st (fun _ kS => XS.iconst X12.here hx rfl (hb hby at_124) kS) ?_
    show own_G p.tables e below _ (T12.setTop (mkF m 125 #[.val (.long q1), .second, .val (.int p2), .val (.int p3), .val (.ref b1), .val (.int (1 : Int32)), .val (.ref w_UTF_32BE), .unset, .unset, .unset, .unset] [(.int (4 : Int32))]))
    refine own_st (fun _ kS => XS.istore X12.here hx rfl (hb hby at_125) rfl (l' := #[.val (.long q1), .second, .val (.int p2), .val (.int p3), .val (.ref b1), .val (.int (1 : Int32)), .val (.ref w_UTF_32BE), .val (.int (4 : Int32)), .unset, .unset, .unset]) rfl kS) ?_
    show own_G p.tables e below _ (T12.setTop (mkF m 127 #[.val (.long q1), .second, .val (.int p2), .val (.int p3), .val (.ref b1), .val (.int (1 : Int32)), .val (.ref w_UTF_32BE), .val (.int (4 : Int32)), .unset, .unset, .unset] []))
    refine own_st (fun _ kS => XS.iconst X12.here hx rfl (hb hby at_127) kS) ?_
    show own_G p.tables e below _ (T12.setTop (mkF m 128 #[.val (.long q1), .second, .val (.int p2), .val (.int p3), .val (.ref b1), .val (.int (1 : Int32)), .val (.ref w_UTF_32BE), .val (.int (4 : Int32)), .unset, .unset, .unset] [(.int (0 : Int32))]))
    refine own_st (fun _ kS => XS.istore X12.here hx rfl (hb hby at_128) rfl (l' := #[.val (.long q1), .second, .val (.int p2), .val (.int p3), .val (.ref b1), .val (.int (1 : Int32)), .val (.ref w_UTF_32BE), .val (.int (4 : Int32)), .val (.int (0 : Int32)), .unset, .unset]) rfl kS) ?_
    show own_G p.tables e below _ (T12.setTop (mkF m 130 #[.val (.long q1), .second, .val (.int p2), .val (.int p3), .val (.ref b1), .val (.int (1 : Int32)), .val (.ref w_UTF_32BE), .val (.int (4 : Int32)), .val (.int (0 : Int32)), .unset, .unset] []))
    refine own_st (fun _ kS => XS.goto X12.here hx rfl (pc0 := 130) (pc' := 204) rfl (hb hby at_130) (by decide) (by decide) kS) ?_
    show own_G p.tables e below _ (T12.setTop (mkF m 204 #[.val (.long q1), .second, .val (.int p2), .val (.int p3), .val (.ref b1), .val (.int (1 : Int32)), .val (.ref w_UTF_32BE), .val (.int (4 : Int32)), .val (.int (0 : Int32)), .unset, .unset] []))
    exact sg_S_4_0 hx hby hml hown hlk hret hZ hw (Nat.le_trans (Nat.le_trans (Nat.le_trans (Nat.le_trans (Nat.le_trans (Nat.le_trans (Nat.le_trans (Nat.le_trans (Nat.le_trans Z0 E1.1) (Keep.of_wr W2).1) (Keep.of_wr W3).1) (Keep.of_wr W4).1) (Keep.of_wr W5).1) (Keep.of_wr W6).1) (Keep.of_wr W7).1) (Keep.of_wr W8).1) (Keep.of_wr W9).1)  X12 e12 N9 O9 q1 p2 p3 b1 (1 : Int32) w_UTF_32BE cB Tb E_UTF_32BE F_UTF_32BE_width F_UTF_32BE_littleEndian
  · rw [hk10]
    show own_G p.tables e below _ (T9.setTop (mkF m 92 #[.val (.long q1), .second, .val (.int p2), .val (.int p3), .val (.ref b1), .unset, .unset, .unset, .unset, .unset, .unset] [(.int (2 : Int32))]))
    refine own_st (fun _ kS => XS.istore X9.here hx rfl (hb hby at_92) rfl (l' := #[.val (.long q1), .second, .val (.int p2), .val (.int p3), .val (.ref b1), .val (.int (2 : Int32)), .unset, .unset, .unset, .unset, .unset]) rfl kS) ?_
    show own_G p.tables e below _ (T9.setTop (mkF m 94 #[.val (.long q1), .second, .val (.int p2), .val (.int p3), .val (.ref b1), .val (.int (2 : Int32)), .unset, .unset, .unset, .unset, .unset] []))
    refine own_st (fun _ kS => XS.iload X9.here hx rfl (hb hby at_94) rfl kS) ?_
    show own_G p.tables e below _ (T9.setTop (mkF m 96 #[.val (.long q1), .second, .val (.int p2), .val (.int p3), .val (.ref b1), .val (.int (2 : Int32)), .unset, .unset, .unset, .unset, .unset] [(.int (2 : Int32))]))
    refine own_st (fun _ kS => XS.ifYes X9.here hx rfl (pc0 := 96) (pc' := 113) rfl (hb hby at_96) rfl ((if0 _ _).trans (feq (by decide : ¬ ((2 : Int32) = (0 : Int32)))).2) (by decide) (by decide) kS) ?_
    show own_G p.tables e below _ (T9.setTop (mkF m 113 #[.val (.long q1), .second, .val (.int p2), .val (.int p3), .val (.ref b1), .val (.int (2 : Int32)), .unset, .unset, .unset, .unset, .unset] []))
    refine own_st (fun _ kS => XS.iload X9.here hx rfl (hb hby at_113) rfl kS) ?_
    show own_G p.tables e below _ (T9.setTop (mkF m 115 #[.val (.long q1), .second, .val (.int p2), .val (.int p3), .val (.ref b1), .val (.int (2 : Int32)), .unset, .unset, .unset, .unset, .unset] [(.int (2 : Int32))]))
    refine own_st (fun _ kS => XS.iconst X9.here hx rfl (hb hby at_115) kS) ?_
    show own_G p.tables e below _ (T9.setTop (mkF m 116 #[.val (.long q1), .second, .val (.int p2), .val (.int p3), .val (.ref b1), .val (.int (2 : Int32)), .unset, .unset, .unset, .unset, .unset] [(.int (1 : Int32)), (.int (2 : Int32))]))
    refine own_st (fun _ kS => XS.icmpYes X9.here hx rfl (pc0 := 116) (pc' := 133) rfl (hb hby at_116) rfl (feq (by decide : ¬ ((2 : Int32) = (1 : Int32)))).2 (by decide) (by decide) kS) ?_
    show own_G p.tables e below _ (T9.setTop (mkF m 133 #[.val (.long q1), .second, .val (.int p2), .val (.int p3), .val (.ref b1), .val (.int (2 : Int32)), .unset, .unset, .unset, .unset, .unset] []))
    refine own_st (fun _ kS => XS.iload X9.here hx rfl (hb hby at_133) rfl kS) ?_
    show own_G p.tables e below _ (T9.setTop (mkF m 135 #[.val (.long q1), .second, .val (.int p2), .val (.int p3), .val (.ref b1), .val (.int (2 : Int32)), .unset, .unset, .unset, .unset, .unset] [(.int (2 : Int32))]))
    refine own_st (fun _ kS => XS.iconst X9.here hx rfl (hb hby at_135) kS) ?_
    show own_G p.tables e below _ (T9.setTop (mkF m 136 #[.val (.long q1), .second, .val (.int p2), .val (.int p3), .val (.ref b1), .val (.int (2 : Int32)), .unset, .unset, .unset, .unset, .unset] [(.int (2 : Int32)), (.int (2 : Int32))]))
    refine own_st (fun _ kS => XS.icmpNo X9.here hx rfl (hb hby at_136) rfl (teq (by decide : (2 : Int32) = (2 : Int32))).2 kS) ?_
    show own_G p.tables e below _ (T9.setTop (mkF m 139 #[.val (.long q1), .second, .val (.int p2), .val (.int p3), .val (.ref b1), .val (.int (2 : Int32)), .unset, .unset, .unset, .unset, .unset] []))
    obtain ⟨T13, X13, e13, st13⟩ := getS2 X9 hx hZ hown (host := "") (Or.inl (hw _ (List.mem_of_getElem? (i := 2) rfl))) Via.refl e9 (Sta.ext O9.2 S_UTF_32LE) (g := (mkF m 139 #[.val (.long q1), .second, .val (.int p2), .val (.int p3), .val (.ref b1), .val (.int (2 : Int32)), .unset, .unset, .unset, .unset, .unset] [])) rfl (hb hby at_139)
    refine own_st st13 ?_
    show own_G p.tables e below _ (T13.setTop (mkF m 142 #[.val (.long q1), .second, .val (.int p2), .val (.int p3), .val (.ref b1), .val (.int (2 : Int32)), .unset, .unset, .unset, .unset, .unset] [(.ref w_UTF_32LE)]))
    refine own_st (fun _ kS => XS.astore X13.here hx rfl (hb hby at_142) rfl rfl (l' := #[.val (.long q1), .second, .val (.int p2), .val (.int p3), .val (.ref b1), .val (.int (2 : Int32)), .val (.ref w_UTF_32LE), .unset, .unset, .unset, .unset]) rfl kS) ?_
    show own_G p.tables e below _ (T13.setTop (mkF m 144 #[.val (.long q1), .second, .val (.int p2), .val (.int p3), .val (.ref b1), .val (.int (2 : Int32)), .val (.ref w_UTF_32LE), .unset, .unset, .unset, .unset] []))
    refine own_st (fun _ kS => XS.iconst X13.here hx rfl (hb hby at_144) kS) ?_
    show own_G p.tables e below _ (T13.setTop (mkF m 145 #[.val (.long q1), .second, .val (.int p2), .val (.int p3), .val (.ref b1), .val (.int (2 : Int32)), .val (.ref w_UTF_32LE), .unset, .unset, .unset, .unset] [(.int (4 : Int32))]))
    refine own_st (fun _ kS => XS.istore X13.here hx rfl (hb hby at_145) rfl (l' := #[.val (.long q1), .second, .val (.int p2), .val (.int p3), .val (.ref b1), .val (.int (2 : Int32)), .val (.ref w_UTF_32LE), .val (.int (4 : Int32)), .unset, .unset, .unset]) rfl kS) ?_
    show own_G p.tables e below _ (T13.setTop (mkF m 147 #[.val (.long q1), .second, .val (.int p2), .val (.int p3), .val (.ref b1), .val (.int (2 : Int32)), .val (.ref w_UTF_32LE), .val (.int (4 : Int32)), .unset, .unset, .unset] []))
    refine own_st (fun _ kS => XS.iconst X13.here hx rfl (hb hby at_147) kS) ?_
    show own_G p.tables e below _ (T13.setTop (mkF m 148 #[.val (.long q1), .second, .val (.int p2), .val (.int p3), .val (.ref b1), .val (.int (2 : Int32)), .val (.ref w_UTF_32LE), .val (.int (4 : Int32)), .unset, .unset, .unset] [(.int (1 : Int32))]))
    refine own_st (fun _ kS => XS.istore X13.here hx rfl (hb hby at_148) rfl (l' := #[.val (.long q1), .second, .val (.int p2), .val (.int p3), .val (.ref b1), .val (.int (2 : Int32)), .val (.ref w_UTF_32LE), .val (.int (4 : Int32)), .val (.int (1 : Int32)), .unset, .unset]) rfl kS) ?_
    show own_G p.tables e below _ (T13.setTop (mkF m 150 #[.val (.long q1), .second, .val (.int p2), .val (.int p3), .val (.ref b1), .val (.int (2 : Int32)), .val (.ref w_UTF_32LE), .val (.int (4 : Int32)), .val (.int (1 : Int32)), .unset, .unset] []))
    refine own_st (fun _ kS => XS.goto X13.here hx rfl (pc0 := 150) (pc' := 204) rfl (hb hby at_150) (by decide) (by decide) kS) ?_
    show own_G p.tables e below _ (T13.setTop (mkF m 204 #[.val (.long q1), .second, .val (.int p2), .val (.int p3), .val (.ref b1), .val (.int (2 : Int32)), .val (.ref w_UTF_32LE), .val (.int (4 : Int32)), .val (.int (1 : Int32)), .unset, .unset] []))
    exact sg_S_4_1 hx hby hml hown hlk hret hZ hw (Nat.le_trans (Nat.le_trans (Nat.le_trans (Nat.le_trans (Nat.le_trans (Nat.le_trans (Nat.le_trans (Nat.le_trans (Nat.le_trans Z0 E1.1) (Keep.of_wr W2).1) (Keep.of_wr W3).1) (Keep.of_wr W4).1) (Keep.of_wr W5).1) (Keep.of_wr W6).1) (Keep.of_wr W7).1) (Keep.of_wr W8).1) (Keep.of_wr W9).1)  X13 e13 N9 O9 q1 p2 p3 b1 (2 : Int32) w_UTF_32LE cB Tb E_UTF_32LE F_UTF_32LE_width F_UTF_32LE_littleEndian
  · rw [hk10]
    show own_G p.tables e below _ (T9.setTop (mkF m 92 #[.val (.long q1), .second, .val (.int p2), .val (.int p3), .val (.ref b1), .unset, .unset, .unset, .unset, .unset, .unset] [(.int (3 : Int32))]))
    refine own_st (fun _ kS => XS.istore X9.here hx rfl (hb hby at_92) rfl (l' := #[.val (.long q1), .second, .val (.int p2), .val (.int p3), .val (.ref b1), .val (.int (3 : Int32)), .unset, .unset, .unset, .unset, .unset]) rfl kS) ?_
    show own_G p.tables e below _ (T9.setTop (mkF m 94 #[.val (.long q1), .second, .val (.int p2), .val (.int p3), .val (.ref b1), .val (.int (3 : Int32)), .unset, .unset, .unset, .unset, .unset] []))
    refine own_st (fun _ kS => XS.iload X9.here hx rfl (hb hby at_94) rfl kS) ?_
    show own_G p.tables e below _ (T9.setTop (mkF m 96 #[.val (.long q1), .second, .val (.int p2), .val (.int p3), .val (.ref b1), .val (.int (3 : Int32)), .unset, .unset, .unset, .unset, .unset] [(.int (3 : Int32))]))
    refine own_st (fun _ kS => XS.ifYes X9.here hx rfl (pc0 := 96) (pc' := 113) rfl (hb hby at_96) rfl ((if0 _ _).trans (feq (by decide : ¬ ((3 : Int32) = (0 : Int32)))).2) (by decide) (by decide) kS) ?_
    show own_G p.tables e below _ (T9.setTop (mkF m 113 #[.val (.long q1), .second, .val (.int p2), .val (.int p3), .val (.ref b1), .val (.int (3 : Int32)), .unset, .unset, .unset, .unset, .unset] []))
    refine own_st (fun _ kS => XS.iload X9.here hx rfl (hb hby at_113) rfl kS) ?_
    show own_G p.tables e below _ (T9.setTop (mkF m 115 #[.val (.long q1), .second, .val (.int p2), .val (.int p3), .val (.ref b1), .val (.int (3 : Int32)), .unset, .unset, .unset, .unset, .unset] [(.int (3 : Int32))]))
    refine own_st (fun _ kS => XS.iconst X9.here hx rfl (hb hby at_115) kS) ?_
    show own_G p.tables e below _ (T9.setTop (mkF m 116 #[.val (.long q1), .second, .val (.int p2), .val (.int p3), .val (.ref b1), .val (.int (3 : Int32)), .unset, .unset, .unset, .unset, .unset] [(.int (1 : Int32)), (.int (3 : Int32))]))
    refine own_st (fun _ kS => XS.icmpYes X9.here hx rfl (pc0 := 116) (pc' := 133) rfl (hb hby at_116) rfl (feq (by decide : ¬ ((3 : Int32) = (1 : Int32)))).2 (by decide) (by decide) kS) ?_
    show own_G p.tables e below _ (T9.setTop (mkF m 133 #[.val (.long q1), .second, .val (.int p2), .val (.int p3), .val (.ref b1), .val (.int (3 : Int32)), .unset, .unset, .unset, .unset, .unset] []))
    refine own_st (fun _ kS => XS.iload X9.here hx rfl (hb hby at_133) rfl kS) ?_
    show own_G p.tables e below _ (T9.setTop (mkF m 135 #[.val (.long q1), .second, .val (.int p2), .val (.int p3), .val (.ref b1), .val (.int (3 : Int32)), .unset, .unset, .unset, .unset, .unset] [(.int (3 : Int32))]))
    refine own_st (fun _ kS => XS.iconst X9.here hx rfl (hb hby at_135) kS) ?_
    show own_G p.tables e below _ (T9.setTop (mkF m 136 #[.val (.long q1), .second, .val (.int p2), .val (.int p3), .val (.ref b1), .val (.int (3 : Int32)), .unset, .unset, .unset, .unset, .unset] [(.int (2 : Int32)), (.int (3 : Int32))]))
    refine own_st (fun _ kS => XS.icmpYes X9.here hx rfl (pc0 := 136) (pc' := 153) rfl (hb hby at_136) rfl (feq (by decide : ¬ ((3 : Int32) = (2 : Int32)))).2 (by decide) (by decide) kS) ?_
    show own_G p.tables e below _ (T9.setTop (mkF m 153 #[.val (.long q1), .second, .val (.int p2), .val (.int p3), .val (.ref b1), .val (.int (3 : Int32)), .unset, .unset, .unset, .unset, .unset] []))
    refine own_st (fun _ kS => XS.iload X9.here hx rfl (hb hby at_153) rfl kS) ?_
    show own_G p.tables e below _ (T9.setTop (mkF m 155 #[.val (.long q1), .second, .val (.int p2), .val (.int p3), .val (.ref b1), .val (.int (3 : Int32)), .unset, .unset, .unset, .unset, .unset] [(.int (3 : Int32))]))
    refine own_st (fun _ kS => XS.iconst X9.here hx rfl (hb hby at_155) kS) ?_
    show own_G p.tables e below _ (T9.setTop (mkF m 156 #[.val (.long q1), .second, .val (.int p2), .val (.int p3), .val (.ref b1), .val (.int (3 : Int32)), .unset, .unset, .unset, .unset, .unset] [(.int (3 : Int32)), (.int (3 : Int32))]))
    refine own_st (fun _ kS => XS.icmpNo X9.here hx rfl (hb hby at_156) rfl (teq (by decide : (3 : Int32) = (3 : Int32))).2 kS) ?_
    show own_G p.tables e below _ (T9.setTop (mkF m 159 #[.val (.long q1), .second, .val (.int p2), .val (.int p3), .val (.ref b1), .val (.int (3 : Int32)), .unset, .unset, .unset, .unset, .unset] []))
    obtain ⟨T14, X14, e14, st14⟩ := getS2 X9 hx hZ hown (host := "") (Or.inl (hw _ (List.mem_of_getElem? (i := 24) rfl))) Via.refl e9 (Sta.ext O9.2 S_UTF_16BE) (g := (mkF m 159 #[.val (.long q1), .second, .val (.int p2), .val (.int p3), .val (.ref b1), .val (.int (3 : Int32)), .unset, .unset, .unset, .unset, .unset] [])) rfl (hb hby at_159)
    refine own_st st14 ?_
    show own_G p.tables e below _ (T14.setTop (mkF m 162 #[.val (.long q1), .second, .val (.int p2), .val (.int p3), .val (.ref b1), .val (.int (3 : Int32)), .unset, .unset, .unset, .unset, .unset] [(.ref w_UTF_16BE)]))
    refine own_st (fun _ kS => XS.astore X14.here hx rfl (hb hby at_162) rfl rfl (l' := #[.val (.long q1), .second, .val (.int p2), .val (.int p3), .val (.ref b1), .val (.int (3 : Int32)), .val (.ref w_UTF_16BE), .unset, .unset, .unset, .unset]) rfl kS) ?_
    show own_G p.tables e below _ (T14.setTop (mkF m 164 #[.val (.long q1), .second, .val (.int p2), .val (.int p3), .val (.ref b1), .val (.int (3 : Int32)), .val (.ref w_UTF_16BE), .unset, .unset, .unset, .unset] []))
    refine own_st (fun _ kS => XS.iconst X14.here hx rfl (hb hby at_164) kS) ?_
    show own_G p.tables e below _ (T14.setTop (mkF m 165 #[.val (.long q1), .second, .val (.int p2), .val (.int p3), .val (.ref b1), .val (.int (3 : Int32)), .val (.ref w_UTF_16BE), .unset, .unset, .unset, .unset] [(.int (2 : Int32))]))
    refine own_st (fun _ kS => XS.istore X14.here hx rfl (hb hby at_165) rfl (l' := #[.val (.long q1), .second, .val (.int p2), .val (.int p3), .val (.ref b1), .val (.int (3 : Int32)), .val (.ref w_UTF_16BE), .val (.int (2 : Int32)), .unset, .unset, .unset]) rfl kS) ?_
    show own_G p.tables e below _ (T14.setTop (mkF m 167 #[.val (.long q1), .second, .val (.int p2), .val (.int p3), .val (.ref b1), .val (.int (3 : Int32)), .val (.ref w_UTF_16BE), .val (.int (2 : Int32)), .unset, .unset, .unset] []))
    refine own_st (fun _ kS => XS.iconst X14.here hx rfl (hb hby at_167) kS) ?_
    show own_G p.tables e below _ (T14.setTop (mkF m 168 #[.val (.long q1), .second, .val (.int p2), .val (.int p3), .val (.ref b1), .val (.int (3 : Int32)), .val (.ref w_UTF_16BE), .val (.int (2 : Int32)), .unset, .unset, .unset] [(.int (0 : Int32))]))
    refine own_st (fun _ kS => XS.istore X14.here hx rfl (hb hby at_168) rfl (l' := #[.val (.long q1), .second, .val (.int p2), .val (.int p3), .val (.ref b1), .val (.int (3 : Int32)), .val (.ref w_UTF_16BE), .val (.int (2 : Int32)), .val (.int (0 : Int32)), .unset, .unset]) rfl kS) ?_
    show own_G p.tables e below _ (T14.setTop (mkF m 170 #[.val (.long q1), .second, .val (.int p2), .val (.int p3), .val (.ref b1), .val (.int (3 : Int32)), .val (.ref w_UTF_16BE), .val (.int (2 : Int32)), .val (.int (0 : Int32)), .unset, .unset] []))
    refine own_st (fun _ kS => XS.goto X14.here hx rfl (pc0 := 170) (pc' := 204) rfl (hb hby at_170) (by decide) (by decide) kS) ?_
    show own_G p.tables e below _ (T14.setTop (mkF m 204 #[.val (.long q1), .second, .val (.int p2), .val (.int p3), .val (.ref b1), .val (.int (3 : Int32)), .val (.ref w_UTF_16BE), .val (.int (2 : Int32)), .val (.int (0 : Int32)), .unset, .unset] []))
    exact sg_S_2_0 hx hby hml hown hlk hret hZ hw (Nat.le_trans (Nat.le_trans (Nat.le_trans (Nat.le_trans (Nat.le_trans (Nat.le_trans (Nat.le_trans (Nat.le_trans (Nat.le_trans Z0 E1.1) (Keep.of_wr W2).1) (Keep.of_wr W3).1) (Keep.of_wr W4).1) (Keep.of_wr W5).1) (Keep.of_wr W6).1) (Keep.of_wr W7).1) (Keep.of_wr W8).1) (Keep.of_wr W9).1)  X14 e14 N9 O9 q1 p2 p3 b1 (3 : Int32) w_UTF_16BE cB Tb E_UTF_16BE F_UTF_16BE_width F_UTF_16BE_littleEndian
  · rw [hk10]
    show own_G p.tables e below _ (T9.setTop (mkF m 92 #[.val (.long q1), .second, .val (.int p2), .val (.int p3), .val (.ref b1), .unset, .unset, .unset, .unset, .unset, .unset] [(.int (4 : Int32))]))
    refine own_st (fun _ kS => XS.istore X9.here hx rfl (hb hby at_92) rfl (l' := #[.val (.long q1), .second, .val (.int p2), .val (.int p3), .val (.ref b1), .val (.int (4 : Int32)), .unset, .unset, .unset, .unset, .unset]) rfl kS) ?_
    show own_G p.tables e below _ (T9.setTop (mkF m 94 #[.val (.long q1), .second, .val (.int p2), .val (.int p3), .val (.ref b1), .val (.int (4 : Int32)), .unset, .unset, .unset, .unset, .unset] []))
    refine own_st (fun _ kS => XS.iload X9.here hx rfl (hb hby at_94) rfl kS) ?_
    show own_G p.tables e below _ (T9.setTop (mkF m 96 #[.val (.long q1), .second, .val (.int p2), .val (.int p3), .val (.ref b1), .val (.int (4 : Int32)), .unset, .unset, .unset, .unset, .unset] [(.int (4 : Int32))]))
    refine own_st (fun _ kS => XS.ifYes X9.here hx rfl (pc0 := 96) (pc' := 113) rfl (hb hby at_96) rfl ((if0 _ _).trans (feq (by decide : ¬ ((4 : Int32) = (0 : Int32)))).2) (by decide) (by decide) kS) ?_
    show own_G p.tables e below _ (T9.setTop (mkF m 113 #[.val (.long q1), .second, .val (.int p2), .val (.int p3), .val (.ref b1), .val (.int (4 : Int32)), .unset, .unset, .unset, .unset, .unset] []))
    refine own_st (fun _ kS => XS.iload X9.here hx rfl (hb hby at_113) rfl kS) ?_
    show own_G p.tables e below _ (T9.setTop (mkF m 115 #[.val (.long q1), .second, .val (.int p2), .val (.int p3), .val (.ref b1), .val (.int (4 : Int32)), .unset, .unset, .unset, .unset, .unset] [(.int (4 : Int32))]))
    refine own_st (fun _ kS => XS.iconst X9.here hx rfl (hb hby at_115) kS) ?_
    show own_G p.tables e below _ (T9.setTop (mkF m 116 #[.val (.long q1), .second, .val (.int p2), .val (.int p3), .val (.ref b1), .val (.int (4 : Int32)), .unset, .unset, .unset, .unset, .unset] [(.int (1 : Int32)), (.int (4 : Int32))]))
    refine own_st (fun _ kS => XS.icmpYes X9.here hx rfl (pc0 := 116) (pc' := 133) rfl (hb hby at_116) rfl (feq (by decide : ¬ ((4 : Int32) = (1 : Int32)))).2 (by decide) (by decide) kS) ?_
    show own_G p.tables e below _ (T9.setTop (mkF m 133 #[.val (.long q1), .second, .val (.int p2), .val (.int p3), .val (.ref b1), .val (.int (4 : Int32)), .unset, .unset, .unset, .unset, .unset] []))
    refine own_st (fun _ kS => XS.iload X9.here hx rfl (hb hby at_133) rfl kS) ?_
    show own_G p.tables e below _ (T9.setTop (mkF m 135 #[.val (.long q1), .second, .val (.int p2), .val (.int p3), .val (.ref b1), .val (.int (4 : Int32)), .unset, .unset, .unset, .unset, .unset] [(.int (4 : Int32))]))
    refine own_st (fun _ kS => XS.iconst X9.here hx rfl (hb hby at_135) kS) ?_
    show own_G p.tables e below _ (T9.setTop (mkF m 136 #[.val (.long q1), .second, .val (.int p2), .val (.int p3), .val (.ref b1), .val (.int (4 : Int32)), .unset, .unset, .unset, .unset, .unset] [(.int (2 : Int32)), (.int (4 : Int32))]))
    refine own_st (fun _ kS => XS.icmpYes X9.here hx rfl (pc0 := 136) (pc' := 153) rfl (hb hby at_136) rfl (feq (by decide : ¬ ((4 : Int32) = (2 : Int32)))).2 (by decide) (by decide) kS) ?_
    show own_G p.tables e below _ (T9.setTop (mkF m 153 #[.val (.long q1), .second, .val (.int p2), .val (.int p3), .val (.ref b1), .val (.int (4 : Int32)), .unset, .unset, .unset, .unset, .unset] []))
    refine own_st (fun _ kS => XS.iload X9.here hx rfl (hb hby at_153) rfl kS) ?_
    show own_G p.tables e below _ (T9.setTop (mkF m 155 #[.val (.long q1), .second, .val (.int p2), .val (.int p3), .val (.ref b1), .val (.int (4 : Int32)), .unset, .unset, .unset, .unset, .unset] [(.int (4 : Int32))]))
    refine own_st (fun _ kS => XS.iconst X9.here hx rfl (hb hby at_155) kS) ?_
    show own_G p.tables e below _ (T9.setTop (mkF m 156 #[.val (.long q1), .second, .val (.int p2), .val (.int p3), .val (.ref b1), .val (.int (4 : Int32)), .unset, .unset, .unset, .unset, .unset] [(.int (3 : Int32)), (.int (4 : Int32))]))
    refine own_st (fun _ kS => XS.icmpYes X9.here hx rfl (pc0 := 156) (pc' := 173) rfl (hb hby at_156) rfl (feq (by decide : ¬ ((4 : Int32) = (3 : Int32)))).2 (by decide) (by decide) kS) ?_
    show own_G p.tables e below _ (T9.setTop (mkF m 173 #[.val (.long q1), .second, .val (.int p2), .val (.int p3), .val (.ref b1), .val (.int (4 : Int32)), .unset, .unset, .unset, .unset, .unset] []))
    refine own_st (fun _ kS => XS.iload X9.here hx rfl (hb hby at_173) rfl kS) ?_
    show own_G p.tables e below _ (T9.setTop (mkF m 175 #[.val (.long q1), .second, .val (.int p2), .val (.int p3), .val (.ref b1), .val (.int (4 : Int32)), .unset, .unset, .unset, .unset, .unset] [(.int (4 : Int32))]))
    refine own_st (fun _ kS => XS.iconst X9.here hx rfl (hb hby at_175) kS) ?_
    show own_G p.tables e below _ (T9.setTop (mkF m 176 #[.val (.long q1), .second, .val (.int p2), .val (.int p3), .val (.ref b1), .val (.int (4 : Int32)), .unset, .unset, .unset, .unset, .unset] [(.int (4 : Int32)), (.int (4 : Int32))]))
    refine own_st (fun _ kS => XS.icmpNo X9.here hx rfl (hb hby at_176) rfl (teq (by decide : (4 : Int32) = (4 : Int32))).2 kS) ?_
    show own_G p.tables e below _ (T9.setTop (mkF m 179 #[.val (.long q1), .second, .val (.int p2), .val (.int p3), .val (.ref b1), .val (.int (4 : Int32)), .unset, .unset, .unset, .unset, .unset] []))
    obtain ⟨T15, X15, e15, st15⟩ := getS2 X9 hx hZ hown (host := "") (Or.inl (hw _ (List.mem_of_getElem? (i := 18) rfl))) Via.refl e9 (Sta.ext O9.2 S_UTF_16LE) (g := (mkF m 179 #[.val (.long q1), .second, .val (.int p2), .val (.int p3), .val (.ref b1), .val (.int (4 : Int32)), .unset, .unset, .unset, .unset, .unset] [])) rfl (hb hby at_179)
    refine own_st st15 ?_
    show own_G p.tables e below _ (T15.setTop (mkF m 182 #[.val (.long q1), .second, .val (.int p2), .val (.int p3), .val (.ref b1), .val (.int (4 : Int32)), .unset, .unset, .unset, .unset, .unset] [(.ref w_UTF_16LE)]))
    refine own_st (fun _ kS => XS.astore X15.here hx rfl (hb hby at_182) rfl rfl (l' := #[.val (.long q1), .second, .val (.int p2), .val (.int p3), .val (.ref b1), .val (.int (4 : Int32)), .val (.ref w_UTF_16LE), .unset, .unset, .unset, .unset]) rfl kS) ?_
    show own_G p.tables e below _ (T15.setTop (mkF m 184 #[.val (.long q1), .second, .val (.int p2), .val (.int p3), .val (.ref b1), .val (.int (4 : Int32)), .val (.ref w_UTF_16LE), .unset, .unset, .unset, .unset] []))
    refine own_st (fun _ kS => XS.iconst X15.here hx rfl (hb hby at_184) kS) ?_
    show own_G p.tables e below _ (T15.setTop (mkF m 185 #[.val (.long q1), .second, .val (.int p2), .val (.int p3), .val (.ref b1), .val (.int (4 : Int32)), .val (.ref w_UTF_16LE), .unset, .unset, .unset, .unset] [(.int (2 : Int32))]))
    refine own_st (fun _ kS => XS.istore X15.here hx rfl (hb hby at_185) rfl (l' := #[.val (.long q1), .second, .val (.int p2), .val (.int p3), .val (.ref b1), .val (.int (4 : Int32)), .val (.ref w_UTF_16LE), .val (.int (2 : Int32)), .unset, .unset, .unset]) rfl kS) ?_
    show own_G p.tables e below _ (T15.setTop (mkF m 187 #[.val (.long q1), .second, .val (.int p2), .val (.int p3), .val (.ref b1), .val (.int (4 : Int32)), .val (.ref w_UTF_16LE), .val (.int (2 : Int32)), .unset, .unset, .unset] []))
    refine own_st (fun _ kS => XS.iconst X15.here hx rfl (hb hby at_187) kS) ?_
    show own_G p.tables e below _ (T15.setTop (mkF m 188 #[.val (.long q1), .second, .val (.int p2), .val (.int p3), .val (.ref b1), .val (.int (4 : Int32)), .val (.ref w_UTF_16LE), .val (.int (2 : Int32)), .unset, .unset, .unset] [(.int (1 : Int32))]))
    refine own_st (fun _ kS => XS.istore X15.here hx rfl (hb hby at_188) rfl (l' := #[.val (.long q1), .second, .val (.int p2), .val (.int p3), .val (.ref b1), .val (.int (4 : Int32)), .val (.ref w_UTF_16LE), .val (.int (2 : Int32)), .val (.int (1 : Int32)), .unset, .unset]) rfl kS) ?_
    show own_G p.tables e below _ (T15.setTop (mkF m 190 #[.val (.long q1), .second, .val (.int p2), .val (.int p3), .val (.ref b1), .val (.int (4 : Int32)), .val (.ref w_UTF_16LE), .val (.int (2 : Int32)), .val (.int (1 : Int32)), .unset, .unset] []))
    refine own_st (fun _ kS => XS.goto X15.here hx rfl (pc0 := 190) (pc' := 204) rfl (hb hby at_190) (by decide) (by decide) kS) ?_
    show own_G p.tables e below _ (T15.setTop (mkF m 204 #[.val (.long q1), .second, .val (.int p2), .val (.int p3), .val (.ref b1), .val (.int (4 : Int32)), .val (.ref w_UTF_16LE), .val (.int (2 : Int32)), .val (.int (1 : Int32)), .unset, .unset] []))
    exact sg_S_2_1 hx hby hml hown hlk hret hZ hw (Nat.le_trans (Nat.le_trans (Nat.le_trans (Nat.le_trans (Nat.le_trans (Nat.le_trans (Nat.le_trans (Nat.le_trans (Nat.le_trans Z0 E1.1) (Keep.of_wr W2).1) (Keep.of_wr W3).1) (Keep.of_wr W4).1) (Keep.of_wr W5).1) (Keep.of_wr W6).1) (Keep.of_wr W7).1) (Keep.of_wr W8).1) (Keep.of_wr W9).1)  X15 e15 N9 O9 q1 p2 p3 b1 (4 : Int32) w_UTF_16LE cB Tb E_UTF_16LE F_UTF_16LE_width F_UTF_16LE_littleEndian
  · rw [hk10]
    show own_G p.tables e below _ (T9.setTop (mkF m 92 #[.val (.long q1), .second, .val (.int p2), .val (.int p3), .val (.ref b1), .unset, .unset, .unset, .unset, .unset, .unset] [(.int (5 : Int32))]))
    refine own_st (fun _ kS => XS.istore X9.here hx rfl (hb hby at_92) rfl (l' := #[.val (.long q1), .second, .val (.int p2), .val (.int p3), .val (.ref b1), .val (.int (5 : Int32)), .unset, .unset, .unset, .unset, .unset]) rfl kS) ?_
    show own_G p.tables e below _ (T9.setTop (mkF m 94 #[.val (.long q1), .second, .val (.int p2), .val (.int p3), .val (.ref b1), .val (.int (5 : Int32)), .unset, .unset, .unset, .unset, .unset] []))
    refine own_st (fun _ kS => XS.iload X9.here hx rfl (hb hby at_94) rfl kS) ?_
    show own_G p.tables e below _ (T9.setTop (mkF m 96 #[.val (.long q1), .second, .val (.int p2), .val (.int p3), .val (.ref b1), .val (.int (5 : Int32)), .unset, .unset, .unset, .unset, .unset] [(.int (5 : Int32))]))
    refine own_st (fun _ kS => XS.ifYes X9.here hx rfl (pc0 := 96) (pc' := 113) rfl (hb hby at_96) rfl ((if0 _ _).trans (feq (by decide : ¬ ((5 : Int32) = (0 : Int32)))).2) (by decide) (by decide) kS) ?_
    show own_G p.tables e below _ (T9.setTop (mkF m 113 #[.val (.long q1), .second, .val (.int p2), .val (.int p3), .val (.ref b1), .val (.int (5 : Int32)), .unset, .unset, .unset, .unset, .unset] []))
    refine own_st (fun _ kS => XS.iload X9.here hx rfl (hb hby at_113) rfl kS) ?_
    show own_G p.tables e below _ (T9.setTop (mkF m 115 #[.val (.long q1), .second, .val (.int p2), .val (.int p3), .val (.ref b1), .val (.int (5 : Int32)), .unset, .unset, .unset, .unset, .unset] [(.int (5 : Int32))]))
    refine own_st (fun _ kS => XS.iconst X9.here hx rfl (hb hby at_115) kS) ?_
    show own_G p.tables e below _ (T9.setTop (mkF m 116 #[.val (.long q1), .second, .val (.int p2), .val (.int p3), .val (.ref b1), .val (.int (5 : Int32)), .unset, .unset, .unset, .unset, .unset] [(.int (1 : Int32)), (.int (5 : Int32))]))
    refine own_st (fun _ kS => XS.icmpYes X9.here hx rfl (pc0 := 116) (pc' := 133) rfl (hb hby at_116) rfl (feq (by decide : ¬ ((5 : Int32) = (1 : Int32)))).2 (by decide) (by decide) kS) ?_
    show own_G p.tables e below _ (T9.setTop (mkF m 133 #[.val (.long q1), .second, .val (.int p2), .val (.int p3), .val (.ref b1), .val (.int (5 : Int32)), .unset, .unset, .unset, .unset, .unset] []))
    refine own_st (fun _ kS => XS.iload X9.here hx rfl (hb hby at_133) rfl kS) ?_
    show own_G p.tables e below _ (T9.setTop (mkF m 135 #[.val (.long q1), .second, .val (.int p2), .val (.int p3), .val (.ref b1), .val (.int (5 : Int32)), .unset, .unset, .unset, .unset, .unset] [(.int (5 : Int32))]))
    refine own_st (fun _ kS => XS.iconst X9.here hx rfl (hb hby at_135) kS) ?_
    show own_G p.tables e below _ (T9.setTop (mkF m 136 #[.val (.long q1), .second, .val (.int p2), .val (.int p3), .val (.ref b1), .val (.int (5 : Int32)), .unset, .unset, .unset, .unset, .unset] [(.int (2 : Int32)), (.int (5 : Int32))]))
    refine own_st (fun _ kS => XS.icmpYes X9.here hx rfl (pc0 := 136) (pc' := 153) rfl (hb hby at_136) rfl (feq (by decide : ¬ ((5 : Int32) = (2 : Int32)))).2 (by decide) (by decide) kS) ?_
    show own_G p.tables e below _ (T9.setTop (mkF m 153 #[.val (.long q1), .second, .val (.int p2), .val (.int p3), .val (.ref b1), .val (.int (5 : Int32)), .unset, .unset, .unset, .unset, .unset] []))
    refine own_st (fun _ kS => XS.iload X9.here hx rfl (hb hby at_153) rfl kS) ?_
    show own_G p.tables e below _ (T9.setTop (mkF m 155 #[.val (.long q1), .second, .val (.int p2), .val (.int p3), .val (.ref b1), .val (.int (5 : Int32)), .unset, .unset, .unset, .unset, .unset] [(.int (5 : Int32))]))
    refine own_st (fun _ kS => XS.iconst X9.here hx rfl (hb hby at_155) kS) ?_
    show own_G p.tables e below _ (T9.setTop (mkF m 156 #[.val (.long q1), .second, .val (.int p2), .val (.int p3), .val (.ref b1), .val (.int (5 : Int32)), .unset, .unset, .unset, .unset, .unset] [(.int (3 : Int32)), (.int (5 : Int32))]))
    refine own_st (fun _ kS => XS.icmpYes X9.here hx rfl (pc0 := 156) (pc' := 173) rfl (hb hby at_156) rfl (feq (by decide : ¬ ((5 : Int32) = (3 : Int32)))).2 (by decide) (by decide) kS) ?_
    show own_G p.tables e below _ (T9.setTop (mkF m 173 #[.val (.long q1), .second, .val (.int p2), .val (.int p3), .val (.ref b1), .val (.int (5 : Int32)), .unset, .unset, .unset, .unset, .unset] []))
    refine own_st (fun _ kS => XS.iload X9.here hx rfl (hb hby at_173) rfl kS) ?_
    show own_G p.tables e below _ (T9.setTop (mkF m 175 #[.val (.long q1), .second, .val (.int p2), .val (.int p3), .val (.ref b1), .val (.int (5 : Int32)), .unset, .unset, .unset, .unset, .unset] [(.int (5 : Int32))]))
    refine own_st (fun _ kS => XS.iconst X9.here hx rfl (hb hby at_175) kS) ?_
    show own_G p.tables e below _ (T9.setTop (mkF m 176 #[.val (.long q1), .second, .val (.int p2), .val (.int p3), .val (.ref b1), .val (.int (5 : Int32)), .unset, .unset, .unset, .unset, .unset] [(.int (4 : Int32)), (.int (5 : Int32))]))
    refine own_st (fun _ kS => XS.icmpYes X9.here hx rfl (pc0 := 176) (pc' := 193) rfl (hb hby at_176) rfl (feq (by decide : ¬ ((5 : Int32) = (4 : Int32)))).2 (by decide) (by decide) kS) ?_
    show own_G p.tables e below _ (T9.setTop (mkF m 193 #[.val (.long q1), .second, .val (.int p2), .val (.int p3), .val (.ref b1), .val (.int (5 : Int32)), .unset, .unset, .unset, .unset, .unset] []))
    obtain ⟨T16, X16, e16, st16⟩ := getS2 X9 hx hZ hown (host := "") (Or.inl (hw _ (List.mem_of_getElem? (i := 26) rfl))) Via.refl e9 (Sta.ext O9.2 S_UNMARKED) (g := (mkF m 193 #[.val (.long q1), .second, .val (.int p2), .val (.int p3), .val (.ref b1), .val (.int (5 : Int32)), .unset, .unset, .unset, .unset, .unset] [])) rfl (hb hby at_193)
    refine own_st st16 ?_
    show own_G p.tables e below _ (T16.setTop (mkF m 196 #[.val (.long q1), .second, .val (.int p2), .val (.int p3), .val (.ref b1), .val (.int (5 : Int32)), .unset, .unset, .unset, .unset, .unset] [(.ref w_UNMARKED)]))
    refine own_st (fun _ kS => XS.astore X16.here hx rfl (hb hby at_196) rfl rfl (l' := #[.val (.long q1), .second, .val (.int p2), .val (.int p3), .val (.ref b1), .val (.int (5 : Int32)), .val (.ref w_UNMARKED), .unset, .unset, .unset, .unset]) rfl kS) ?_
    show own_G p.tables e below _ (T16.setTop (mkF m 198 #[.val (.long q1), .second, .val (.int p2), .val (.int p3), .val (.ref b1), .val (.int (5 : Int32)), .val (.ref w_UNMARKED), .unset, .unset, .unset, .unset] []))
    refine own_st (fun _ kS => XS.iconst X16.here hx rfl (hb hby at_198) kS) ?_
    show own_G p.tables e below _ (T16.setTop (mkF m 199 #[.val (.long q1), .second, .val (.int p2), .val (.int p3), .val (.ref b1), .val (.int (5 : Int32)), .val (.ref w_UNMARKED), .unset, .unset, .unset, .unset] [(.int (1 : Int32))]))
    refine own_st (fun _ kS => XS.istore X16.here hx rfl (hb hby at_199) rfl (l' := #[.val (.long q1), .second, .val (.int p2), .val (.int p3), .val (.ref b1), .val (.int (5 : Int32)), .val (.ref w_UNMARKED), .val (.int (1 : Int32)), .unset, .unset, .unset]) rfl kS) ?_
    show own_G p.tables e below _ (T16.setTop (mkF m 201 #[.val (.long q1), .second, .val (.int p2), .val (.int p3), .val (.ref b1), .val (.int (5 : Int32)), .val (.ref w_UNMARKED), .val (.int (1 : Int32)), .unset, .unset, .unset] []))
    refine own_st (fun _ kS => XS.iconst X16.here hx rfl (hb hby at_201) kS) ?_
    show own_G p.tables e below _ (T16.setTop (mkF m 202 #[.val (.long q1), .second, .val (.int p2), .val (.int p3), .val (.ref b1), .val (.int (5 : Int32)), .val (.ref w_UNMARKED), .val (.int (1 : Int32)), .unset, .unset, .unset] [(.int (0 : Int32))]))
    refine own_st (fun _ kS => XS.istore X16.here hx rfl (hb hby at_202) rfl (l' := #[.val (.long q1), .second, .val (.int p2), .val (.int p3), .val (.ref b1), .val (.int (5 : Int32)), .val (.ref w_UNMARKED), .val (.int (1 : Int32)), .val (.int (0 : Int32)), .unset, .unset]) rfl kS) ?_
    show own_G p.tables e below _ (T16.setTop (mkF m 204 #[.val (.long q1), .second, .val (.int p2), .val (.int p3), .val (.ref b1), .val (.int (5 : Int32)), .val (.ref w_UNMARKED), .val (.int (1 : Int32)), .val (.int (0 : Int32)), .unset, .unset] []))
    exact sg_S_1_0 hx hby hml hown hlk hret hZ hw (Nat.le_trans (Nat.le_trans (Nat.le_trans (Nat.le_trans (Nat.le_trans (Nat.le_trans (Nat.le_trans (Nat.le_trans (Nat.le_trans Z0 E1.1) (Keep.of_wr W2).1) (Keep.of_wr W3).1) (Keep.of_wr W4).1) (Keep.of_wr W5).1) (Keep.of_wr W6).1) (Keep.of_wr W7).1) (Keep.of_wr W8).1) (Keep.of_wr W9).1)  X16 e16 N9 O9 q1 p2 p3 b1 (5 : Int32) w_UNMARKED cB Tb E_UNMARKED F_UNMARKED_width F_UNMARKED_littleEndian
set_option maxRecDepth 65536 in
set_option maxHeartbeats 40000000 in
theorem comes_1 {Post : Tables → Env → Array Value → State → Outcome → State → Prop} (hpost : ∀ tb e args s v u, (limb_1_1.after args s (.returned v) u = true ∧ limb_1_2.after args s (.returned v) u = true ∧ True) → FrameEnd s (.returned v) u (Jvm.fieldLocs frame_1_writes args s ++ Jvm.arrayLocs frame_1_arrays args s ++ Jvm.staticLocs frame_1_statics s) 16 128 → Post tb e args s (.returned v) u) :
    ArmFor flags0 classFile x code maxLocals ret World_1 tables_1 room_1 Calls_1 rest_1 Pre_1 Post := by
  intro l hfl _ _ p e ha hc hk s m args below hf hA hF happ hP
  obtain ⟨hcalls, hrest, hpre⟩ := hP
  obtain ⟨-, -, -, hnamed, -, -, -, hat⟩ := (Spec.applies_iff hf).mp happ
  obtain ⟨hg, hn⟩ := and_e (Cond.before_iff.mp (show (Jvm.Cond.and given_1 narrow_1).before args s = true from hpre))
  obtain ⟨g1a, g1b⟩ := and_e hg
  obtain ⟨g2a, g2b⟩ := and_e g1b
  obtain ⟨g3a, g3b⟩ := and_e g2b
  obtain ⟨w0, w1, w2, rfl⟩ : ∃ w0 w1 w2 : Value, args = #[w0, w1, w2] := by
    have hs : args.size = 3 := by simpa [Cond.value, given_1] using g1a
    obtain ⟨L⟩ := args
    match L, hs with
    | [w0, w1, w2], _ => exact ⟨w0, w1, w2, rfl⟩
  have hw := fun d (hd : d ∈ tables_1) => atoms_spec (ws := Jvm.Cond.code x code maxLocals ret :: tables_1) hat d (List.mem_cons_of_mem _ hd)
  have hfit : Fit s := fun {y c} hc i hi => by
    obtain ⟨ha, rfl⟩ := Array.getElem?_eq_some_iff.mp hc
    have q := List.all_eq_true.mp ((Array.all_eq_true_iff_forall_mem.mp hF) _ (Array.getElem_mem ha)) i (List.mem_range.mpr hi)
    simpa [Array.getElem?_eq_getElem hi] using q
  obtain ⟨i0, ei0⟩ := isL_v g2a
  obtain rfl : w0 = (.long i0) := Option.some.inj ei0
  obtain ⟨i1, ei1⟩ := is_v g3a
  obtain rfl : w1 = (.int i1) := Option.some.inj ei1
  obtain ⟨i2, ei2⟩ := is_v g3b
  obtain rfl : w2 = (.int i2) := Option.some.inj ei2
  obtain ⟨g4a, g4b⟩ := and_e hn
  obtain ⟨g5a, g5b⟩ := and_e g4b
  obtain ⟨g6a, g6b⟩ := and_e g5b
  obtain ⟨g7a, g7b⟩ := and_e g6b
  obtain ⟨g8a, g8b⟩ := and_e g7b
  obtain ⟨g9a, g9b⟩ := and_e g8b
  obtain ⟨g10a, g10b⟩ := and_e g9b
  obtain ⟨g11a, g11b⟩ := and_e g10b
  obtain ⟨g12a, g12b⟩ := and_e g11b
  obtain ⟨g13a, g13b⟩ := and_e g12b
  obtain ⟨g14a, g14b⟩ := and_e g13b
  obtain ⟨g15a, g15b⟩ := and_e g14b
  obtain ⟨g16a, g16b⟩ := and_e g15b
  obtain ⟨g17a, g17b⟩ := and_e g16b
  obtain ⟨g18a, g18b⟩ := and_e g17b
  obtain ⟨g19a, g19b⟩ := and_e g18b
  obtain ⟨g20a, g20b⟩ := and_e g19b
  obtain ⟨w_UTF_32LE, v_UTF_32LE⟩ := exa_v g4a
  have E_UTF_32LE := Exa.start v_UTF_32LE g4a
  have S_UTF_32LE := Sta.start v_UTF_32LE (Or.inr ⟨(hw _ (List.mem_of_getElem? (i := 3) rfl)), (hw _ (List.mem_of_getElem? (i := 4) rfl))⟩)
  obtain ⟨w_UTF_16LE, v_UTF_16LE⟩ := exa_v g7a
  have E_UTF_16LE := Exa.start v_UTF_16LE g7a
  have S_UTF_16LE := Sta.start v_UTF_16LE (Or.inr ⟨(hw _ (List.mem_of_getElem? (i := 3) rfl)), (hw _ (List.mem_of_getElem? (i := 19) rfl))⟩)
  obtain ⟨w_UTF_8, v_UTF_8⟩ := exa_v g10a
  have E_UTF_8 := Exa.start v_UTF_8 g10a
  have S_UTF_8 := Sta.start v_UTF_8 (Or.inr ⟨(hw _ (List.mem_of_getElem? (i := 3) rfl)), (hw _ (List.mem_of_getElem? (i := 21) rfl))⟩)
  obtain ⟨w_UTF_32BE, v_UTF_32BE⟩ := exa_v g12a
  have E_UTF_32BE := Exa.start v_UTF_32BE g12a
  have S_UTF_32BE := Sta.start v_UTF_32BE (Or.inr ⟨(hw _ (List.mem_of_getElem? (i := 3) rfl)), (hw _ (List.mem_of_getElem? (i := 23) rfl))⟩)
  obtain ⟨w_UTF_16BE, v_UTF_16BE⟩ := exa_v g15a
  have E_UTF_16BE := Exa.start v_UTF_16BE g15a
  have S_UTF_16BE := Sta.start v_UTF_16BE (Or.inr ⟨(hw _ (List.mem_of_getElem? (i := 3) rfl)), (hw _ (List.mem_of_getElem? (i := 25) rfl))⟩)
  obtain ⟨w_UNMARKED, v_UNMARKED⟩ := exa_v g18a
  have E_UNMARKED := Exa.start v_UNMARKED g18a
  have S_UNMARKED := Sta.start v_UNMARKED (Or.inr ⟨(hw _ (List.mem_of_getElem? (i := 3) rfl)), (hw _ (List.mem_of_getElem? (i := 27) rfl))⟩)
  have F_UTF_32LE_width : Fld s s.heap w_UTF_32LE "com/example/provenir/provenir/TextEncoding" "width" "I" (.int (4 : Int32)) := Fld.start ((fld_at v_UTF_32LE).symm.trans (eqv_i (Term.int_eval (4)) g5a))
  have F_UTF_32LE_littleEndian : Fld s s.heap w_UTF_32LE "com/example/provenir/provenir/TextEncoding" "littleEndian" "Z" (.int (1 : Int32)) := Fld.start ((fld_at v_UTF_32LE).symm.trans (eqv_i (Term.int_eval (1)) g6a))
  have F_UTF_16LE_width : Fld s s.heap w_UTF_16LE "com/example/provenir/provenir/TextEncoding" "width" "I" (.int (2 : Int32)) := Fld.start ((fld_at v_UTF_16LE).symm.trans (eqv_i (Term.int_eval (2)) g8a))
  have F_UTF_16LE_littleEndian : Fld s s.heap w_UTF_16LE "com/example/provenir/provenir/TextEncoding" "littleEndian" "Z" (.int (1 : Int32)) := Fld.start ((fld_at v_UTF_16LE).symm.trans (eqv_i (Term.int_eval (1)) g9a))
  have F_UTF_8_width : Fld s s.heap w_UTF_8 "com/example/provenir/provenir/TextEncoding" "width" "I" (.int (1 : Int32)) := Fld.start ((fld_at v_UTF_8).symm.trans (eqv_i (Term.int_eval (1)) g11a))
  have F_UTF_32BE_width : Fld s s.heap w_UTF_32BE "com/example/provenir/provenir/TextEncoding" "width" "I" (.int (4 : Int32)) := Fld.start ((fld_at v_UTF_32BE).symm.trans (eqv_i (Term.int_eval (4)) g13a))
  have F_UTF_32BE_littleEndian : Fld s s.heap w_UTF_32BE "com/example/provenir/provenir/TextEncoding" "littleEndian" "Z" (.int (0 : Int32)) := Fld.start ((fld_at v_UTF_32BE).symm.trans (eqv_i (Term.int_eval (0)) g14a))
  have F_UTF_16BE_width : Fld s s.heap w_UTF_16BE "com/example/provenir/provenir/TextEncoding" "width" "I" (.int (2 : Int32)) := Fld.start ((fld_at v_UTF_16BE).symm.trans (eqv_i (Term.int_eval (2)) g16a))
  have F_UTF_16BE_littleEndian : Fld s s.heap w_UTF_16BE "com/example/provenir/provenir/TextEncoding" "littleEndian" "Z" (.int (0 : Int32)) := Fld.start ((fld_at v_UTF_16BE).symm.trans (eqv_i (Term.int_eval (0)) g17a))
  have F_UNMARKED_width : Fld s s.heap w_UNMARKED "com/example/provenir/provenir/TextEncoding" "width" "I" (.int (1 : Int32)) := Fld.start ((fld_at v_UNMARKED).symm.trans (eqv_i (Term.int_eval (1)) g19a))
  have F_UTF_8_littleEndian : Fld s s.heap w_UTF_8 "com/example/provenir/provenir/TextEncoding" "littleEndian" "Z" (.int (0 : Int32)) := Fld.start ((fld_at v_UTF_8).symm.trans (eqv_i (Term.int_eval (0)) g20a))
  have F_UNMARKED_littleEndian : Fld s s.heap w_UNMARKED "com/example/provenir/provenir/TextEncoding" "littleEndian" "Z" (.int (0 : Int32)) := Fld.start ((fld_at v_UNMARKED).symm.trans (eqv_i (Term.int_eval (0)) g20b))
  obtain ⟨n, o, h1, h2, h3, _, L, rfl, ⟨rfl, N⟩, hq⟩ := rm_law l s _ hw tables_1 i0 i1 i2 w_UTF_8 w_UTF_32BE w_UTF_32LE w_UTF_16BE w_UTF_16LE w_UNMARKED s.heap s.heap.size (Nat.le_refl _) (Old.start s) S_UTF_8 S_UTF_32BE S_UTF_32LE S_UTF_16BE S_UTF_16LE S_UNMARKED E_UTF_8 E_UTF_32BE E_UTF_32LE E_UTF_16BE E_UTF_16LE E_UNMARKED F_UTF_8_width F_UTF_8_littleEndian F_UTF_32BE_width F_UTF_32BE_littleEndian F_UTF_32LE_width F_UTF_32LE_littleEndian F_UTF_16BE_width F_UTF_16BE_littleEndian F_UTF_16LE_width F_UTF_16LE_littleEndian F_UNMARKED_width F_UNMARKED_littleEndian p e ha hc hk s m _ below hf ((Spec.applies_iff_loose hf).mp happ).1 ⟨rfl, State.Warmed39.refl s, rfl⟩ trivial
  refine ⟨n, _, h1, h2, h3, hpost _ _ _ _ _ _ ⟨Cond.after_iff.mpr rfl, Cond.after_iff.mpr (eq_i res_at (Term.int_eval (1)) rfl), trivial⟩ ⟨hq.1, hq.2.1, (hq.2.2.sift fun y hy => Or.inr (N y hy)).mono (by decide) (by decide)⟩⟩
theorem main_1_1 : Claimed_1_1 := comes_1 fun _ _ _ _ _ _ h hF => ⟨h.1, hF⟩
theorem main_1_2 : Claimed_1_2 := comes_1 fun _ _ _ _ _ _ h hF => ⟨h.2.1, hF⟩
end Jvm.Pilot.@@N@@
namespace Jvm.Pilot.@@N@@
open Jvm Jvm.ClassFile Sem Op Lib Jvm.Free Jvm.Stand Jvm.Pilot.@@N@@.Jvm.D
/-! MADE BY PROGRAM (witnessworld.py) out of the Statement's table words and the real class files: 12 classes; the members and pool entries that the words name. The judged class is class 1, her method 2. -/
namespace start1
open Jvm.ClassFile
def u (s : String) : CpInfo := .utf8 (stringToUtf16 s)
/-- a pool by its gaps: so many unusable entries, then the entry; so many at the end -/
def gap : Nat → List CpInfo → List CpInfo
  | 0, r => r
  | n + 1, r => .unusable :: gap n r
def poolList (es : List (Nat × CpInfo)) (last : Nat) : List CpInfo := es.foldr (fun e r => gap e.1 (e.2 :: r)) (gap last [])
def pool (es : List (Nat × CpInfo)) (last : Nat) : Array CpInfo := ⟨poolList es last⟩
def fileOf (pool : Array CpInfo) (this : Nat) (attrs : Array Attribute := #[]) (ms : Array MethodInfo := #[]) (fl : Nat := 33) (sup : Nat := 0) (ifs : Array Nat := #[]) (fds : Array FieldInfo := #[]) : ClassFile where
  minorVersion := 0
  majorVersion := 65
  constantPool := pool
  accessFlags := fl
  thisClass := this
  superClass := sup
  interfaces := ifs
  fields := fds
  methods := ms
  attributes := attrs
def plain (name : String) (sup : Option ClassId) : Class where
  name := name
  kind := .ordinary
  loader := none
  accessFlags := 33
  super := sup
  interfaces := #[]
  cf := none
  fields := #[]
  methods := #[]
  instanceTypes := #[]
  staticTypes := #[]
  resolved := #[]
  callSites := []
  init := .initialized
  statics := none
  mirror := none

def pool0 : Array CpInfo := pool [(5, u "<init>"), (0, u "()V"), (1, .class_ 10), (1, u "java/lang/Object")] 113

def k0m0 : Method := { name := "<init>", desc := "()V", sig := { parameters := [], returnType := none }, accessFlags := 1, code := none }
/-- java/lang/Object -/
def k0 : Class := { plain "java/lang/Object" none with
  accessFlags := 33
  interfaces := #[]
  cf := some (fileOf pool0 8 #[] #[{ accessFlags := 1, nameIndex := 5, descriptorIndex := 6, attributes := #[] }] 33 0 #[] #[])
  fields := #[]
  methods := #[k0m0]
  instanceTypes := #[]
  staticTypes := #[]
  resolved := Array.replicate 124 none
  statics := none }

def pool1 : Array CpInfo := pool [(2, .class_ 4), (1, u "java/lang/Object"), (0, u "<init>"), (0, u "()V"), (0, .integer 2147483647), (0, .fieldref 9 10), (0, .class_ 11), (0, .nameAndType 12 13), (0, u "com/example/provenir/provenir/TextEncoding"), (0, u "UTF_8"), (0, u "Lcom/example/provenir/provenir/TextEncoding;"), (0, .fieldref 9 15), (0, .nameAndType 16 13), (0, u "UTF_32BE"), (0, .fieldref 9 18), (0, .nameAndType 19 13), (0, u "UTF_32LE"), (0, .fieldref 9 21), (0, .nameAndType 22 13), (0, u "UTF_16BE"), (0, .fieldref 9 24), (0, .nameAndType 25 13), (0, u "UTF_16LE"), (0, .fieldref 9 27), (0, .nameAndType 28 13), (0, u "UNMARKED"), (0, .methodref 30 31), (0, .class_ 32), (0, .nameAndType 33 34), (0, u "com/example/provenir/provenir/TextEncodingUnitAtPinLaw"), (0, u "u"), (0, u "([BI)I"), (0, .methodref 9 36), (0, .nameAndType 37 34), (0, u "unitAt"), (2, u "law"), (0, u "(JII)Z")] 5

def k1m0 : Method := { name := "<init>", desc := "()V", sig := { parameters := [], returnType := none }, accessFlags := 1, code := none }
def k1c1 : Code := { maxStack := 2, maxLocals := 2, code := method_2_code, exceptionTable := #[], attributes := #[] }
def k1m1 : Method := { name := "u", desc := "([BI)I", sig := { parameters := [(.array .byte), .int], returnType := some .int }, accessFlags := 10, code := some k1c1 }
def k1c2 : Code := { maxStack := 5, maxLocals := 11, code := code, exceptionTable := #[], attributes := #[] }
def k1m2 : Method := { name := "law", desc := "(JII)Z", sig := { parameters := [.long, .int, .int], returnType := some .boolean }, accessFlags := 9, code := some k1c2 }
/-- com/example/provenir/provenir/TextEncodingUnitAtPinLaw -/
def k1 : Class := { plain "com/example/provenir/provenir/TextEncodingUnitAtPinLaw" (some 0) with
  accessFlags := 49
  interfaces := #[]
  cf := some (fileOf pool1 30 #[] #[{ accessFlags := 1, nameIndex := 5, descriptorIndex := 6, attributes := #[] }, { accessFlags := 10, nameIndex := 33, descriptorIndex := 34, attributes := #[] }, { accessFlags := 9, nameIndex := 40, descriptorIndex := 41, attributes := #[] }] 49 2 #[] #[])
  fields := #[]
  methods := #[k1m0, k1m1, k1m2]
  instanceTypes := #[]
  staticTypes := #[]
  resolved := Array.replicate 47 none
  statics := none }

def pool2 : Array CpInfo := pool [(1, .class_ 2), (0, u "java/lang/constant/Constable"), (0, .class_ 4), (0, u "java/lang/Object")] 6

/-- java/lang/constant/Constable -/
def k2 : Class := { plain "java/lang/constant/Constable" (some 0) with
  accessFlags := 1537
  interfaces := #[]
  cf := some (fileOf pool2 1 #[] #[] 1537 3 #[] #[])
  fields := #[]
  methods := #[]
  instanceTypes := #[]
  staticTypes := #[]
  resolved := Array.replicate 11 none
  statics := none }

def pool3 : Array CpInfo := pool [(1, .class_ 2), (0, u "java/lang/Comparable"), (0, .class_ 4), (0, u "java/lang/Object")] 7

/-- java/lang/Comparable -/
def k3 : Class := { plain "java/lang/Comparable" (some 0) with
  accessFlags := 1537
  interfaces := #[]
  cf := some (fileOf pool3 1 #[] #[] 1537 3 #[] #[])
  fields := #[]
  methods := #[]
  instanceTypes := #[]
  staticTypes := #[]
  resolved := Array.replicate 12 none
  statics := none }

def pool4 : Array CpInfo := pool [(1, .class_ 2), (0, u "java/io/Serializable"), (0, .class_ 4), (0, u "java/lang/Object")] 2

/-- java/io/Serializable -/
def k4 : Class := { plain "java/io/Serializable" (some 0) with
  accessFlags := 1537
  interfaces := #[]
  cf := some (fileOf pool4 1 #[] #[] 1537 3 #[] #[])
  fields := #[]
  methods := #[]
  instanceTypes := #[]
  staticTypes := #[]
  resolved := Array.replicate 7 none
  statics := none }

def pool5 : Array CpInfo := pool [(2, .class_ 4), (1, u "java/lang/Enum"), (0, u "name"), (0, u "Ljava/lang/String;"), (2, u "ordinal"), (0, u "I"), (1, .class_ 14), (1, u "java/lang/Object"), (4, u "hash"), (86, .class_ 108), (1, u "java/lang/Enum$EnumDesc"), (2, .class_ 112), (0, u "java/lang/constant/Constable"), (0, .class_ 114), (0, u "java/lang/Comparable"), (0, .class_ 116), (0, u "java/io/Serializable")] 87

/-- java/lang/Enum -/
def k5 : Class := { plain "java/lang/Enum" (some 0) with
  accessFlags := 1057
  interfaces := #[2, 3, 4]
  cf := some (fileOf pool5 2 #[.nestMembers #[106]] #[] 1057 12 #[111, 113, 115] #[{ accessFlags := 18, nameIndex := 5, descriptorIndex := 6, attributes := #[] }, { accessFlags := 18, nameIndex := 9, descriptorIndex := 10, attributes := #[] }, { accessFlags := 2, nameIndex := 19, descriptorIndex := 10, attributes := #[] }])
  fields := #[{ name := "name", type := (.object "java/lang/String"), accessFlags := 18, slot := 0, constantValue := 0 }, { name := "ordinal", type := .int, accessFlags := 18, slot := 1, constantValue := 0 }, { name := "hash", type := .int, accessFlags := 2, slot := 2, constantValue := 0 }]
  methods := #[]
  instanceTypes := #[(.object "java/lang/String"), .int, .int]
  staticTypes := #[]
  resolved := Array.replicate 204 none
  statics := none }

def pool6 : Array CpInfo := pool [(1, .class_ 2), (0, u "com/example/provenir/provenir/TextEncoding"), (2, u "UTF_8"), (0, u "Lcom/example/provenir/provenir/TextEncoding;"), (2, u "UTF_32BE"), (2, u "UTF_32LE"), (2, u "UTF_16BE"), (2, u "UTF_16LE"), (2, u "UNMARKED"), (2, u "$VALUES"), (0, u "[Lcom/example/provenir/provenir/TextEncoding;"), (6, .class_ 34), (1, u "java/lang/Enum"), (6, .fieldref 1 42), (0, .nameAndType 43 44), (0, u "width"), (0, u "I"), (0, .fieldref 1 46), (0, .nameAndType 47 48), (0, u "littleEndian"), (0, u "Z"), (2, u "mark"), (0, u "[B"), (49, u "unitAt"), (0, u "([BI)I"), (24, u "LONGEST_MARK")] 26

def k6c0 : Code := { maxStack := 4, maxLocals := 5, code := prog_73_method_8_code, exceptionTable := #[], attributes := #[] }
def k6m0 : Method := { name := "unitAt", desc := "([BI)I", sig := { parameters := [(.array .byte), .int], returnType := some .int }, accessFlags := 0, code := some k6c0 }
/-- com/example/provenir/provenir/TextEncoding -/
def k6 : Class := { plain "com/example/provenir/provenir/TextEncoding" (some 5) with
  accessFlags := 16432
  interfaces := #[]
  cf := some (fileOf pool6 1 #[] #[{ accessFlags := 0, nameIndex := 102, descriptorIndex := 103, attributes := #[] }] 16432 32 #[] #[{ accessFlags := 16409, nameIndex := 5, descriptorIndex := 6, attributes := #[] }, { accessFlags := 16409, nameIndex := 9, descriptorIndex := 6, attributes := #[] }, { accessFlags := 16409, nameIndex := 12, descriptorIndex := 6, attributes := #[] }, { accessFlags := 16409, nameIndex := 15, descriptorIndex := 6, attributes := #[] }, { accessFlags := 16409, nameIndex := 18, descriptorIndex := 6, attributes := #[] }, { accessFlags := 16409, nameIndex := 21, descriptorIndex := 6, attributes := #[] }, { accessFlags := 26, nameIndex := 128, descriptorIndex := 44, attributes := #[] }, { accessFlags := 18, nameIndex := 43, descriptorIndex := 44, attributes := #[] }, { accessFlags := 18, nameIndex := 47, descriptorIndex := 48, attributes := #[] }, { accessFlags := 18, nameIndex := 51, descriptorIndex := 52, attributes := #[] }, { accessFlags := 4122, nameIndex := 24, descriptorIndex := 25, attributes := #[] }])
  fields := #[{ name := "UTF_8", type := (.object "com/example/provenir/provenir/TextEncoding"), accessFlags := 16409, slot := 0, constantValue := 0 }, { name := "UTF_32BE", type := (.object "com/example/provenir/provenir/TextEncoding"), accessFlags := 16409, slot := 1, constantValue := 0 }, { name := "UTF_32LE", type := (.object "com/example/provenir/provenir/TextEncoding"), accessFlags := 16409, slot := 2, constantValue := 0 }, { name := "UTF_16BE", type := (.object "com/example/provenir/provenir/TextEncoding"), accessFlags := 16409, slot := 3, constantValue := 0 }, { name := "UTF_16LE", type := (.object "com/example/provenir/provenir/TextEncoding"), accessFlags := 16409, slot := 4, constantValue := 0 }, { name := "UNMARKED", type := (.object "com/example/provenir/provenir/TextEncoding"), accessFlags := 16409, slot := 5, constantValue := 0 }, { name := "LONGEST_MARK", type := .int, accessFlags := 26, slot := 6, constantValue := 0 }, { name := "width", type := .int, accessFlags := 18, slot := 3, constantValue := 0 }, { name := "littleEndian", type := .boolean, accessFlags := 18, slot := 4, constantValue := 0 }, { name := "mark", type := (.array .byte), accessFlags := 18, slot := 5, constantValue := 0 }, { name := "$VALUES", type := (.array (.object "com/example/provenir/provenir/TextEncoding")), accessFlags := 4122, slot := 7, constantValue := 0 }]
  methods := #[k6m0]
  instanceTypes := #[(.object "java/lang/String"), .int, .int, .int, .boolean, (.array .byte)]
  staticTypes := #[(.object "com/example/provenir/provenir/TextEncoding"), (.object "com/example/provenir/provenir/TextEncoding"), (.object "com/example/provenir/provenir/TextEncoding"), (.object "com/example/provenir/provenir/TextEncoding"), (.object "com/example/provenir/provenir/TextEncoding"), (.object "com/example/provenir/provenir/TextEncoding"), .int, (.array (.object "com/example/provenir/provenir/TextEncoding"))]
  resolved := Array.replicate 155 none
  statics := some 0 }

def pool7 : Array CpInfo := pool [(1, u "java/lang/Cloneable"), (0, .class_ 1), (0, u "java/lang/Object"), (0, .class_ 3)] 3

/-- java/lang/Cloneable -/
def k7 : Class := { plain "java/lang/Cloneable" (some 0) with
  accessFlags := 1537
  interfaces := #[]
  cf := some (fileOf pool7 2 #[] #[] 1537 4 #[] #[])
  fields := #[]
  methods := #[]
  instanceTypes := #[]
  staticTypes := #[]
  resolved := Array.replicate 8 none
  statics := none }

/-- the primitive byte -/
def k8 : Class := { plain "byte" none with kind := .primitive 'B', accessFlags := 0x411 }
/-- [B -/
def k9 : Class := { plain "[B" (some 0) with kind := .array 8 .byte, interfaces := #[7, 4], accessFlags := 1041 }

/-- the primitive int -/
def k10 : Class := { plain "int" none with kind := .primitive 'I', accessFlags := 0x411 }
/-- [I -/
def k11 : Class := { plain "[I" (some 0) with kind := .array 10 .int, interfaces := #[7, 4], accessFlags := 1041 }

def heap : Heap := #[{ cls := 6, slots := #[.ref 1, .ref 2, .ref 3, .ref 4, .ref 5, .ref 6, .int 0, .null], vm := .statics 6 },
  { cls := 6, slots := #[.null, .int 0, .int 0, .int 1, .int 0, .null], vm := .none },
  { cls := 6, slots := #[.null, .int 1, .int 0, .int 4, .int 0, .null], vm := .none },
  { cls := 6, slots := #[.null, .int 2, .int 0, .int 4, .int 1, .null], vm := .none },
  { cls := 6, slots := #[.null, .int 3, .int 0, .int 2, .int 0, .null], vm := .none },
  { cls := 6, slots := #[.null, .int 4, .int 0, .int 2, .int 1, .null], vm := .none },
  { cls := 6, slots := #[.null, .int 5, .int 0, .int 1, .int 0, .null], vm := .none }]
def classes : Array Class := #[k0, k1, k2, k3, k4, k5, k6, k7, k8, k9, k10, k11]
def interned : List (Array UInt16 × Addr) := []
def slotsUsed : Nat := 44
def theMethod : MethodId := ⟨1, 2⟩
def args0 : Array Value := #[.long 7, .int 5, .int 1]
def aboutOver (below : List Frame) : State where
  vm := { classes := classes, interned := interned.toArray }
  heap := heap
  slotsUsed := slotsUsed
  threads := #[{ frames := .invoking theMethod args0 :: below }]
def below0 : List Frame := [.native { method := ⟨0, 0⟩, args := #[] }]
def about1 : State := aboutOver below0
def p0 : Program := .bare "" "" ""
def e0 : Env := launch0.env 0 0 0
theorem w_frames : about1.frames = Frame.invoking theMethod args0 :: below0 := rfl
set_option maxRecDepth 65536 in
theorem w_args : argsFit about1.vm theMethod args0 = true := by decide +kernel
set_option maxRecDepth 65536 in
theorem w_heap : heapFits about1 = true := by decide +kernel
set_option maxRecDepth 65536 in
theorem w_runnable : about1.curStatus? = some .runnable := by decide +kernel
set_option maxRecDepth 65536 in
theorem w_alone : about1.alone = true := by decide +kernel
set_option maxRecDepth 65536 in
theorem w_named : about1.methodNamed? x = some theMethod := by decide +kernel
set_option maxRecDepth 65536 in
theorem w_hears : about1.hears theMethod below0 = true := by decide +kernel
set_option maxRecDepth 65536 in
theorem w_ripe : about1.ripe theMethod args0 below0 = true := by decide +kernel
theorem w_running : about1.status = .running := rfl
set_option maxRecDepth 65536 in
theorem w_room : about1.hasRoom e0.platform room_1 = true :=
  launch0.hasRoom_least _ room_1 (by decide +kernel) (by decide +kernel) (by decide +kernel) (by decide +kernel) (by decide +kernel) (by decide +kernel)
theorem allAtoms_all (ts : List Jvm.Cond) (a : Array Jvm.Value) (st : Jvm.State) : (allAtoms ts).before a st = ts.all (fun c => c.before a st) := by
  induction ts with
  | nil => rfl
  | cons c t ih =>
    show (Jvm.Cond.and c (allAtoms t)).before a st = _
    rw [Jvm.Cond.before_and, ih, List.all_cons]
def words1 : List Jvm.Cond := Jvm.Cond.code x code maxLocals ret :: tables_1
/-- a 'code' word, met by the world's own term for the bytes: nothing is compared byte by byte -/
theorem code_word {y : MethodName} {bytes : ByteArray} {mx : Nat} {rt : Option FieldType} {a : Array Value} {s : State} {m : MethodId} {meth : Method} {c : Code} (h1 : s.methodNamed? y = some m) (h2 : s.vm.method? m = some meth) (h3 : meth.code = some c) (h4 : c.code = bytes)
    (h5 : (c.maxLocals == mx && c.exceptionTable.isEmpty && decide (c.maxStack ≤ mostOperands) && decide (meth.sig.returnType = rt) && !meth.locks && decide (parseMethodDescriptor y.desc = some meth.sig)) = true) : (Jvm.Cond.code y bytes mx rt).before a s = true := by
  simp only [Bool.and_eq_true, beq_iff_eq, Bool.not_eq_true', decide_eq_true_eq] at h5
  obtain ⟨⟨⟨⟨⟨g1, g2⟩, g3⟩, g4⟩, g5⟩, g6⟩ := h5
  simp [Cond.before, Cond.holds, Cond.value, h1, h2, h3, h4, g1, g2, g3, g4, g5, g6]
def isCode : Jvm.Cond → Bool
  | .code _ _ _ _ => true
  | _ => false
theorem all_split {L : List Jvm.Cond} {P : Jvm.Cond → Bool} (h1 : L.all (fun c => isCode c || P c) = true) (h2 : ∀ c ∈ L.filter isCode, P c = true) : L.all P = true := by
  refine List.all_eq_true.mpr fun c hc => ?_
  have h := List.all_eq_true.mp h1 c hc
  rcases Bool.eq_false_or_eq_true (isCode c) with hi | hi
  · exact h2 c (List.mem_filter.mpr ⟨hc, hi⟩)
  · simpa [hi] using h
set_option maxRecDepth 65536 in
theorem w_c0 : (Jvm.Cond.code x code maxLocals ret).before args0 about1 = true := code_word (m := ⟨1, 2⟩) (meth := k1m2) (c := k1c2) (by decide +kernel) rfl rfl rfl (by decide +kernel)
set_option maxRecDepth 65536 in
theorem w_c1 : (Jvm.Cond.code ({ cls := "com/example/provenir/provenir/TextEncodingUnitAtPinLaw", name := "u", desc := "([BI)I" } : Jvm.MethodName) method_2_code (2 : Nat) (Option.some Jvm.ClassFile.FieldType.int)).before args0 about1 = true := code_word (m := ⟨1, 1⟩) (meth := k1m1) (c := k1c1) (by decide +kernel) rfl rfl rfl (by decide +kernel)
set_option maxRecDepth 65536 in
theorem w_c2 : (Jvm.Cond.code ({ cls := "com/example/provenir/provenir/TextEncoding", name := "unitAt", desc := "([BI)I" } : Jvm.MethodName) prog_73_method_8_code (5 : Nat) (Option.some Jvm.ClassFile.FieldType.int)).before args0 about1 = true := code_word (m := ⟨6, 0⟩) (meth := k6m0) (c := k6c0) (by decide +kernel) rfl rfl rfl (by decide +kernel)
def codes1 : List Jvm.Cond := [Jvm.Cond.code x code maxLocals ret, Jvm.Cond.code ({ cls := "com/example/provenir/provenir/TextEncodingUnitAtPinLaw", name := "u", desc := "([BI)I" } : Jvm.MethodName) method_2_code (2 : Nat) (Option.some Jvm.ClassFile.FieldType.int), Jvm.Cond.code ({ cls := "com/example/provenir/provenir/TextEncoding", name := "unitAt", desc := "([BI)I" } : Jvm.MethodName) prog_73_method_8_code (5 : Nat) (Option.some Jvm.ClassFile.FieldType.int)]
set_option maxRecDepth 65536 in
theorem codes_eq : words1.filter isCode = codes1 := rfl
theorem w_codes : ∀ c ∈ words1.filter isCode, c.before args0 about1 = true := by
  rw [codes_eq]
  intro c hc
  simp only [codes1, List.mem_cons, List.not_mem_nil, or_false] at hc
  rcases hc with rfl | rfl | rfl
  · exact w_c0
  · exact w_c1
  · exact w_c2
set_option maxRecDepth 65536 in
theorem w_t1 : (words1.take 24).all (fun c => isCode c || c.before args0 about1) = true := by decide +kernel
set_option maxRecDepth 65536 in
theorem w_t2 : (words1.drop 24).all (fun c => isCode c || c.before args0 about1) = true := by decide +kernel
theorem w_tables : (allAtoms (Jvm.Cond.code x code maxLocals ret :: tables_1)).before args0 about1 = true := by
  rw [allAtoms_all]
  show words1.all (fun c => c.before args0 about1) = true
  refine all_split ?_ w_codes
  rw [← List.take_append_drop 24 words1, List.all_append, w_t1, w_t2]
  rfl
set_option maxRecDepth 65536 in
theorem w_case : (Jvm.Cond.and given_1 narrow_1).before args0 about1 = true := by decide +kernel
theorem w_applies : (headSpec (Jvm.Cond.code x code maxLocals ret :: tables_1) room_1).applies x e0.platform about1 = true :=
  (Spec.applies_iff w_frames).mpr ⟨w_running, w_runnable, w_alone, w_named, w_hears, w_ripe, w_room, w_tables⟩
theorem atStart : AtStart classFile x code maxLocals ret World_1 tables_1 room_1 Calls_1 rest_1 Pre_1 launch0 p0 e0 about1 theMethod args0 below0 :=
  ⟨lists_1, trivial, launch0.admits_env _ _ _, launch0.least_env, fairChoices_fair.cas, fairChoices_fair.clock, w_frames, w_args, w_heap, w_applies, trivial, trivial, w_case⟩
end start1
theorem witness_1 : WitnessClaimed_1 := ⟨start1.p0, start1.e0, start1.about1, start1.theMethod, start1.args0, start1.below0, start1.atStart⟩
end Jvm.Pilot.@@N@@
