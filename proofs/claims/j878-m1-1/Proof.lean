import JvmDerived
import JvmDerived.Pilot.@@N@@Statement
import JvmDerived.Pilot.@@N@@Code
set_option linter.unusedVariables false
set_option linter.unusedSimpArgs false
namespace Jvm.Pilot.@@N@@
open Jvm Jvm.ClassFile Sem Op Lib Jvm.Free Jvm.Stand Jvm.LawKit Jvm.RoadKit Bundle Jvm.Pilot.@@N@@.Jvm.D
section OwnKit
variable {p : Program} {l : Launch} {e : Env} {R : Room} {s : State} {m : MethodId} {args : Array Value} {below : List Frame} {meth : Method} {c : Code} {T : State} {locs : List Loc} {cells slots : Nat}
/-- from S the run comes to an end that Φ takes -/
def own_G (tb : Tables) (e : Env) (below : List Frame) (Φ : State → Outcome → Prop) (S : State) : Prop := ∃ t o, Steps tb e below S t ∧ t.status = .running ∧ Ended t below o ∧ Φ t o
def own_E (s : State) (Q : Option Value → Heap → List Loc → Prop) (kc ks : Nat) : State → Outcome → Prop := fun t o => ∃ v L, o = .returned v ∧ Q v t.heap L ∧ FrameEnd s o t L kc ks
theorem own_st {tb : Tables} {Φ : State → Outcome → Prop} {S S' : State} (h : ∀ t, Steps tb e below S' t → Steps tb e below S t) (g : own_G tb e below Φ S') : own_G tb e below Φ S := by
  obtain ⟨t, o, a, b⟩ := g
  exact ⟨t, o, h t a, b⟩
theorem own_tr {tb : Tables} {Φ : State → Outcome → Prop} {S S' : State} (h : Steps tb e below S S') (g : own_G tb e below Φ S') : own_G tb e below Φ S := by
  obtain ⟨t, o, a, b⟩ := g
  exact ⟨t, o, h.trans a, b⟩
theorem own_in {s₁ : State} (kc ks : Nat) (Q : Option Value → Heap → List Loc → Prop) {mL : Nat} {g : JFrame} (ef : entryFrame m args mL = g) (k : own_G p.tables e below (own_E s Q kc ks) (s₁.setTop g)) :
    ∃ s₂ o, Steps p.tables e below (s₁.setTop (entryFrame m args mL)) s₂ ∧ s₂.status = .running ∧ Ended s₂ below o ∧ ∃ v L, o = .returned v ∧ Q v s₂.heap L ∧ FrameEnd s o s₂ L kc ks := by
  rw [ef]
  exact k
theorem own_retI0 (X : Stand p l e R s m args below meth c T locs cells slots) (hx : p.tables.exec = Jvm.exec) {pc : Nat} {Ls : Array Slot} {z : Int32} {rest : List Value} (hret : meth.sig.returnType = some .int) (hd : decode c.code pc = .ok (.ireturn, 1)) {fs : List Frame}
    (hl : ∀ (f : JFrame) (acts : List Action), f.method = m → f.locked = none → f.entered = [] → (doReturn e (T.setTop f) acts (some (.int z))).1 = T.setFrames fs) : Steps p.tables e below (T.setTop (mkF m pc Ls (.int z :: rest))) (T.setFrames fs) :=
  retOut X hx hret rfl (Or.inl ⟨rfl, Or.inl rfl, z, rfl⟩) hd hl
theorem own_retI (X : Stand p l e R s m args below meth c T locs cells slots) (hx : p.tables.exec = Jvm.exec) (hlk : meth.locks = false) {pc : Nat} {Ls : Array Slot} {z : Int32} {rest : List Value} (hret : meth.sig.returnType = some .int) (hd : decode c.code pc = .ok (.ireturn, 1))
    {Q : Option Value → Heap → List Loc → Prop} {kc ks : Nat} (hc : cells ≤ kc) (hs : slots ≤ ks) (q : Q (some (.int z)) T.heap locs) : own_G p.tables e below (own_E s Q kc ks) (T.setTop (mkF m pc Ls (.int z :: rest))) := by
  obtain ⟨fs, hr, hrun, hended, hW, hsame⟩ := X.leave (v := some (.int z)) (fun h => by rw [hret] at h; cases h)
  exact ⟨_, _, own_retI0 X hx hret hd hr, hrun, hended, _, _, rfl, q, ⟨_, rfl⟩, hW, hsame.mono hc hs⟩
theorem own_retN (X : Stand p l e R s m args below meth c T locs cells slots) (hx : p.tables.exec = Jvm.exec) (hlk : meth.locks = false) {pc : Nat} {Ls : Array Slot} {z : Int32} {t : FieldType} {rest : List Value} (hret : meth.sig.returnType = some t) (ht : t = .boolean ∨ t = .byte ∨ t = .char ∨ t = .short) (hd : decode c.code pc = .ok (.ireturn, 1))
    {Q : Option Value → Heap → List Loc → Prop} {kc ks : Nat} (hc : cells ≤ kc) (hs : slots ≤ ks) {v' : Int32} (hv : nar t z = v') (q : Q (some (.int v')) T.heap locs) : own_G p.tables e below (own_E s Q kc ks) (T.setTop (mkF m pc Ls (.int z :: rest))) := by
  subst hv
  obtain ⟨fs, hr, hrun, hended, hW, hsame⟩ := X.leave (v := some (.int (nar t z))) (fun h => by rw [hret] at h; cases h)
  exact ⟨_, _, retN X hx hret ht hd hr, hrun, hended, _, _, rfl, q, ⟨_, rfl⟩, hW, hsame.mono hc hs⟩
theorem own_retA (X : Stand p l e R s m args below meth c T locs cells slots) (hx : p.tables.exec = Jvm.exec) (hlk : meth.locks = false) {pc : Nat} {Ls : Array Slot} {w : Value} {t : FieldType} {rest : List Value} (hret : meth.sig.returnType = some t) (ht : t.isReference = true) (hw : w.isRef = true) (hd : decode c.code pc = .ok (.areturn, 1))
    {Q : Option Value → Heap → List Loc → Prop} {kc ks : Nat} (hc : cells ≤ kc) (hs : slots ≤ ks) (q : Q (some w) T.heap locs) : own_G p.tables e below (own_E s Q kc ks) (T.setTop (mkF m pc Ls (w :: rest))) := by
  obtain ⟨fs, hr, hrun, hended, hW, hsame⟩ := X.leave (v := some w) (fun h => by rw [hret] at h; cases h)
  have hn : narrow t w = w := by rcases ref_cases hw with rfl | ⟨a, rfl⟩ <;> cases t <;> rfl
  exact ⟨_, _, retOut X hx hret hn (Or.inr (Or.inr (Or.inr (Or.inr ⟨rfl, ht, hw⟩)))) hd hr, hrun, hended, _, _, rfl, q, ⟨_, rfl⟩, hW, hsame.mono hc hs⟩
theorem own_retJ (X : Stand p l e R s m args below meth c T locs cells slots) (hx : p.tables.exec = Jvm.exec) (hlk : meth.locks = false) {pc : Nat} {Ls : Array Slot} {z : Int64} {rest : List Value} (hret : meth.sig.returnType = some .long) (hd : decode c.code pc = .ok (.lreturn, 1))
    {Q : Option Value → Heap → List Loc → Prop} {kc ks : Nat} (hc : cells ≤ kc) (hs : slots ≤ ks) (q : Q (some (.long z)) T.heap locs) : own_G p.tables e below (own_E s Q kc ks) (T.setTop (mkF m pc Ls (.long z :: rest))) := by
  obtain ⟨fs, hr, hrun, hended, hW, hsame⟩ := X.leave (v := some (.long z)) (fun h => by rw [hret] at h; cases h)
  exact ⟨_, _, retOut X hx hret rfl (Or.inr (Or.inl ⟨rfl, rfl, z, rfl⟩)) hd hr, hrun, hended, _, _, rfl, q, ⟨_, rfl⟩, hW, hsame.mono hc hs⟩
theorem own_retV (X : Stand p l e R s m args below meth c T locs cells slots) (hx : p.tables.exec = Jvm.exec) (hlk : meth.locks = false) {pc : Nat} {Ls : Array Slot} (hret : meth.sig.returnType = none) (hd : decode c.code pc = .ok (.return_, 1))
    {Q : Option Value → Heap → List Loc → Prop} {kc ks : Nat} (hc : cells ≤ kc) (hs : slots ≤ ks) (q : Q none T.heap locs) : own_G p.tables e below (own_E s Q kc ks) (T.setTop (mkF m pc Ls [])) := by
  obtain ⟨fs, hr, hrun, hended, hW, hsame⟩ := X.leave (v := none) (fun _ => rfl)
  exact ⟨_, _, X.returnOut hx hret hd hr, hrun, hended, _, _, rfl, q, ⟨_, rfl⟩, hW, hsame.mono hc hs⟩
end OwnKit
theorem own_w {a0 : Array Value} {Z : State} (hw : ∀ d ∈ tables_1, d.before a0 Z = true) (i : Nat) {d : Jvm.Cond} (h : tables_1[i]? = some d) : d.before a0 Z = true := hw d (List.mem_of_getElem? h)
theorem own_cat {v : Value} (h : v.isRef = true) : v.category = 1 := by cases v <;> first | rfl | (simp [Value.isRef] at h)
theorem own_i32 {a b : Int32} (h : a.toInt = b.toInt) : a = b := Int32.toInt_inj.mp h
theorem own_i64 {a b : Int64} (h : a.toInt = b.toInt) : a = b := Int64.toInt_inj.mp h
/-- (x & 0x7fffffff) % d lies from 0 to d - 1 -/
theorem own_mod (x y : Int32) (d : Int) (hy : y.toInt = d) (hd : 0 < d) : 0 ≤ ((x &&& 2147483647) % y).toInt ∧ ((x &&& 2147483647) % y).toInt < d ∧ ((x &&& 2147483647) % y).toInt = (x.toInt % 2147483648) % d := by
  have h1 := c_mask x 2147483647 31 (by decide) (by decide)
  have h2 := (c_irem (x &&& 2147483647) y d hy).1 (by rw [h1]; omega)
  rw [h2, h1]
  refine ⟨Int.emod_nonneg _ (by omega), Int.emod_lt_of_pos _ hd, rfl⟩
theorem own_and3 (x : Int32) : x &&& 3 = (0 : Int32) ∨ x &&& 3 = (1 : Int32) ∨ x &&& 3 = (2 : Int32) ∨ x &&& 3 = (3 : Int32) := by
  have h := c_mask x 3 2 (by decide) (by decide)
  have h2 : (x &&& 3).toInt = x.toInt % 4 := h
  have : (x &&& 3).toInt = 0 ∨ (x &&& 3).toInt = 1 ∨ (x &&& 3).toInt = 2 ∨ (x &&& 3).toInt = 3 := by omega
  rcases this with h | h | h | h
  · exact Or.inl (own_i32 (h.trans (by decide)))
  · exact Or.inr (Or.inl (own_i32 (h.trans (by decide))))
  · exact Or.inr (Or.inr (Or.inl (own_i32 (h.trans (by decide)))))
  · exact Or.inr (Or.inr (Or.inr (own_i32 (h.trans (by decide)))))
section FpLaw
open Jvm.FP.Core
theorem own_fp_shape {a : Int64} (h0 : 0 ≤ a.toInt) (h1 : a.toInt < 9007199254740992) : ∃ c q, val64 (l2d a) = .fin false c q ∧ c * 2 ^ q.toNat = a.toInt.natAbs * 2 ^ (-q).toNat := by
  obtain ⟨c, q, h⟩ := l2d_shape a
  have hs : decide (a.toInt < 0) = false := decide_eq_false (by omega)
  rw [hs] at h
  refine ⟨c, q, h, ?_⟩
  have hw : Whole a.toInt (val64 (l2d a)) := l2d_whole ⟨by omega, h1⟩
  rw [h] at hw
  have hw2 : ((c * 2 ^ q.toNat : Nat) : Int) = a.toInt * ((2 ^ (-q).toNat : Nat) : Int) := hw
  have hn : a.toInt = (a.toInt.natAbs : Int) := by omega
  rw [hn, ← Int.natCast_mul] at hw2
  exact Int.ofNat.inj hw2
theorem own_fp_div {a t : Int64} (h0 : 0 ≤ a.toInt) (h1 : a.toInt < 9007199254740992) (t0 : 0 < t.toInt) (t1 : t.toInt < 9007199254740992) :
    val64 (ddiv (l2d a) (l2d t)) = roundRatio b64 false a.toInt.natAbs t.toInt.natAbs 0 := by
  obtain ⟨c, q, hc, ec⟩ := own_fp_shape h0 h1
  obtain ⟨d, r, hd, ed⟩ := own_fp_shape (Int.le_of_lt t0) t1
  have tn : 0 < t.toInt.natAbs := by omega
  have dn : 0 < d := by
    rcases Nat.eq_zero_or_pos d with h | h
    · subst h
      rw [Nat.zero_mul] at ed
      have := Nat.mul_pos tn (Nat.two_pow_pos (-r).toNat)
      omega
    · exact h
  rw [val64_ddiv, hc, hd]
  show (if d = 0 then _ else roundRatio b64 (false != false) c d (q - r)) = _
  rw [if_neg (by omega)]
  show roundRatio b64 false c d (q - r) = _
  refine roundRatio_congr dn tn ?_
  generalize a.toInt.natAbs = A at *
  generalize t.toInt.natAbs = B at *
  have hp : 0 < 2 ^ q.toNat * 2 ^ (-r).toNat := Nat.mul_pos (Nat.two_pow_pos _) (Nat.two_pow_pos _)
  refine Nat.eq_of_mul_eq_mul_right hp ?_
  calc c * B * 2 ^ (q - r - 0).toNat * (2 ^ q.toNat * 2 ^ (-r).toNat) = (c * 2 ^ q.toNat) * (B * 2 ^ (-r).toNat) * 2 ^ (q - r - 0).toNat := by ac_rfl
    _ = (A * 2 ^ (-q).toNat) * (d * 2 ^ r.toNat) * 2 ^ (q - r - 0).toNat := by rw [ec, ed]
    _ = A * d * (2 ^ (-q).toNat * 2 ^ r.toNat * 2 ^ (q - r - 0).toNat) := by ac_rfl
    _ = A * d * (2 ^ (0 - (q - r)).toNat * 2 ^ q.toNat * 2 ^ (-r).toNat) := by
      rw [← Nat.pow_add, ← Nat.pow_add, ← Nat.pow_add, ← Nat.pow_add]
      congr 2
      omega
    _ = A * d * 2 ^ (0 - (q - r)).toNat * (2 ^ q.toNat * 2 ^ (-r).toNat) := by ac_rfl
theorem own_fp_exact {a t n : Int64} (h0 : 0 ≤ a.toInt) (h1 : a.toInt < 9007199254740992) (t0 : 0 < t.toInt) (t1 : t.toInt < 9007199254740992) (n0 : 0 ≤ n.toInt) (e : a.toInt = n.toInt * t.toInt) :
    ddiv (l2d a) (l2d t) = l2d n := by
  refine val64_inj ?_ ?_
  · rw [own_fp_div h0 h1 t0 t1]; exact roundRatio_ne_nan _ _ _ _ _
  · rw [own_fp_div h0 h1 t0 t1]
    have hn : val64 (l2d n) = roundRatio b64 (decide (n.toInt < 0)) n.toInt.natAbs 1 0 := val64_l2d n
    rw [hn, decide_eq_false (show ¬ n.toInt < 0 by omega)]
    refine roundRatio_congr (by omega) (by decide) ?_
    rw [e, Int.natAbs_mul]
    simp
theorem own_fp_zval {x : UInt64} {A B : Nat} {e : Int} (h : val64 x = roundRatio b64 false A B e) : zval b64 (val64 x) = (zmag b64 (roundRatio b64 false A B e) : Int) := by
  rw [h]
  unfold zval
  rw [sgn_roundRatio]
  rfl
theorem own_fp_pow : (2 : Nat) ^ 1074 = 1099511627776 * 2 ^ 1034 := by rw [show (1099511627776 : Nat) = 2 ^ 40 by decide, ← Nat.pow_add]
theorem own_fp_one : one64 = 1099511627776 * 2 ^ 1034 := own_fp_pow
theorem own_fp_mid (c : Nat) (hc : c < 9007199254740992) : ∃ V : Jvm.FP.Core.Datum, Jvm.FP.Core.fits b64 V ∧ V ≠ .nan ∧ zmag b64 V = c * 2 ^ 1034 := by
  obtain ⟨c', q', h, hu⟩ := round_exact good_b64 false (c := c) (q := -40) (by exact hc) (by decide) (by decide)
  refine ⟨_, round_fits good_b64 (.fin false c (-40)), (fun z => Jvm.FP.Core.Datum.noConfusion (h.symm.trans z)), ?_⟩
  rw [h]
  show inUnits c' q' b64.qmin = _
  rw [hu]
  unfold inUnits
  rw [qmin_b64]
  rfl
theorem own_fp_lo {a t n : Int64} (h0 : 0 ≤ a.toInt) (h1 : a.toInt < 9007199254740992) (t0 : 0 < t.toInt) (t1 : t.toInt ≤ 1099511627776) (n0 : 0 ≤ n.toInt) (n1 : n.toInt ≤ 1000) (e : n.toInt * t.toInt + 1 ≤ a.toInt) :
    dcmp (l2d n) (ddiv (l2d a) (l2d t)) = some .lt := by
  have hd := own_fp_div h0 h1 t0 (by omega)
  obtain ⟨V, hV, hN, hz⟩ := own_fp_mid (n.toInt.natAbs * 1099511627776 + 1) (by omega)
  have hw : Whole n.toInt (val64 (l2d n)) := l2d_whole ⟨by omega, by omega⟩
  rw [dcmp_lt]
  refine ⟨DInt_ne_nan hw, by rw [hd]; exact roundRatio_ne_nan _ _ _ _ _, ?_⟩
  rw [DInt_zval hw, own_fp_zval hd]
  have hg := zmag_roundRatio_ge good_b64 (s := false) (A := a.toInt.natAbs) (B := t.toInt.natAbs) (e := 0) (e0 := b64.qmin) (V := V) (by omega) hV (Int.le_refl _) (by decide) (by
    rw [hz, Int.sub_self]
    unfold inUnits
    rw [show (0 - b64.qmin).toNat = 1074 by decide, own_fp_pow]
    show (n.toInt.natAbs * 1099511627776 + 1) * 2 ^ 1034 * 1 * t.toInt.natAbs ≤ _
    have k : (n.toInt.natAbs * 1099511627776 + 1) * t.toInt.natAbs ≤ a.toInt.natAbs * 1099511627776 := by
      have hn : (n.toInt.natAbs : Int) = n.toInt := by omega
      have ht : (t.toInt.natAbs : Int) = t.toInt := by omega
      have ha : (a.toInt.natAbs : Int) = a.toInt := by omega
      generalize n.toInt.natAbs = N at *
      generalize t.toInt.natAbs = T at *
      generalize a.toInt.natAbs = A at *
      rw [← hn, ← ht, ← ha] at e
      have e2 : N * T + 1 ≤ A := by exact_mod_cast e
      have t2 : T ≤ 1099511627776 := by omega
      rw [Nat.add_mul, Nat.one_mul, Nat.mul_assoc, Nat.mul_comm 1099511627776 T, ← Nat.mul_assoc]
      generalize N * T = M at *
      omega
    rw [Nat.mul_one, Nat.mul_right_comm, ← Nat.mul_assoc]
    exact Nat.mul_le_mul_right _ k)
  rw [hz] at hg
  rw [own_fp_one]
  have hn : (n.toInt.natAbs : Int) = n.toInt := by omega
  generalize n.toInt.natAbs = N at *
  rw [← hn]
  have hp : 0 < (2 : Nat) ^ 1034 := Nat.two_pow_pos _
  have k : N * (1099511627776 * 2 ^ 1034) < zmag b64 (roundRatio b64 false a.toInt.natAbs t.toInt.natAbs 0) := by
    refine Nat.lt_of_lt_of_le ?_ hg
    rw [← Nat.mul_assoc]
    exact Nat.mul_lt_mul_of_pos_right (by omega) hp
  exact_mod_cast k
theorem own_fp_hi {a t n : Int64} (h0 : 0 ≤ a.toInt) (h1 : a.toInt < 9007199254740992) (t0 : 0 < t.toInt) (t1 : t.toInt ≤ 1099511627776) (n0 : 1 ≤ n.toInt) (n1 : n.toInt ≤ 1000) (e : a.toInt + 1 ≤ n.toInt * t.toInt) :
    dcmp (ddiv (l2d a) (l2d t)) (l2d n) = some .lt := by
  have hd := own_fp_div h0 h1 t0 (by omega)
  obtain ⟨V, hV, hN, hz⟩ := own_fp_mid (n.toInt.natAbs * 1099511627776 - 1) (by omega)
  have hw : Whole n.toInt (val64 (l2d n)) := l2d_whole ⟨by omega, by omega⟩
  rw [dcmp_lt]
  refine ⟨by rw [hd]; exact roundRatio_ne_nan _ _ _ _ _, DInt_ne_nan hw, ?_⟩
  rw [DInt_zval hw, own_fp_zval hd]
  have hg := zmag_roundRatio_le good_b64 (s := false) (A := a.toInt.natAbs) (B := t.toInt.natAbs) (e := 0) (e0 := b64.qmin) (V := V) (by omega) hV hN (Int.le_refl _) (by decide) (by
    rw [hz, Int.sub_self]
    unfold inUnits
    rw [show (0 - b64.qmin).toNat = 1074 by decide, own_fp_pow]
    show _ ≤ (n.toInt.natAbs * 1099511627776 - 1) * 2 ^ 1034 * 1 * t.toInt.natAbs
    have k : a.toInt.natAbs * 1099511627776 ≤ (n.toInt.natAbs * 1099511627776 - 1) * t.toInt.natAbs := by
      have hn : (n.toInt.natAbs : Int) = n.toInt := by omega
      have ht : (t.toInt.natAbs : Int) = t.toInt := by omega
      have ha : (a.toInt.natAbs : Int) = a.toInt := by omega
      generalize n.toInt.natAbs = N at *
      generalize t.toInt.natAbs = T at *
      generalize a.toInt.natAbs = A at *
      rw [← hn, ← ht, ← ha] at e
      have e2 : A + 1 ≤ N * T := by exact_mod_cast e
      have t2 : T ≤ 1099511627776 := by omega
      rw [Nat.sub_mul, Nat.one_mul, Nat.mul_assoc, Nat.mul_comm 1099511627776 T, ← Nat.mul_assoc]
      generalize N * T = M at *
      omega
    rw [Nat.mul_one, Nat.mul_right_comm, ← Nat.mul_assoc]
    exact Nat.mul_le_mul_right _ k)
  rw [hz] at hg
  rw [own_fp_one]
  have hn : (n.toInt.natAbs : Int) = n.toInt := by omega
  have hn1 : 1 ≤ n.toInt.natAbs := by omega
  generalize n.toInt.natAbs = N at *
  rw [← hn]
  have hp : 0 < (2 : Nat) ^ 1034 := Nat.two_pow_pos _
  have k : zmag b64 (roundRatio b64 false a.toInt.natAbs t.toInt.natAbs 0) < N * (1099511627776 * 2 ^ 1034) := by
    refine Nat.lt_of_le_of_lt hg ?_
    rw [← Nat.mul_assoc]
    exact Nat.mul_lt_mul_of_pos_right (by omega) hp
  exact_mod_cast k
end FpLaw

open Jvm.FP.Core in
theorem own_retD {p : Program} {l : Launch} {e : Env} {R : Room} {s : State} {m : MethodId} {args : Array Value} {below : List Frame} {meth : Method} {c : Code} {T : State} {locs : List Loc} {cells slots : Nat} (X : Stand p l e R s m args below meth c T locs cells slots) (hx : p.tables.exec = Jvm.exec) (hlk : meth.locks = false) {pc : Nat} {Ls : Array Slot} {z : UInt64} {rest : List Value} (hret : meth.sig.returnType = some .double) (hd : decode c.code pc = .ok (.dreturn, 1))
    {Q : Option Value → Heap → List Loc → Prop} {kc ks : Nat} (hc : cells ≤ kc) (hs : slots ≤ ks) (q : Q (some (.double z)) T.heap locs) : own_G p.tables e below (own_E s Q kc ks) (T.setTop (mkF m pc Ls (.double z :: rest))) := by
  obtain ⟨fs, hr, hrun, hended, hW, hsame⟩ := X.leave (v := some (.double z)) (fun h => by rw [hret] at h; cases h)
  exact ⟨_, _, retOut X hx hret rfl (Or.inr (Or.inr (Or.inl ⟨rfl, rfl, z, rfl⟩))) hd hr, hrun, hended, _, _, rfl, q, ⟨_, rfl⟩, hW, hsame.mono hc hs⟩
theorem own_fp00 : cmpValue (FP.dcmp (0 : UInt64) (0 : UInt64)) .l = (0 : Int32) := by decide +kernel
theorem own_tne {t : Int64} (ht0 : 0 < t.toInt) : t ≠ 0 := fun h => by subst h; exact absurd ht0 (by decide)
theorem own_lc0 {x y : Int64} : XT.cmpL x y = (0 : Int32) ↔ x.toInt = y.toInt := by
  have hxy : x < y ↔ x.toInt < y.toInt := Int64.lt_iff_toInt_lt
  have hyx : y < x ↔ y.toInt < x.toInt := Int64.lt_iff_toInt_lt
  unfold XT.cmpL
  by_cases a : y < x
  · have := hyx.1 a
    rw [if_pos a]
    exact ⟨fun z => absurd z (by decide), fun z => by omega⟩
  · have a1 : ¬ y.toInt < x.toInt := fun z => a (hyx.2 z)
    rw [if_neg a]
    by_cases b : x = y
    · rw [if_pos b]
      exact ⟨fun _ => by rw [b], fun _ => rfl⟩
    · rw [if_neg b]
      exact ⟨fun z => absurd z (by decide), fun z => absurd (Int64.toInt_inj.1 z) b⟩
theorem own_tz {t : Int64} (ht0 : 0 < t.toInt) : ¬ (XT.cmpL t (0 : Int64) = (0 : Int32)) := fun h => by
  have := own_lc0.1 h
  have e : (0 : Int64).toInt = 0 := by decide
  omega
theorem own_100 {u : Int64} (hu0 : 0 ≤ u.toInt) (hu1 : u.toInt ≤ 1099511627776) : ((100 : Int64) * u).toInt = 100 * u.toInt := by
  have h := c_lmul (100 : Int64) u
  have e : (100 : Int64).toInt = 100 := by decide
  rw [e] at h
  have r := rng64 ((100 : Int64) * u)
  omega
theorem own_mul {t u : Int64} (ht0 : 0 < t.toInt) (ht1 : t.toInt ≤ 1099511627776) (hu0 : 0 ≤ u.toInt) (hu1 : u.toInt ≤ t.toInt) : FP.dmul (4636737291354636288 : UInt64) (FP.l2d u) = FP.l2d ((100 : Int64) * u) := by
  have e : (4636737291354636288 : UInt64) = FP.l2d (100 : Int64) := by decide +kernel
  have e1 : (100 : Int64).toInt = 100 := by decide
  have b1 : B53 (100 : Int64) := by unfold B53; omega
  have b2 : B53 u := by unfold B53; omega
  rw [e]
  by_cases hz : u = 0
  · rw [dmul_z b1 b2 (Or.inr hz)]
    subst hz
    decide +kernel
  · exact dmul_w b1 b2 (by decide) hz (by rw [e1]; omega) (by rw [e1]; omega)
theorem own_nn {t u : Int64} (ht0 : 0 < t.toInt) (ht1 : t.toInt ≤ 1099511627776) (hu0 : 0 ≤ u.toInt) (hu1 : u.toInt ≤ t.toInt) : Jvm.Free.Fl.NoNaN64 (FP.ddiv (FP.l2d ((100 : Int64) * u)) (FP.l2d t)) := by
  have h1 := own_100 hu0 (by omega)
  have h := own_fp_div (a := (100 : Int64) * u) (t := t) (by omega) (by omega) ht0 (by omega)
  have hn : Jvm.FP.Core.val64 (FP.ddiv (FP.l2d ((100 : Int64) * u)) (FP.l2d t)) ≠ .nan := by
    show Jvm.FP.Core.val64 (Jvm.FP.Core.ddiv _ _) ≠ _
    rw [h]
    exact Jvm.FP.Core.roundRatio_ne_nan _ _ _ _ _
  have hm := (Jvm.FP.Core.ne_nan _).1 hn
  unfold Jvm.Free.Fl.NoNaN64
  rw [UInt64.le_iff_toNat_le, Jvm.FP.Core.mask_toNat]
  exact hm
theorem own_quo {t u : Int64} (ht0 : 0 < t.toInt) (ht1 : t.toInt ≤ 1099511627776) (hu0 : 0 ≤ u.toInt) (hu1 : u.toInt ≤ t.toInt) : ∃ n r : Int, (((100 : Int64) * u) / t).toInt = n ∧ (((100 : Int64) * u) - (((100 : Int64) * u) / t) * t).toInt = r ∧ 100 * u.toInt = n * t.toInt + r ∧ 0 ≤ r ∧ r < t.toInt ∧ 0 ≤ n ∧ n ≤ 100 := by
  have h1 := own_100 hu0 (by omega)
  have m1 : t ≠ -1 := fun h => by subst h; exact absurd ht0 (by decide)
  have hd := (c_ldiv ((100 : Int64) * u) t t.toInt rfl m1).1 (by omega)
  have hr := (c_lrem ((100 : Int64) * u) t t.toInt rfl).1 (by omega)
  rw [h1] at hd hr
  refine ⟨_, _, hd, hr, ?_, Int.emod_nonneg _ (by omega), Int.emod_lt_of_pos _ ht0, Int.ediv_nonneg (by omega) (by omega), ?_⟩
  · have := Int.mul_ediv_add_emod (100 * u.toInt) t.toInt
    rw [Int.mul_comm t.toInt] at this
    exact this.symm
  · exact Int.ediv_le_of_le_mul ht0 (by omega)
theorem own_f1 {t u : Int64} (ht0 : 0 < t.toInt) (ht1 : t.toInt ≤ 1099511627776) (hu0 : 0 ≤ u.toInt) (hu1 : u.toInt ≤ t.toInt) (h : XT.cmpL (((100 : Int64) * u) - (((100 : Int64) * u) / t) * t) (0 : Int64) = (0 : Int32)) : cmpValue (FP.dcmp (FP.ddiv (FP.l2d ((100 : Int64) * u)) (FP.l2d t)) (FP.l2d (((100 : Int64) * u) / t))) .l = (0 : Int32) := by
  obtain ⟨n, r, hn, hr, he, r0, r1, n0, n1⟩ := own_quo ht0 ht1 hu0 hu1
  have h1 := own_100 hu0 (by omega)
  have hz : r = 0 := by
    have := own_lc0.1 h
    rw [hr] at this
    exact this.trans (by decide)
  subst hz
  have e : FP.ddiv (FP.l2d ((100 : Int64) * u)) (FP.l2d t) = FP.l2d (((100 : Int64) * u) / t) := own_fp_exact (by omega) (by omega) ht0 (by omega) (by omega) (by rw [h1, hn, he, Int.add_zero])
  rw [e]
  exact dcmpV_self (nn_w rfl) .l
theorem own_f2 {t u : Int64} (ht0 : 0 < t.toInt) (ht1 : t.toInt ≤ 1099511627776) (hu0 : 0 ≤ u.toInt) (hu1 : u.toInt ≤ t.toInt) (h : ¬ (XT.cmpL (((100 : Int64) * u) - (((100 : Int64) * u) / t) * t) (0 : Int64) = (0 : Int32))) : cmpValue (FP.dcmp (FP.l2d (((100 : Int64) * u) / t)) (FP.ddiv (FP.l2d ((100 : Int64) * u)) (FP.l2d t))) .g < (0 : Int32) := by
  obtain ⟨n, r, hn, hr, he, r0, r1, n0, n1⟩ := own_quo ht0 ht1 hu0 hu1
  have h1 := own_100 hu0 (by omega)
  have hz : r ≠ 0 := fun z => h (own_lc0.2 (by rw [hr, z]; decide))
  have e : FP.dcmp (FP.l2d (((100 : Int64) * u) / t)) (FP.ddiv (FP.l2d ((100 : Int64) * u)) (FP.l2d t)) = some .lt := own_fp_lo (by omega) (by omega) ht0 ht1 (by omega) (by omega) (by rw [h1, hn, he]; omega)
  rw [e]
  decide
theorem own_f3 {t u : Int64} (ht0 : 0 < t.toInt) (ht1 : t.toInt ≤ 1099511627776) (hu0 : 0 ≤ u.toInt) (hu1 : u.toInt ≤ t.toInt) (h : ¬ (XT.cmpL (((100 : Int64) * u) - (((100 : Int64) * u) / t) * t) (0 : Int64) = (0 : Int32))) : cmpValue (FP.dcmp (FP.ddiv (FP.l2d ((100 : Int64) * u)) (FP.l2d t)) (FP.l2d ((((100 : Int64) * u) / t) + (1 : Int64)))) .g < (0 : Int32) := by
  obtain ⟨n, r, hn, hr, he, r0, r1, n0, n1⟩ := own_quo ht0 ht1 hu0 hu1
  have h1 := own_100 hu0 (by omega)
  have hp : ((((100 : Int64) * u) / t) + (1 : Int64)).toInt = n + 1 := by
    have a := c_ladd (((100 : Int64) * u) / t) (1 : Int64)
    have e1 : (1 : Int64).toInt = 1 := by decide
    have b := rng64 ((((100 : Int64) * u) / t) + (1 : Int64))
    rw [e1, hn] at a
    omega
  have e : FP.dcmp (FP.ddiv (FP.l2d ((100 : Int64) * u)) (FP.l2d t)) (FP.l2d ((((100 : Int64) * u) / t) + (1 : Int64))) = some .lt := own_fp_hi (by omega) (by omega) ht0 ht1 (by omega) (by omega) (by rw [h1, hp, he, Int.add_mul]; omega)
  rw [e]
  decide
theorem own_t1 (q1 : Int64) : 0 < (((q1 &&& (1099511627775 : Int64)) + (1 : Int64))).toInt ∧ (((q1 &&& (1099511627775 : Int64)) + (1 : Int64))).toInt ≤ 1099511627776 := by
  have m := c_maskL q1 1099511627775 40 (by decide) (by decide)
  have a := c_ladd (q1 &&& (1099511627775 : Int64)) (1 : Int64)
  have e1 : (1 : Int64).toInt = 1 := by decide
  have b := rng64 ((q1 &&& (1099511627775 : Int64)) + (1 : Int64))
  have m2 : (q1 &&& (1099511627775 : Int64)).toInt = q1.toInt % 1099511627776 := m
  rw [e1] at a
  omega
theorem own_t2 (q1 : Int64) : 0 < (((q1 &&& (255 : Int64)) + (1 : Int64))).toInt ∧ (((q1 &&& (255 : Int64)) + (1 : Int64))).toInt ≤ 1099511627776 := by
  have m := c_maskL q1 255 8 (by decide) (by decide)
  have a := c_ladd (q1 &&& (255 : Int64)) (1 : Int64)
  have e1 : (1 : Int64).toInt = 1 := by decide
  have b := rng64 ((q1 &&& (255 : Int64)) + (1 : Int64))
  have m2 : (q1 &&& (255 : Int64)).toInt = q1.toInt % 256 := m
  rw [e1] at a
  omega
theorem own_t3 (q1 : Int64) : 0 < (((100 : Int64) * ((q1 &&& (8589934591 : Int64)) + (1 : Int64)))).toInt ∧ (((100 : Int64) * ((q1 &&& (8589934591 : Int64)) + (1 : Int64)))).toInt ≤ 1099511627776 := by
  have m := c_maskL q1 8589934591 33 (by decide) (by decide)
  have a := c_ladd (q1 &&& (8589934591 : Int64)) (1 : Int64)
  have e1 : (1 : Int64).toInt = 1 := by decide
  have b := rng64 ((q1 &&& (8589934591 : Int64)) + (1 : Int64))
  have m2 : (q1 &&& (8589934591 : Int64)).toInt = q1.toInt % 8589934592 := m
  rw [e1] at a
  have h : ((q1 &&& (8589934591 : Int64)) + (1 : Int64)).toInt = (q1 &&& (8589934591 : Int64)).toInt + 1 := by omega
  have g := own_100 (u := (q1 &&& (8589934591 : Int64)) + (1 : Int64)) (by omega) (by omega)
  rw [g, h]
  omega
theorem own_rem {t x : Int64} (ht0 : 0 < t.toInt) (ht1 : t.toInt ≤ 1099511627776) (hx : 0 ≤ x.toInt) : 0 ≤ (x - (x / (t + (1 : Int64))) * (t + (1 : Int64))).toInt ∧ (x - (x / (t + (1 : Int64))) * (t + (1 : Int64))).toInt ≤ t.toInt := by
  have a := c_ladd t (1 : Int64)
  have e1 : (1 : Int64).toInt = 1 := by decide
  have b := rng64 (t + (1 : Int64))
  rw [e1] at a
  have h := (c_lrem x (t + (1 : Int64)) (t.toInt + 1) (by omega)).1 hx
  rw [h]
  have := Int.emod_lt_of_pos x.toInt (show 0 < t.toInt + 1 by omega)
  have := Int.emod_nonneg x.toInt (show t.toInt + 1 ≠ 0 by omega)
  omega
theorem own_x0 (q2 : Int64) : 0 ≤ (q2 &&& (9223372036854775807 : Int64)).toInt := by
  have m := c_maskL q2 9223372036854775807 63 (by decide) (by decide)
  have m2 : (q2 &&& (9223372036854775807 : Int64)).toInt = q2.toInt % 9223372036854775808 := m
  omega
theorem own_u1 (q1 q2 : Int64) : 0 ≤ (((q2 &&& (9223372036854775807 : Int64)) - ((q2 &&& (9223372036854775807 : Int64)) / (((q1 &&& (1099511627775 : Int64)) + (1 : Int64)) + (1 : Int64))) * (((q1 &&& (1099511627775 : Int64)) + (1 : Int64)) + (1 : Int64)))).toInt ∧ (((q2 &&& (9223372036854775807 : Int64)) - ((q2 &&& (9223372036854775807 : Int64)) / (((q1 &&& (1099511627775 : Int64)) + (1 : Int64)) + (1 : Int64))) * (((q1 &&& (1099511627775 : Int64)) + (1 : Int64)) + (1 : Int64)))).toInt ≤ (((q1 &&& (1099511627775 : Int64)) + (1 : Int64))).toInt := own_rem (own_t1 q1).1 (own_t1 q1).2 (own_x0 q2)
theorem own_n1 (q1 : Int64) : (((q1 &&& (1099511627775 : Int64)) + (1 : Int64)) + (1 : Int64)) ≠ 0 := own_tne (by
  have a := c_ladd ((q1 &&& (1099511627775 : Int64)) + (1 : Int64)) (1 : Int64)
  have e1 : (1 : Int64).toInt = 1 := by decide
  have b := rng64 (((q1 &&& (1099511627775 : Int64)) + (1 : Int64)) + (1 : Int64))
  have h := own_t1 q1
  rw [e1] at a
  omega)
theorem own_u2 (q1 q2 : Int64) : 0 ≤ (((q2 &&& (9223372036854775807 : Int64)) - ((q2 &&& (9223372036854775807 : Int64)) / (((q1 &&& (255 : Int64)) + (1 : Int64)) + (1 : Int64))) * (((q1 &&& (255 : Int64)) + (1 : Int64)) + (1 : Int64)))).toInt ∧ (((q2 &&& (9223372036854775807 : Int64)) - ((q2 &&& (9223372036854775807 : Int64)) / (((q1 &&& (255 : Int64)) + (1 : Int64)) + (1 : Int64))) * (((q1 &&& (255 : Int64)) + (1 : Int64)) + (1 : Int64)))).toInt ≤ (((q1 &&& (255 : Int64)) + (1 : Int64))).toInt := own_rem (own_t2 q1).1 (own_t2 q1).2 (own_x0 q2)
theorem own_n2 (q1 : Int64) : (((q1 &&& (255 : Int64)) + (1 : Int64)) + (1 : Int64)) ≠ 0 := own_tne (by
  have a := c_ladd ((q1 &&& (255 : Int64)) + (1 : Int64)) (1 : Int64)
  have e1 : (1 : Int64).toInt = 1 := by decide
  have b := rng64 (((q1 &&& (255 : Int64)) + (1 : Int64)) + (1 : Int64))
  have h := own_t2 q1
  rw [e1] at a
  omega)
theorem own_u3 (q1 q2 : Int64) : 0 ≤ (((((100 : Int64) * ((q1 &&& (8589934591 : Int64)) + (1 : Int64))) / (100 : Int64)) * ((q2 &&& (2147483647 : Int64)) - ((q2 &&& (2147483647 : Int64)) / (101 : Int64)) * (101 : Int64)))).toInt ∧ (((((100 : Int64) * ((q1 &&& (8589934591 : Int64)) + (1 : Int64))) / (100 : Int64)) * ((q2 &&& (2147483647 : Int64)) - ((q2 &&& (2147483647 : Int64)) / (101 : Int64)) * (101 : Int64)))).toInt ≤ (((100 : Int64) * ((q1 &&& (8589934591 : Int64)) + (1 : Int64)))).toInt := by
  have m := c_maskL q1 8589934591 33 (by decide) (by decide)
  have a := c_ladd (q1 &&& (8589934591 : Int64)) (1 : Int64)
  have e1 : (1 : Int64).toInt = 1 := by decide
  have b := rng64 ((q1 &&& (8589934591 : Int64)) + (1 : Int64))
  have m2 : (q1 &&& (8589934591 : Int64)).toInt = q1.toInt % 8589934592 := m
  rw [e1] at a
  have h : ((q1 &&& (8589934591 : Int64)) + (1 : Int64)).toInt = (q1 &&& (8589934591 : Int64)).toInt + 1 := by omega
  have hl : 1 ≤ ((q1 &&& (8589934591 : Int64)) + (1 : Int64)).toInt := by omega
  have hh : ((q1 &&& (8589934591 : Int64)) + (1 : Int64)).toInt ≤ 8589934592 := by omega
  have g := own_100 (u := (q1 &&& (8589934591 : Int64)) + (1 : Int64)) (by omega) (by omega)
  have my := c_maskL q2 2147483647 31 (by decide) (by decide)
  have my2 : (q2 &&& (2147483647 : Int64)).toInt = q2.toInt % 2147483648 := my
  have hr := (c_lrem (q2 &&& (2147483647 : Int64)) 101 101 (by decide)).1 (by omega)
  have hd := (c_ldiv ((100 : Int64) * ((q1 &&& (8589934591 : Int64)) + (1 : Int64))) 100 100 (by decide) (by decide)).1 (by omega)
  rw [g] at hd
  generalize ((q1 &&& (8589934591 : Int64)) + (1 : Int64)) = w at *
  generalize (q2 &&& (2147483647 : Int64)) = y at *
  generalize y - y / (101 : Int64) * (101 : Int64) = r at *
  generalize ((100 : Int64) * w) / (100 : Int64) = v at *
  have hv : v.toInt = w.toInt := by omega
  have r0 : 0 ≤ r.toInt := by omega
  have r1 : r.toInt ≤ 100 := by omega
  have p0 : 0 ≤ v.toInt * r.toInt := Int.mul_nonneg (by omega) r0
  have p1 : v.toInt * r.toInt ≤ v.toInt * 100 := Int.mul_le_mul_of_nonneg_left r1 (by omega)
  have c := c_lmul v r
  have rc := rng64 (v * r)
  generalize v.toInt * r.toInt = z at *
  omega
theorem d2_0 : decode jdk_30_method_1_code 0 = .ok (.aload_n 0, 1) := by decide +kernel
theorem d2_1 : decode jdk_30_method_1_code 1 = .ok (.invokespecial 1, 3) := by decide +kernel
theorem d2_4 : decode jdk_30_method_1_code 4 = .ok (.return_, 1) := by decide +kernel
theorem pn_2 : plainName "java/lang/Record" = true := by first | (simp [plainName, overriddenIn]; done) | decide +kernel
theorem ef_recInit (m : MethodId) (x0 : Addr) : entryFrame m #[(.ref x0)] 1 = mkF m 0 #[.val (.ref x0)] [] := by first | (simp [entryFrame, mkF, argsToLocals, Value.category]; done) | rfl
def Q_recInit (Z : State) (a1 : Addr) (h0 : Heap) (n0 : Nat) (v : Option Value) (h : Heap) (L : List Loc) : Prop := v = none ∧ Fr n0 L ∧ h = h0
set_option maxRecDepth 65536 in
set_option maxHeartbeats 40000000 in
theorem rm_recInit (l : Launch) (Z : State) (a0 : Array Value) (hw : ∀ d ∈ tables_1, d.before a0 Z = true) (ws : List Jvm.Cond) (a1 : Addr) (h0 : Heap) (n0 : Nat) (Z0 : n0 ≤ h0.size)  :
    MetFree l (⟨"java/lang/Record", "<init>", "()V"⟩ : MethodName) (head1 (Jvm.Cond.code (⟨"java/lang/Record", "<init>", "()V"⟩ : MethodName) jdk_30_method_1_code 1 none :: ws) ({ frames := 1, cells := 0, slots := 0, locals := 12 } : Room)) (fun a U => a = #[(.ref a1)] ∧ Z.Warmed39 U.vm ∧ U.heap = h0) (fun _ _ _ _ _ => True) (fun _ U o U' => ∃ v L, o = .returned v ∧ Q_recInit Z a1 h0 n0 v U'.heap L ∧ FrameEnd U o U' L ({ frames := 1, cells := 0, slots := 0, locals := 12 } : Room).cells ({ frames := 1, cells := 0, slots := 0, locals := 12 } : Room).slots) := by
  refine MetFree.of_bodySF (plainFor_of_name pn_2) hisR ?_
  intro p e s m args below meth c s₁ Bd hml0 hP hK
  obtain ⟨rfl, hZ, hh⟩ := hP
  have hx := Bd.exec
  have hby := Bd.bytes
  have hml : c.maxLocals = 1 := hml0
  have hown : s.vm.findClass "java/lang/Record" = some m.cls := findClass_of_methodNamed Bd.named
  have hnm := (name_of_methodNamed Bd.named Bd.method).1
  have hlk := Bd.notSynchronized
  have hret := Bd.returns
  have X0 : Stand p l e ({ frames := 1, cells := 0, slots := 0, locals := 12 } : Room) s m #[(.ref a1)] below meth c s₁ [] 0 0 := Stand.of_body Bd
  have e0 : s₁.heap = h0 := by rw [← hh, Bd.state]; rfl
  have N0 := Fr.nil n0
  refine own_in ({ frames := 1, cells := 0, slots := 0, locals := 12 } : Room).cells ({ frames := 1, cells := 0, slots := 0, locals := 12 } : Room).slots (Q_recInit Z a1 h0 n0) (ef_recInit m a1) ?_
  show own_G p.tables e below _ (s₁.setTop (mkF m 0 #[.val (.ref a1)] []))
  refine own_st (fun _ kS => XS.aloadN X0.here hx rfl (hb hby d2_0) rfl rfl kS) ?_
  show own_G p.tables e below _ (s₁.setTop (mkF m 1 #[.val (.ref a1)] [(.ref a1)]))
  obtain ⟨T1, X1, e1, st1⟩ := initO X0 hx hZ hown (hw _ (List.mem_of_getElem? (i := 11) rfl)) (hw _ (List.mem_of_getElem? (i := 12) rfl)) (hw _ (List.mem_of_getElem? (i := 13) rfl)) e0 (g := (mkF m 1 #[.val (.ref a1)] [(.ref a1)])) rfl (by rw [hml]; rfl) rfl (hb hby d2_1) (by decide) (W := 0) (by show 2 * 0 + _ ≤ _; exact Nat.le_of_eq rfl) (by decide)
  refine own_st st1 ?_
  show own_G p.tables e below _ (T1.setTop (mkF m 4 #[.val (.ref a1)] []))
  exact own_retV X1 hx hlk hret (hb hby d2_4) (by decide) (by decide) (by rw [e1]; exact ⟨rfl, N0, rfl⟩)
theorem d1_0 : decode prog_41_method_1_code 0 = .ok (.aload_n 0, 1) := by decide +kernel
theorem d1_1 : decode prog_41_method_1_code 1 = .ok (.invokespecial 1, 3) := by decide +kernel
theorem d1_4 : decode prog_41_method_1_code 4 = .ok (.aload_n 0, 1) := by decide +kernel
theorem d1_5 : decode prog_41_method_1_code 5 = .ok (.lload_n 1, 1) := by decide +kernel
theorem d1_6 : decode prog_41_method_1_code 6 = .ok (.putfield 7, 3) := by decide +kernel
theorem d1_9 : decode prog_41_method_1_code 9 = .ok (.aload_n 0, 1) := by decide +kernel
theorem d1_10 : decode prog_41_method_1_code 10 = .ok (.lload_n 3, 1) := by decide +kernel
theorem d1_11 : decode prog_41_method_1_code 11 = .ok (.putfield 13, 3) := by decide +kernel
theorem d1_14 : decode prog_41_method_1_code 14 = .ok (.return_, 1) := by decide +kernel
theorem pn_1 : plainName "com/example/memo3/memo3/store/DiskSpace$Use" = true := by first | (simp [plainName, overriddenIn]; done) | decide +kernel
theorem own_pd0 : parseMethodDescriptor "()V" = some ⟨[], none⟩ := by decide +kernel
theorem ef_useInit (m : MethodId) (x0 : Addr) (x1 : Int64) (x2 : Int64) : entryFrame m #[(.ref x0), (.long x1), (.long x2)] 5 = mkF m 0 #[.val (.ref x0), .val (.long x1), .second, .val (.long x2), .second] [] := by first | (simp [entryFrame, mkF, argsToLocals, Value.category]; done) | rfl
def Q_useInit (Z : State) (a1 : Addr) (q1 : Int64) (q2 : Int64) (h0 : Heap) (n0 : Nat) (v : Option Value) (h : Heap) (L : List Loc) : Prop := v = none ∧ Fr n0 L ∧ Keep h0 h [a1] ∧ Exa Z h a1 "com/example/memo3/memo3/store/DiskSpace$Use" ∧ Fld Z h a1 "com/example/memo3/memo3/store/DiskSpace$Use" "total" "J" (.long q1) ∧ Fld Z h a1 "com/example/memo3/memo3/store/DiskSpace$Use" "used" "J" (.long q2)
set_option maxRecDepth 65536 in
set_option maxHeartbeats 40000000 in
theorem rm_useInit (l : Launch) (Z : State) (a0 : Array Value) (hw : ∀ d ∈ tables_1, d.before a0 Z = true) (ws : List Jvm.Cond) (a1 : Addr) (q1 : Int64) (q2 : Int64) (h0 : Heap) (n0 : Nat) (Z0 : n0 ≤ h0.size) (E_a1 : Exa Z h0 a1 "com/example/memo3/memo3/store/DiskSpace$Use") (g_a1 : n0 ≤ a1) (F_total : Fld Z h0 a1 "com/example/memo3/memo3/store/DiskSpace$Use" "total" "J" (.long (0 : Int64))) (F_used : Fld Z h0 a1 "com/example/memo3/memo3/store/DiskSpace$Use" "used" "J" (.long (0 : Int64))) :
    MetFree l (⟨"com/example/memo3/memo3/store/DiskSpace$Use", "<init>", "(JJ)V"⟩ : MethodName) (head1 (Jvm.Cond.code (⟨"com/example/memo3/memo3/store/DiskSpace$Use", "<init>", "(JJ)V"⟩ : MethodName) prog_41_method_1_code 5 none :: ws) ({ frames := 2, cells := 0, slots := 0, locals := 24 } : Room)) (fun a U => a = #[(.ref a1), (.long q1), (.long q2)] ∧ Z.Warmed39 U.vm ∧ U.heap = h0) (fun _ _ _ _ _ => True) (fun _ U o U' => ∃ v L, o = .returned v ∧ Q_useInit Z a1 q1 q2 h0 n0 v U'.heap L ∧ FrameEnd U o U' L ({ frames := 2, cells := 0, slots := 0, locals := 24 } : Room).cells ({ frames := 2, cells := 0, slots := 0, locals := 24 } : Room).slots) := by
  refine MetFree.of_bodySF (plainFor_of_name pn_1) hisR ?_
  intro p e s m args below meth c s₁ Bd hml0 hP hK
  obtain ⟨rfl, hZ, hh⟩ := hP
  have hx := Bd.exec
  have hby := Bd.bytes
  have hml : c.maxLocals = 5 := hml0
  have hown : s.vm.findClass "com/example/memo3/memo3/store/DiskSpace$Use" = some m.cls := findClass_of_methodNamed Bd.named
  have hnm := (name_of_methodNamed Bd.named Bd.method).1
  have hlk := Bd.notSynchronized
  have hret := Bd.returns
  have X0 : Stand p l e ({ frames := 2, cells := 0, slots := 0, locals := 24 } : Room) s m #[(.ref a1), (.long q1), (.long q2)] below meth c s₁ [] 0 0 := Stand.of_body Bd
  have e0 : s₁.heap = h0 := by rw [← hh, Bd.state]; rfl
  have N0 := Fr.nil n0
  have K0 := Keep.refl h0 [a1]
  refine own_in ({ frames := 2, cells := 0, slots := 0, locals := 24 } : Room).cells ({ frames := 2, cells := 0, slots := 0, locals := 24 } : Room).slots (Q_useInit Z a1 q1 q2 h0 n0) (ef_useInit m a1 q1 q2) ?_
  show own_G p.tables e below _ (s₁.setTop (mkF m 0 #[.val (.ref a1), .val (.long q1), .second, .val (.long q2), .second] []))
  refine own_st (fun _ kS => XS.aloadN X0.here hx rfl (hb hby d1_0) rfl rfl kS) ?_
  show own_G p.tables e below _ (s₁.setTop (mkF m 1 #[.val (.ref a1), .val (.long q1), .second, .val (.long q2), .second] [(.ref a1)]))
  obtain ⟨_, _, ⟨T1, L1, k1, n1⟩, -, X1, ⟨Lc1, hQ1, l1, y1, z1⟩, st1⟩ := X0.specialBack hx (y := (⟨"java/lang/Record", "<init>", "()V"⟩ : MethodName)) rfl hown (mvT hZ (hw _ (List.mem_of_getElem? (i := 6) rfl))) (mvT hZ (hw _ (List.mem_of_getElem? (i := 7) rfl))) (mvT hZ (hw _ (List.mem_of_getElem? (i := 10) rfl))) (by decide) (backOf (W := 0) (rm_recInit l Z a0 hw [] a1 h0 n0 Z0  ) hZ (hw _ (List.mem_of_getElem? (i := 10) rfl)) (hw _ (List.mem_of_getElem? (i := 9) rfl)) (by decide) (by decide)) (g := (mkF m 1 #[.val (.ref a1), .val (.long q1), .second, .val (.long q2), .second] [(.ref a1)])) rfl (by rw [hml]; rfl) (Steps.refl _) (a := a1) (argsL := []) (rest := []) (lenOf own_pd0 rfl) rfl (by show 2 * 0 + _ ≤ _; exact Nat.le_of_eq rfl) (hb hby d1_1) (fun _ _ => ⟨rfl, e0, (by decide : 0 + 0 ≤ _), (by decide : 0 + 0 ≤ _)⟩)
  dsimp only [Pt.U, Pt.locs, Pt.cells, Pt.slots] at X1 l1 y1 z1 st1 hQ1
  subst l1 y1 z1
  obtain ⟨rfl, Nq1, eq1⟩ := hQ1
  have N1 := Fr.app N0 Nq1
  refine own_tr st1 ?_
  show own_G p.tables e below _ (T1.setTop (mkF m 4 #[.val (.ref a1), .val (.long q1), .second, .val (.long q2), .second] []))
  refine own_st (fun _ kS => XS.aloadN X1.here hx rfl (hb hby d1_4) rfl rfl kS) ?_
  show own_G p.tables e below _ (T1.setTop (mkF m 5 #[.val (.ref a1), .val (.long q1), .second, .val (.long q2), .second] [(.ref a1)]))
  refine own_st (fun _ kS => XT.lloadN X1.here hx rfl (hb hby d1_5) rfl kS) ?_
  show own_G p.tables e below _ (T1.setTop (mkF m 6 #[.val (.ref a1), .val (.long q1), .second, .val (.long q2), .second] [(.long q1), (.ref a1)]))
  obtain ⟨T2, h2, X2, e2, W2, st2⟩ := putF X1 hx hZ hown (host := "") (Or.inl (hw _ (List.mem_of_getElem? (i := 14) rfl))) Via.refl eq1 F_total E_a1 (Or.inr ⟨(hw _ (List.mem_of_getElem? (i := 15) rfl)), rfl, hnm⟩) (hw _ (List.mem_of_getElem? (i := 1) rfl)) (ty := .long) (by decide) rfl rfl (g := (mkF m 6 #[.val (.ref a1), .val (.long q1), .second, .val (.long q2), .second] [(.long q1), (.ref a1)])) rfl rfl (hb hby d1_6)
  refine own_st st2 ?_
  have N2 := Fr.snoc X2 N1 g_a1
  have K2 := K0.wr W2 (Or.inl (List.mem_of_getElem? (i := 0) rfl))
  have Fw2 := Fld.same W2 F_total
  show own_G p.tables e below _ (T2.setTop (mkF m 9 #[.val (.ref a1), .val (.long q1), .second, .val (.long q2), .second] []))
  refine own_st (fun _ kS => XS.aloadN X2.here hx rfl (hb hby d1_9) rfl rfl kS) ?_
  show own_G p.tables e below _ (T2.setTop (mkF m 10 #[.val (.ref a1), .val (.long q1), .second, .val (.long q2), .second] [(.ref a1)]))
  refine own_st (fun _ kS => XT.lloadN X2.here hx rfl (hb hby d1_10) rfl kS) ?_
  show own_G p.tables e below _ (T2.setTop (mkF m 11 #[.val (.ref a1), .val (.long q1), .second, .val (.long q2), .second] [(.long q2), (.ref a1)]))
  obtain ⟨T3, h3, X3, e3, W3, st3⟩ := putF X2 hx hZ hown (host := "") (Or.inl (hw _ (List.mem_of_getElem? (i := 16) rfl))) Via.refl e2 (Fld.other W2 F_used (Or.inr (slot_ne (Or.inr (hw _ (List.mem_of_getElem? (i := 17) rfl))) (Or.inr (hw _ (List.mem_of_getElem? (i := 15) rfl))) (by decide) (t := .long) (t' := .long) (by decide) (by decide)))) (Exa.wr W2 E_a1) (Or.inr ⟨(hw _ (List.mem_of_getElem? (i := 17) rfl)), rfl, hnm⟩) (hw _ (List.mem_of_getElem? (i := 1) rfl)) (ty := .long) (by decide) rfl rfl (g := (mkF m 11 #[.val (.ref a1), .val (.long q1), .second, .val (.long q2), .second] [(.long q2), (.ref a1)])) rfl rfl (hb hby d1_11)
  refine own_st st3 ?_
  have N3 := Fr.snoc X3 N2 g_a1
  have K3 := K2.wr W3 (Or.inl (List.mem_of_getElem? (i := 0) rfl))
  have Fw3 := Fld.same W3 (Fld.other W2 F_used (Or.inr (slot_ne (Or.inr (hw _ (List.mem_of_getElem? (i := 17) rfl))) (Or.inr (hw _ (List.mem_of_getElem? (i := 15) rfl))) (by decide) (t := .long) (t' := .long) (by decide) (by decide))))
  show own_G p.tables e below _ (T3.setTop (mkF m 14 #[.val (.ref a1), .val (.long q1), .second, .val (.long q2), .second] []))
  exact own_retV X3 hx hlk hret (hb hby d1_14) (by decide) (by decide) (by rw [e3]; exact ⟨rfl, N3, K3, (Exa.wr W3 (Exa.wr W2 E_a1)), (Fld.other W3 Fw2 (Or.inr (slot_ne (Or.inr (hw _ (List.mem_of_getElem? (i := 15) rfl))) (Or.inr (hw _ (List.mem_of_getElem? (i := 17) rfl))) (by decide) (t := .long) (t' := .long) (by decide) (by decide)))), Fw3⟩)
theorem d4_0 : decode prog_41_method_2_code 0 = .ok (.aload_n 0, 1) := by decide +kernel
theorem d4_1 : decode prog_41_method_2_code 1 = .ok (.getfield 7, 3) := by decide +kernel
theorem d4_4 : decode prog_41_method_2_code 4 = .ok (.lconst 0, 1) := by decide +kernel
theorem d4_5 : decode prog_41_method_2_code 5 = .ok (.lcmp, 1) := by decide +kernel
theorem d4_6 : decode prog_41_method_2_code 6 = .ok (.ifCond .ne 7, 3) := by decide +kernel
theorem d4_9 : decode prog_41_method_2_code 9 = .ok (.dconst 0, 1) := by decide +kernel
theorem d4_10 : decode prog_41_method_2_code 10 = .ok (.goto 18, 3) := by decide +kernel
theorem d4_13 : decode prog_41_method_2_code 13 = .ok (.ldc2_w 16, 3) := by decide +kernel
theorem d4_16 : decode prog_41_method_2_code 16 = .ok (.aload_n 0, 1) := by decide +kernel
theorem d4_17 : decode prog_41_method_2_code 17 = .ok (.getfield 13, 3) := by decide +kernel
theorem d4_20 : decode prog_41_method_2_code 20 = .ok (.l2d, 1) := by decide +kernel
theorem d4_21 : decode prog_41_method_2_code 21 = .ok (.dmul, 1) := by decide +kernel
theorem d4_22 : decode prog_41_method_2_code 22 = .ok (.aload_n 0, 1) := by decide +kernel
theorem d4_23 : decode prog_41_method_2_code 23 = .ok (.getfield 7, 3) := by decide +kernel
theorem d4_26 : decode prog_41_method_2_code 26 = .ok (.l2d, 1) := by decide +kernel
theorem d4_27 : decode prog_41_method_2_code 27 = .ok (.ddiv, 1) := by decide +kernel
theorem d4_28 : decode prog_41_method_2_code 28 = .ok (.dreturn, 1) := by decide +kernel
theorem pn_4 : plainName "com/example/memo3/memo3/store/DiskSpace$Use" = true := by first | (simp [plainName, overriddenIn]; done) | decide +kernel
theorem ef_percent0 (m : MethodId) (x0 : Addr) : entryFrame m #[(.ref x0)] 1 = mkF m 0 #[.val (.ref x0)] [] := by first | (simp [entryFrame, mkF, argsToLocals, Value.category]; done) | rfl
def Q_percent0 (Z : State) (a1 : Addr) (h0 : Heap) (n0 : Nat) (v : Option Value) (h : Heap) (L : List Loc) : Prop := v = some (.double (0 : UInt64)) ∧ Fr n0 L ∧ h = h0
set_option maxRecDepth 65536 in
set_option maxHeartbeats 40000000 in
theorem rm_percent0 (l : Launch) (Z : State) (a0 : Array Value) (hw : ∀ d ∈ tables_1, d.before a0 Z = true) (ws : List Jvm.Cond) (a1 : Addr) (h0 : Heap) (n0 : Nat) (Z0 : n0 ≤ h0.size) (F_total : Fld Z h0 a1 "com/example/memo3/memo3/store/DiskSpace$Use" "total" "J" (.long (0 : Int64))) :
    MetFree l (⟨"com/example/memo3/memo3/store/DiskSpace$Use", "percent", "()D"⟩ : MethodName) (head1 (Jvm.Cond.code (⟨"com/example/memo3/memo3/store/DiskSpace$Use", "percent", "()D"⟩ : MethodName) prog_41_method_2_code 1 (some .double) :: ws) ({ frames := 0, cells := 0, slots := 0, locals := 0 } : Room)) (fun a U => a = #[(.ref a1)] ∧ Z.Warmed39 U.vm ∧ U.heap = h0) (fun _ _ _ _ _ => True) (fun _ U o U' => ∃ v L, o = .returned v ∧ Q_percent0 Z a1 h0 n0 v U'.heap L ∧ FrameEnd U o U' L ({ frames := 0, cells := 0, slots := 0, locals := 0 } : Room).cells ({ frames := 0, cells := 0, slots := 0, locals := 0 } : Room).slots) := by
  refine MetFree.of_bodySF (plainFor_of_name pn_4) hisR ?_
  intro p e s m args below meth c s₁ Bd hml0 hP hK
  obtain ⟨rfl, hZ, hh⟩ := hP
  have hx := Bd.exec
  have hby := Bd.bytes
  have hml : c.maxLocals = 1 := hml0
  have hown : s.vm.findClass "com/example/memo3/memo3/store/DiskSpace$Use" = some m.cls := findClass_of_methodNamed Bd.named
  have hnm := (name_of_methodNamed Bd.named Bd.method).1
  have hlk := Bd.notSynchronized
  have hret := Bd.returns
  have X0 : Stand p l e ({ frames := 0, cells := 0, slots := 0, locals := 0 } : Room) s m #[(.ref a1)] below meth c s₁ [] 0 0 := Stand.of_body Bd
  have e0 : s₁.heap = h0 := by rw [← hh, Bd.state]; rfl
  have N0 := Fr.nil n0
  refine own_in ({ frames := 0, cells := 0, slots := 0, locals := 0 } : Room).cells ({ frames := 0, cells := 0, slots := 0, locals := 0 } : Room).slots (Q_percent0 Z a1 h0 n0) (ef_percent0 m a1) ?_
  show own_G p.tables e below _ (s₁.setTop (mkF m 0 #[.val (.ref a1)] []))
  refine own_st (fun _ kS => XS.aloadN X0.here hx rfl (hb hby d4_0) rfl rfl kS) ?_
  show own_G p.tables e below _ (s₁.setTop (mkF m 1 #[.val (.ref a1)] [(.ref a1)]))
  obtain ⟨T1, X1, e1, st1⟩ := getF X0 hx hZ hown (host := "") (Or.inl (hw _ (List.mem_of_getElem? (i := 14) rfl))) Via.refl e0 F_total (g := (mkF m 1 #[.val (.ref a1)] [(.ref a1)])) rfl rfl (hb hby d4_1)
  refine own_st st1 ?_
  show own_G p.tables e below _ (T1.setTop (mkF m 4 #[.val (.ref a1)] [(.long (0 : Int64))]))
  refine own_st (fun _ kS => XT.lconst X1.here hx rfl (hb hby d4_4) kS) ?_
  show own_G p.tables e below _ (T1.setTop (mkF m 5 #[.val (.ref a1)] [(.long (0 : Int64)), (.long (0 : Int64))]))
  refine own_st (fun _ kS => XT.lcmp X1.here hx rfl (hb hby d4_5) rfl kS) ?_
  show own_G p.tables e below _ (T1.setTop (mkF m 6 #[.val (.ref a1)] [(.int (0 : Int32))]))
  refine own_st (fun _ kS => XS.ifNo X1.here hx rfl (hb hby d4_6) rfl ((if0 _ _).trans (teq (by decide : (0 : Int32) = (0 : Int32))).2) kS) ?_
  show own_G p.tables e below _ (T1.setTop (mkF m 9 #[.val (.ref a1)] []))
  refine own_st (fun _ kS => XS.dconst0 X1.here hx rfl (hb hby d4_9) rfl kS) ?_
  show own_G p.tables e below _ (T1.setTop (mkF m 10 #[.val (.ref a1)] [(.double (0 : UInt64))]))
  refine own_st (fun _ kS => XS.goto X1.here hx rfl (pc0 := 10) (pc' := 28) rfl (hb hby d4_10) (by decide) (by decide) kS) ?_
  show own_G p.tables e below _ (T1.setTop (mkF m 28 #[.val (.ref a1)] [(.double (0 : UInt64))]))
  exact own_retD X1 hx hlk hret (hb hby d4_28) (by decide) (by decide) (by rw [e1]; exact ⟨rfl, N0, rfl⟩)
theorem ef_percent1 (m : MethodId) (x0 : Addr) : entryFrame m #[(.ref x0)] 1 = mkF m 0 #[.val (.ref x0)] [] := by first | (simp [entryFrame, mkF, argsToLocals, Value.category]; done) | rfl
def Q_percent1 (Z : State) (a1 : Addr) (q1 : Int64) (q2 : Int64) (h0 : Heap) (n0 : Nat) (v : Option Value) (h : Heap) (L : List Loc) : Prop := v = some (.double (FP.ddiv (FP.l2d ((100 : Int64) * q2)) (FP.l2d q1))) ∧ Fr n0 L ∧ h = h0
set_option maxRecDepth 65536 in
set_option maxHeartbeats 40000000 in
theorem rm_percent1 (l : Launch) (Z : State) (a0 : Array Value) (hw : ∀ d ∈ tables_1, d.before a0 Z = true) (ws : List Jvm.Cond) (a1 : Addr) (q1 : Int64) (q2 : Int64) (h0 : Heap) (n0 : Nat) (Z0 : n0 ≤ h0.size) (F_total : Fld Z h0 a1 "com/example/memo3/memo3/store/DiskSpace$Use" "total" "J" (.long q1)) (F_used : Fld Z h0 a1 "com/example/memo3/memo3/store/DiskSpace$Use" "used" "J" (.long q2)) (hz : ¬ (XT.cmpL q1 (0 : Int64) = (0 : Int32))) (hmul : FP.dmul (4636737291354636288 : UInt64) (FP.l2d q2) = FP.l2d ((100 : Int64) * q2)) (hnn : Jvm.Free.Fl.NoNaN64 (FP.ddiv (FP.l2d ((100 : Int64) * q2)) (FP.l2d q1))) :
    MetFree l (⟨"com/example/memo3/memo3/store/DiskSpace$Use", "percent", "()D"⟩ : MethodName) (head1 (Jvm.Cond.code (⟨"com/example/memo3/memo3/store/DiskSpace$Use", "percent", "()D"⟩ : MethodName) prog_41_method_2_code 1 (some .double) :: ws) ({ frames := 0, cells := 0, slots := 0, locals := 0 } : Room)) (fun a U => a = #[(.ref a1)] ∧ Z.Warmed39 U.vm ∧ U.heap = h0) (fun _ _ _ _ _ => True) (fun _ U o U' => ∃ v L, o = .returned v ∧ Q_percent1 Z a1 q1 q2 h0 n0 v U'.heap L ∧ FrameEnd U o U' L ({ frames := 0, cells := 0, slots := 0, locals := 0 } : Room).cells ({ frames := 0, cells := 0, slots := 0, locals := 0 } : Room).slots) := by
  refine MetFree.of_bodySF (plainFor_of_name pn_4) hisR ?_
  intro p e s m args below meth c s₁ Bd hml0 hP hK
  obtain ⟨rfl, hZ, hh⟩ := hP
  have hx := Bd.exec
  have hby := Bd.bytes
  have hml : c.maxLocals = 1 := hml0
  have hown : s.vm.findClass "com/example/memo3/memo3/store/DiskSpace$Use" = some m.cls := findClass_of_methodNamed Bd.named
  have hnm := (name_of_methodNamed Bd.named Bd.method).1
  have hlk := Bd.notSynchronized
  have hret := Bd.returns
  have X0 : Stand p l e ({ frames := 0, cells := 0, slots := 0, locals := 0 } : Room) s m #[(.ref a1)] below meth c s₁ [] 0 0 := Stand.of_body Bd
  have e0 : s₁.heap = h0 := by rw [← hh, Bd.state]; rfl
  have N0 := Fr.nil n0
  refine own_in ({ frames := 0, cells := 0, slots := 0, locals := 0 } : Room).cells ({ frames := 0, cells := 0, slots := 0, locals := 0 } : Room).slots (Q_percent1 Z a1 q1 q2 h0 n0) (ef_percent1 m a1) ?_
  show own_G p.tables e below _ (s₁.setTop (mkF m 0 #[.val (.ref a1)] []))
  refine own_st (fun _ kS => XS.aloadN X0.here hx rfl (hb hby d4_0) rfl rfl kS) ?_
  show own_G p.tables e below _ (s₁.setTop (mkF m 1 #[.val (.ref a1)] [(.ref a1)]))
  obtain ⟨T1, X1, e1, st1⟩ := getF X0 hx hZ hown (host := "") (Or.inl (hw _ (List.mem_of_getElem? (i := 14) rfl))) Via.refl e0 F_total (g := (mkF m 1 #[.val (.ref a1)] [(.ref a1)])) rfl rfl (hb hby d4_1)
  refine own_st st1 ?_
  show own_G p.tables e below _ (T1.setTop (mkF m 4 #[.val (.ref a1)] [(.long q1)]))
  refine own_st (fun _ kS => XT.lconst X1.here hx rfl (hb hby d4_4) kS) ?_
  show own_G p.tables e below _ (T1.setTop (mkF m 5 #[.val (.ref a1)] [(.long (0 : Int64)), (.long q1)]))
  refine own_st (fun _ kS => XT.lcmp X1.here hx rfl (hb hby d4_5) rfl kS) ?_
  show own_G p.tables e below _ (T1.setTop (mkF m 6 #[.val (.ref a1)] [(.int (XT.cmpL q1 (0 : Int64)))]))
  refine own_st (fun _ kS => XS.ifYes X1.here hx rfl (pc0 := 6) (pc' := 13) rfl (hb hby d4_6) rfl ((if0 _ _).trans (feq (hz : ¬ ((XT.cmpL q1 (0 : Int64)) = (0 : Int32)))).2) (by decide) (by decide) kS) ?_
  show own_G p.tables e below _ (T1.setTop (mkF m 13 #[.val (.ref a1)] []))
  refine own_st (fun _ kS => X1.ldc2DoubleC hx hown (mvT hZ (hw _ (List.mem_of_getElem? (i := 27) rfl))) (g := (mkF m 13 #[.val (.ref a1)] [])) rfl (hb hby d4_13) _ kS) ?_
  show own_G p.tables e below _ (T1.setTop (mkF m 16 #[.val (.ref a1)] [(.double (4636737291354636288 : UInt64))]))
  refine own_st (fun _ kS => XS.aloadN X1.here hx rfl (hb hby d4_16) rfl rfl kS) ?_
  show own_G p.tables e below _ (T1.setTop (mkF m 17 #[.val (.ref a1)] [(.ref a1), (.double (4636737291354636288 : UInt64))]))
  obtain ⟨T2, X2, e2, st2⟩ := getF X1 hx hZ hown (host := "") (Or.inl (hw _ (List.mem_of_getElem? (i := 16) rfl))) Via.refl e1 F_used (g := (mkF m 17 #[.val (.ref a1)] [(.ref a1), (.double (4636737291354636288 : UInt64))])) rfl rfl (hb hby d4_17)
  refine own_st st2 ?_
  show own_G p.tables e below _ (T2.setTop (mkF m 20 #[.val (.ref a1)] [(.long q2), (.double (4636737291354636288 : UInt64))]))
  refine own_st (fun _ kS => XS.l2dS X2.here hx rfl (hb hby d4_20) rfl rfl kS) ?_
  show own_G p.tables e below _ (T2.setTop (mkF m 21 #[.val (.ref a1)] [(.double (FP.l2d q2)), (.double (4636737291354636288 : UInt64))]))
  refine own_st (fun _ kS => XS.dmulS X2.here hx rfl (hb hby d4_21) rfl (nn_w hmul) hmul kS) ?_
  show own_G p.tables e below _ (T2.setTop (mkF m 22 #[.val (.ref a1)] [(.double (FP.l2d ((100 : Int64) * q2)))]))
  refine own_st (fun _ kS => XS.aloadN X2.here hx rfl (hb hby d4_22) rfl rfl kS) ?_
  show own_G p.tables e below _ (T2.setTop (mkF m 23 #[.val (.ref a1)] [(.ref a1), (.double (FP.l2d ((100 : Int64) * q2)))]))
  obtain ⟨T3, X3, e3, st3⟩ := getF X2 hx hZ hown (host := "") (Or.inl (hw _ (List.mem_of_getElem? (i := 14) rfl))) Via.refl e2 F_total (g := (mkF m 23 #[.val (.ref a1)] [(.ref a1), (.double (FP.l2d ((100 : Int64) * q2)))])) rfl rfl (hb hby d4_23)
  refine own_st st3 ?_
  show own_G p.tables e below _ (T3.setTop (mkF m 26 #[.val (.ref a1)] [(.long q1), (.double (FP.l2d ((100 : Int64) * q2)))]))
  refine own_st (fun _ kS => XS.l2dS X3.here hx rfl (hb hby d4_26) rfl rfl kS) ?_
  show own_G p.tables e below _ (T3.setTop (mkF m 27 #[.val (.ref a1)] [(.double (FP.l2d q1)), (.double (FP.l2d ((100 : Int64) * q2)))]))
  refine own_st (fun _ kS => XS.ddivS X3.here hx rfl (hb hby d4_27) rfl hnn rfl kS) ?_
  show own_G p.tables e below _ (T3.setTop (mkF m 28 #[.val (.ref a1)] [(.double (FP.ddiv (FP.l2d ((100 : Int64) * q2)) (FP.l2d q1)))]))
  exact own_retD X3 hx hlk hret (hb hby d4_28) (by decide) (by decide) (by rw [e3]; exact ⟨rfl, N0, rfl⟩)
theorem pn_0 : plainName "com/example/memo3/memo3/store/UsePercentPinLaw" = true := by first | (simp [plainName, overriddenIn]; done) | decide +kernel
def Q_law (n0 : Nat) (v : Option Value) (h : Heap) (L : List Loc) : Prop := v = some (.int (1 : Int32)) ∧ Fr n0 L
theorem own_pd1 : parseMethodDescriptor "(JJ)V" = some ⟨[.long, .long], none⟩ := by decide +kernel
theorem own_pd2 : parseMethodDescriptor "()D" = some ⟨[], some .double⟩ := by decide +kernel
set_option maxRecDepth 65536 in
set_option maxHeartbeats 40000000 in
theorem sg_F {p : Program} {l : Launch} {e : Env} {s : State} {m : MethodId} {args : Array Value} {below : List Frame} {meth : Method} {c : Code} {T0 : State} {locs : List Loc} {Z : State} {a0 : Array Value} {h0 : Heap} {n0 : Nat} (hx : p.tables.exec = Jvm.exec) (hby : c.code = code) (hml : c.maxLocals = 16) (hown : s.vm.findClass "com/example/memo3/memo3/store/UsePercentPinLaw" = some m.cls) (hlk : meth.locks = false) (hret : meth.sig.returnType = some .boolean) (hZ : Z.Warmed39 s.vm) (hw : ∀ d ∈ tables_1, d.before a0 Z = true) (Z0 : n0 ≤ h0.size)
    (X0 : Stand p l e room_1 s m args below meth c T0 locs 0 0) (e0 : T0.heap = h0) (N0 : Fr n0 locs) (O0 : Old Z n0 h0) (q1 : Int64) (q2 : Int64) (p3 : Int32) (sel : Int32) (t : Int64) (u : Int64) (ht0 : 0 < t.toInt) (ht1 : t.toInt ≤ 1099511627776) (hu0 : 0 ≤ u.toInt) (hu1 : u.toInt ≤ t.toInt) :
    own_G p.tables e below (own_E s (Q_law n0) room_1.cells room_1.slots) (T0.setTop (mkF m 126 #[.val (.long q1), .second, .val (.long q2), .second, .val (.int p3), .val (.int sel), .val (.long t), .second, .val (.long u), .second, .unset, .unset, .unset, .unset, .unset, .unset] [])) := by
  show own_G p.tables e below _ (T0.setTop (mkF m 126 #[.val (.long q1), .second, .val (.long q2), .second, .val (.int p3), .val (.int sel), .val (.long t), .second, .val (.long u), .second, .unset, .unset, .unset, .unset, .unset, .unset] []))
  obtain ⟨T1, h1, X1, e1, E1, A1, D1, -, st1⟩ := newO X0 hx hZ hown (hw _ (List.mem_of_getElem? (i := 0) rfl)) (hw _ (List.mem_of_getElem? (i := 1) rfl)) (hw _ (List.mem_of_getElem? (i := 2) rfl)) e0 (g := (mkF m 126 #[.val (.long q1), .second, .val (.long q2), .second, .val (.int p3), .val (.int sel), .val (.long t), .second, .val (.long u), .second, .unset, .unset, .unset, .unset, .unset, .unset] [])) rfl (hb hby at_126) (by decide) (by decide)
  obtain ⟨b1, g1⟩ : ∃ z, z = h0.size := ⟨_, rfl⟩
  have ge_b1 : n0 ≤ b1 := Nat.le_trans Z0 (Nat.le_of_eq g1.symm)
  rw [← g1] at A1 D1 st1
  have O1 := O0.ext E1
  have F1_total : Fld Z h1 b1 "com/example/memo3/memo3/store/DiskSpace$Use" "total" "J" (.long (0 : Int64)) := D1 (Or.inr (hw _ (List.mem_of_getElem? (i := 15) rfl))) (ty := .long) (by decide)
  have F1_used : Fld Z h1 b1 "com/example/memo3/memo3/store/DiskSpace$Use" "used" "J" (.long (0 : Int64)) := D1 (Or.inr (hw _ (List.mem_of_getElem? (i := 17) rfl))) (ty := .long) (by decide)
  refine own_st st1 ?_
  show own_G p.tables e below _ (T1.setTop (mkF m 129 #[.val (.long q1), .second, .val (.long q2), .second, .val (.int p3), .val (.int sel), .val (.long t), .second, .val (.long u), .second, .unset, .unset, .unset, .unset, .unset, .unset] [(.ref b1)]))
  refine own_st (fun _ kS => XS.dup X1.here hx rfl (hb hby at_129) rfl rfl kS) ?_
  show own_G p.tables e below _ (T1.setTop (mkF m 130 #[.val (.long q1), .second, .val (.long q2), .second, .val (.int p3), .val (.int sel), .val (.long t), .second, .val (.long u), .second, .unset, .unset, .unset, .unset, .unset, .unset] [(.ref b1), (.ref b1)]))
  refine own_st (fun _ kS => XT.lload X1.here hx rfl (hb hby at_130) rfl kS) ?_
  show own_G p.tables e below _ (T1.setTop (mkF m 132 #[.val (.long q1), .second, .val (.long q2), .second, .val (.int p3), .val (.int sel), .val (.long t), .second, .val (.long u), .second, .unset, .unset, .unset, .unset, .unset, .unset] [(.long t), (.ref b1), (.ref b1)]))
  refine own_st (fun _ kS => XT.lload X1.here hx rfl (hb hby at_132) rfl kS) ?_
  show own_G p.tables e below _ (T1.setTop (mkF m 134 #[.val (.long q1), .second, .val (.long q2), .second, .val (.int p3), .val (.int sel), .val (.long t), .second, .val (.long u), .second, .unset, .unset, .unset, .unset, .unset, .unset] [(.long u), (.long t), (.ref b1), (.ref b1)]))
  obtain ⟨_, _, ⟨T2, L2, k2, n2⟩, -, X2, ⟨Lc2, hQ2, l2, y2, z2⟩, st2⟩ := X1.specialBack hx (y := (⟨"com/example/memo3/memo3/store/DiskSpace$Use", "<init>", "(JJ)V"⟩ : MethodName)) rfl hown (mvT hZ (hw _ (List.mem_of_getElem? (i := 3) rfl))) (mvT hZ (hw _ (List.mem_of_getElem? (i := 4) rfl))) (mvT hZ (hw _ (List.mem_of_getElem? (i := 5) rfl))) (by decide) (backOf (W := 1) (rm_useInit l Z a0 hw [] b1 t u h1 n0 (Nat.le_trans Z0 E1.1)  A1 ge_b1 F1_total F1_used) hZ (hw _ (List.mem_of_getElem? (i := 5) rfl)) (hw _ (List.mem_of_getElem? (i := 2) rfl)) (by decide) (by decide)) (g := (mkF m 134 #[.val (.long q1), .second, .val (.long q2), .second, .val (.int p3), .val (.int sel), .val (.long t), .second, .val (.long u), .second, .unset, .unset, .unset, .unset, .unset, .unset] [(.long u), (.long t), (.ref b1), (.ref b1)])) rfl (by rw [hml]; rfl) (Steps.refl _) (a := b1) (argsL := [(.long t), (.long u)]) (rest := [(.ref b1)]) (lenOf own_pd1 rfl) rfl (by show 2 * 0 + _ ≤ _; exact Nat.le_of_eq rfl) (hb hby at_134) (fun _ _ => ⟨rfl, e1, (by decide : 1 + 0 ≤ _), (by decide : 2 + 0 ≤ _)⟩)
  dsimp only [Pt.U, Pt.locs, Pt.cells, Pt.slots] at X2 l2 y2 z2 st2 hQ2
  subst l2 y2 z2
  obtain ⟨rfl, Nq2, Kc2, P2_0, P2_1, P2_2⟩ := hQ2
  have N2 := Fr.app N0 Nq2
  have O2 := O1.keep Kc2 (allS ge_b1 all0)
  refine own_tr st2 ?_
  show own_G p.tables e below _ (T2.setTop (mkF m 137 #[.val (.long q1), .second, .val (.long q2), .second, .val (.int p3), .val (.int sel), .val (.long t), .second, .val (.long u), .second, .unset, .unset, .unset, .unset, .unset, .unset] [(.ref b1)]))
  obtain ⟨cq3, kq3, q3a, q3b, q3c⟩ := isOf hZ rfl P2_0
  obtain ⟨_, _, ⟨T3, L3, k3, n3⟩, -, X3, ⟨Lc3, hQ3, l3, y3, z3⟩, st3⟩ := X2.virtualBack hx (y := (⟨"com/example/memo3/memo3/store/DiskSpace$Use", "percent", "()D"⟩ : MethodName)) (z := (⟨"com/example/memo3/memo3/store/DiskSpace$Use", "percent", "()D"⟩ : MethodName)) hown (mvT hZ (hw _ (List.mem_of_getElem? (i := 18) rfl))) (mvT hZ (hw _ (List.mem_of_getElem? (i := 19) rfl))) (notFace_of_selects (args := #[]) (mvT hZ (hw _ (List.mem_of_getElem? (i := 21) rfl)))) (mvT hZ (hw _ (List.mem_of_getElem? (i := 21) rfl))) (mvT hZ (hw _ (List.mem_of_getElem? (i := 20) rfl))) (by decide) (backOf (W := 0) (rm_percent1 l Z a0 hw [] b1 t u T2.heap n0 (Nat.le_trans (Nat.le_trans Z0 E1.1) Kc2.1)  P2_1 P2_2 (own_tz ht0) (own_mul ht0 ht1 hu0 hu1) (own_nn ht0 ht1 hu0 hu1)) hZ (hw _ (List.mem_of_getElem? (i := 22) rfl)) (hw _ (List.mem_of_getElem? (i := 2) rfl)) (by decide) (by decide)) q3a q3c (g := (mkF m 137 #[.val (.long q1), .second, .val (.long q2), .second, .val (.int p3), .val (.int sel), .val (.long t), .second, .val (.long u), .second, .unset, .unset, .unset, .unset, .unset, .unset] [(.ref b1)])) rfl (by rw [hml]; rfl) (Steps.refl _) (argsL := []) (rest := []) (lenOf own_pd2 rfl) rfl (by show 2 * 0 + _ ≤ _; exact Nat.le_of_eq rfl) (hb hby at_137) (fun _ _ => ⟨rfl, rfl, (by decide : 1 + 0 ≤ _), (by decide : 2 + 0 ≤ _)⟩)
  dsimp only [Pt.U, Pt.locs, Pt.cells, Pt.slots] at X3 l3 y3 z3 st3 hQ3
  subst l3 y3 z3
  obtain ⟨rfl, Nq3, eq3⟩ := hQ3
  have N3 := Fr.app N2 Nq3
  refine own_tr st3 ?_
  show own_G p.tables e below _ (T3.setTop (mkF m 140 #[.val (.long q1), .second, .val (.long q2), .second, .val (.int p3), .val (.int sel), .val (.long t), .second, .val (.long u), .second, .unset, .unset, .unset, .unset, .unset, .unset] [(.double (FP.ddiv (FP.l2d ((100 : Int64) * u)) (FP.l2d t)))]))
  refine own_st (fun _ kS => XS.dstore X3.here hx rfl (hb hby at_140) rfl (l' := #[.val (.long q1), .second, .val (.long q2), .second, .val (.int p3), .val (.int sel), .val (.long t), .second, .val (.long u), .second, .val (.double (FP.ddiv (FP.l2d ((100 : Int64) * u)) (FP.l2d t))), .second, .unset, .unset, .unset, .unset]) rfl kS) ?_
  show own_G p.tables e below _ (T3.setTop (mkF m 142 #[.val (.long q1), .second, .val (.long q2), .second, .val (.int p3), .val (.int sel), .val (.long t), .second, .val (.long u), .second, .val (.double (FP.ddiv (FP.l2d ((100 : Int64) * u)) (FP.l2d t))), .second, .unset, .unset, .unset, .unset] []))
  refine own_st (fun _ kS => X3.ldc2Long hx hown (mvT hZ (hw _ (List.mem_of_getElem? (i := 23) rfl))) (g := (mkF m 142 #[.val (.long q1), .second, .val (.long q2), .second, .val (.int p3), .val (.int sel), .val (.long t), .second, .val (.long u), .second, .val (.double (FP.ddiv (FP.l2d ((100 : Int64) * u)) (FP.l2d t))), .second, .unset, .unset, .unset, .unset] [])) rfl (hb hby at_142) _ kS) ?_
  show own_G p.tables e below _ (T3.setTop (mkF m 145 #[.val (.long q1), .second, .val (.long q2), .second, .val (.int p3), .val (.int sel), .val (.long t), .second, .val (.long u), .second, .val (.double (FP.ddiv (FP.l2d ((100 : Int64) * u)) (FP.l2d t))), .second, .unset, .unset, .unset, .unset] [(.long (100 : Int64))]))
  refine own_st (fun _ kS => XT.lload X3.here hx rfl (hb hby at_145) rfl kS) ?_
  show own_G p.tables e below _ (T3.setTop (mkF m 147 #[.val (.long q1), .second, .val (.long q2), .second, .val (.int p3), .val (.int sel), .val (.long t), .second, .val (.long u), .second, .val (.double (FP.ddiv (FP.l2d ((100 : Int64) * u)) (FP.l2d t))), .second, .unset, .unset, .unset, .unset] [(.long u), (.long (100 : Int64))]))
  refine own_st (fun _ kS => XT.lmul X3.here hx rfl (hb hby at_147) rfl kS) ?_
  show own_G p.tables e below _ (T3.setTop (mkF m 148 #[.val (.long q1), .second, .val (.long q2), .second, .val (.int p3), .val (.int sel), .val (.long t), .second, .val (.long u), .second, .val (.double (FP.ddiv (FP.l2d ((100 : Int64) * u)) (FP.l2d t))), .second, .unset, .unset, .unset, .unset] [(.long ((100 : Int64) * u))]))
  refine own_st (fun _ kS => XT.lload X3.here hx rfl (hb hby at_148) rfl kS) ?_
  show own_G p.tables e below _ (T3.setTop (mkF m 150 #[.val (.long q1), .second, .val (.long q2), .second, .val (.int p3), .val (.int sel), .val (.long t), .second, .val (.long u), .second, .val (.double (FP.ddiv (FP.l2d ((100 : Int64) * u)) (FP.l2d t))), .second, .unset, .unset, .unset, .unset] [(.long t), (.long ((100 : Int64) * u))]))
  refine own_st (fun _ kS => XT.ldiv X3.here hx rfl (hb hby at_150) rfl (own_tne ht0) kS) ?_
  show own_G p.tables e below _ (T3.setTop (mkF m 151 #[.val (.long q1), .second, .val (.long q2), .second, .val (.int p3), .val (.int sel), .val (.long t), .second, .val (.long u), .second, .val (.double (FP.ddiv (FP.l2d ((100 : Int64) * u)) (FP.l2d t))), .second, .unset, .unset, .unset, .unset] [(.long (((100 : Int64) * u) / t))]))
  refine own_st (fun _ kS => XT.lstore X3.here hx rfl (hb hby at_151) rfl (l' := #[.val (.long q1), .second, .val (.long q2), .second, .val (.int p3), .val (.int sel), .val (.long t), .second, .val (.long u), .second, .val (.double (FP.ddiv (FP.l2d ((100 : Int64) * u)) (FP.l2d t))), .second, .val (.long (((100 : Int64) * u) / t)), .second, .unset, .unset]) rfl kS) ?_
  show own_G p.tables e below _ (T3.setTop (mkF m 153 #[.val (.long q1), .second, .val (.long q2), .second, .val (.int p3), .val (.int sel), .val (.long t), .second, .val (.long u), .second, .val (.double (FP.ddiv (FP.l2d ((100 : Int64) * u)) (FP.l2d t))), .second, .val (.long (((100 : Int64) * u) / t)), .second, .unset, .unset] []))
  refine own_st (fun _ kS => X3.ldc2Long hx hown (mvT hZ (hw _ (List.mem_of_getElem? (i := 23) rfl))) (g := (mkF m 153 #[.val (.long q1), .second, .val (.long q2), .second, .val (.int p3), .val (.int sel), .val (.long t), .second, .val (.long u), .second, .val (.double (FP.ddiv (FP.l2d ((100 : Int64) * u)) (FP.l2d t))), .second, .val (.long (((100 : Int64) * u) / t)), .second, .unset, .unset] [])) rfl (hb hby at_153) _ kS) ?_
  show own_G p.tables e below _ (T3.setTop (mkF m 156 #[.val (.long q1), .second, .val (.long q2), .second, .val (.int p3), .val (.int sel), .val (.long t), .second, .val (.long u), .second, .val (.double (FP.ddiv (FP.l2d ((100 : Int64) * u)) (FP.l2d t))), .second, .val (.long (((100 : Int64) * u) / t)), .second, .unset, .unset] [(.long (100 : Int64))]))
  refine own_st (fun _ kS => XT.lload X3.here hx rfl (hb hby at_156) rfl kS) ?_
  show own_G p.tables e below _ (T3.setTop (mkF m 158 #[.val (.long q1), .second, .val (.long q2), .second, .val (.int p3), .val (.int sel), .val (.long t), .second, .val (.long u), .second, .val (.double (FP.ddiv (FP.l2d ((100 : Int64) * u)) (FP.l2d t))), .second, .val (.long (((100 : Int64) * u) / t)), .second, .unset, .unset] [(.long u), (.long (100 : Int64))]))
  refine own_st (fun _ kS => XT.lmul X3.here hx rfl (hb hby at_158) rfl kS) ?_
  show own_G p.tables e below _ (T3.setTop (mkF m 159 #[.val (.long q1), .second, .val (.long q2), .second, .val (.int p3), .val (.int sel), .val (.long t), .second, .val (.long u), .second, .val (.double (FP.ddiv (FP.l2d ((100 : Int64) * u)) (FP.l2d t))), .second, .val (.long (((100 : Int64) * u) / t)), .second, .unset, .unset] [(.long ((100 : Int64) * u))]))
  refine own_st (fun _ kS => XT.lload X3.here hx rfl (hb hby at_159) rfl kS) ?_
  show own_G p.tables e below _ (T3.setTop (mkF m 161 #[.val (.long q1), .second, .val (.long q2), .second, .val (.int p3), .val (.int sel), .val (.long t), .second, .val (.long u), .second, .val (.double (FP.ddiv (FP.l2d ((100 : Int64) * u)) (FP.l2d t))), .second, .val (.long (((100 : Int64) * u) / t)), .second, .unset, .unset] [(.long t), (.long ((100 : Int64) * u))]))
  refine own_st (fun _ kS => XT.lrem X3.here hx rfl (hb hby at_161) rfl (own_tne ht0) kS) ?_
  show own_G p.tables e below _ (T3.setTop (mkF m 162 #[.val (.long q1), .second, .val (.long q2), .second, .val (.int p3), .val (.int sel), .val (.long t), .second, .val (.long u), .second, .val (.double (FP.ddiv (FP.l2d ((100 : Int64) * u)) (FP.l2d t))), .second, .val (.long (((100 : Int64) * u) / t)), .second, .unset, .unset] [(.long (((100 : Int64) * u) - (((100 : Int64) * u) / t) * t))]))
  refine own_st (fun _ kS => XT.lstore X3.here hx rfl (hb hby at_162) rfl (l' := #[.val (.long q1), .second, .val (.long q2), .second, .val (.int p3), .val (.int sel), .val (.long t), .second, .val (.long u), .second, .val (.double (FP.ddiv (FP.l2d ((100 : Int64) * u)) (FP.l2d t))), .second, .val (.long (((100 : Int64) * u) / t)), .second, .val (.long (((100 : Int64) * u) - (((100 : Int64) * u) / t) * t)), .second]) rfl kS) ?_
  show own_G p.tables e below _ (T3.setTop (mkF m 164 #[.val (.long q1), .second, .val (.long q2), .second, .val (.int p3), .val (.int sel), .val (.long t), .second, .val (.long u), .second, .val (.double (FP.ddiv (FP.l2d ((100 : Int64) * u)) (FP.l2d t))), .second, .val (.long (((100 : Int64) * u) / t)), .second, .val (.long (((100 : Int64) * u) - (((100 : Int64) * u) / t) * t)), .second] []))
  refine own_st (fun _ kS => XT.lload X3.here hx rfl (hb hby at_164) rfl kS) ?_
  show own_G p.tables e below _ (T3.setTop (mkF m 166 #[.val (.long q1), .second, .val (.long q2), .second, .val (.int p3), .val (.int sel), .val (.long t), .second, .val (.long u), .second, .val (.double (FP.ddiv (FP.l2d ((100 : Int64) * u)) (FP.l2d t))), .second, .val (.long (((100 : Int64) * u) / t)), .second, .val (.long (((100 : Int64) * u) - (((100 : Int64) * u) / t) * t)), .second] [(.long (((100 : Int64) * u) - (((100 : Int64) * u) / t) * t))]))
  refine own_st (fun _ kS => XT.lconst X3.here hx rfl (hb hby at_166) kS) ?_
  show own_G p.tables e below _ (T3.setTop (mkF m 167 #[.val (.long q1), .second, .val (.long q2), .second, .val (.int p3), .val (.int sel), .val (.long t), .second, .val (.long u), .second, .val (.double (FP.ddiv (FP.l2d ((100 : Int64) * u)) (FP.l2d t))), .second, .val (.long (((100 : Int64) * u) / t)), .second, .val (.long (((100 : Int64) * u) - (((100 : Int64) * u) / t) * t)), .second] [(.long (0 : Int64)), (.long (((100 : Int64) * u) - (((100 : Int64) * u) / t) * t))]))
  refine own_st (fun _ kS => XT.lcmp X3.here hx rfl (hb hby at_167) rfl kS) ?_
  show own_G p.tables e below _ (T3.setTop (mkF m 168 #[.val (.long q1), .second, .val (.long q2), .second, .val (.int p3), .val (.int sel), .val (.long t), .second, .val (.long u), .second, .val (.double (FP.ddiv (FP.l2d ((100 : Int64) * u)) (FP.l2d t))), .second, .val (.long (((100 : Int64) * u) / t)), .second, .val (.long (((100 : Int64) * u) - (((100 : Int64) * u) / t) * t)), .second] [(.int (XT.cmpL (((100 : Int64) * u) - (((100 : Int64) * u) / t) * t) (0 : Int64)))]))
  by_cases hc168_4 : (XT.cmpL (((100 : Int64) * u) - (((100 : Int64) * u) / t) * t) (0 : Int64)) = (0 : Int32)
  · skip
    refine own_st (fun _ kS => XS.ifNo X3.here hx rfl (hb hby at_168) rfl ((if0 _ _).trans (teq hc168_4).2) kS) ?_
    show own_G p.tables e below _ (T3.setTop (mkF m 171 #[.val (.long q1), .second, .val (.long q2), .second, .val (.int p3), .val (.int sel), .val (.long t), .second, .val (.long u), .second, .val (.double (FP.ddiv (FP.l2d ((100 : Int64) * u)) (FP.l2d t))), .second, .val (.long (((100 : Int64) * u) / t)), .second, .val (.long (((100 : Int64) * u) - (((100 : Int64) * u) / t) * t)), .second] []))
    refine own_st (fun _ kS => XS.dload X3.here hx rfl (hb hby at_171) rfl kS) ?_
    show own_G p.tables e below _ (T3.setTop (mkF m 173 #[.val (.long q1), .second, .val (.long q2), .second, .val (.int p3), .val (.int sel), .val (.long t), .second, .val (.long u), .second, .val (.double (FP.ddiv (FP.l2d ((100 : Int64) * u)) (FP.l2d t))), .second, .val (.long (((100 : Int64) * u) / t)), .second, .val (.long (((100 : Int64) * u) - (((100 : Int64) * u) / t) * t)), .second] [(.double (FP.ddiv (FP.l2d ((100 : Int64) * u)) (FP.l2d t)))]))
    refine own_st (fun _ kS => XT.lload X3.here hx rfl (hb hby at_173) rfl kS) ?_
    show own_G p.tables e below _ (T3.setTop (mkF m 175 #[.val (.long q1), .second, .val (.long q2), .second, .val (.int p3), .val (.int sel), .val (.long t), .second, .val (.long u), .second, .val (.double (FP.ddiv (FP.l2d ((100 : Int64) * u)) (FP.l2d t))), .second, .val (.long (((100 : Int64) * u) / t)), .second, .val (.long (((100 : Int64) * u) - (((100 : Int64) * u) / t) * t)), .second] [(.long (((100 : Int64) * u) / t)), (.double (FP.ddiv (FP.l2d ((100 : Int64) * u)) (FP.l2d t)))]))
    refine own_st (fun _ kS => XS.l2dS X3.here hx rfl (hb hby at_175) rfl rfl kS) ?_
    show own_G p.tables e below _ (T3.setTop (mkF m 176 #[.val (.long q1), .second, .val (.long q2), .second, .val (.int p3), .val (.int sel), .val (.long t), .second, .val (.long u), .second, .val (.double (FP.ddiv (FP.l2d ((100 : Int64) * u)) (FP.l2d t))), .second, .val (.long (((100 : Int64) * u) / t)), .second, .val (.long (((100 : Int64) * u) - (((100 : Int64) * u) / t) * t)), .second] [(.double (FP.l2d (((100 : Int64) * u) / t))), (.double (FP.ddiv (FP.l2d ((100 : Int64) * u)) (FP.l2d t)))]))
    refine own_st (fun _ kS => XS.dcmpS X3.here hx rfl (hb hby at_176) rfl rfl kS) ?_
    show own_G p.tables e below _ (T3.setTop (mkF m 177 #[.val (.long q1), .second, .val (.long q2), .second, .val (.int p3), .val (.int sel), .val (.long t), .second, .val (.long u), .second, .val (.double (FP.ddiv (FP.l2d ((100 : Int64) * u)) (FP.l2d t))), .second, .val (.long (((100 : Int64) * u) / t)), .second, .val (.long (((100 : Int64) * u) - (((100 : Int64) * u) / t) * t)), .second] [(.int (cmpValue (FP.dcmp (FP.ddiv (FP.l2d ((100 : Int64) * u)) (FP.l2d t)) (FP.l2d (((100 : Int64) * u) / t))) .l))]))
    refine own_st (fun _ kS => XS.ifNo X3.here hx rfl (hb hby at_177) rfl ((if0 _ _).trans (teq (own_f1 ht0 ht1 hu0 hu1 hc168_4 : (cmpValue (FP.dcmp (FP.ddiv (FP.l2d ((100 : Int64) * u)) (FP.l2d t)) (FP.l2d (((100 : Int64) * u) / t))) .l) = (0 : Int32))).2) kS) ?_
    show own_G p.tables e below _ (T3.setTop (mkF m 180 #[.val (.long q1), .second, .val (.long q2), .second, .val (.int p3), .val (.int sel), .val (.long t), .second, .val (.long u), .second, .val (.double (FP.ddiv (FP.l2d ((100 : Int64) * u)) (FP.l2d t))), .second, .val (.long (((100 : Int64) * u) / t)), .second, .val (.long (((100 : Int64) * u) - (((100 : Int64) * u) / t) * t)), .second] []))
    refine own_st (fun _ kS => XS.iconst X3.here hx rfl (hb hby at_180) kS) ?_
    show own_G p.tables e below _ (T3.setTop (mkF m 181 #[.val (.long q1), .second, .val (.long q2), .second, .val (.int p3), .val (.int sel), .val (.long t), .second, .val (.long u), .second, .val (.double (FP.ddiv (FP.l2d ((100 : Int64) * u)) (FP.l2d t))), .second, .val (.long (((100 : Int64) * u) / t)), .second, .val (.long (((100 : Int64) * u) - (((100 : Int64) * u) / t) * t)), .second] [(.int (1 : Int32))]))
    refine own_st (fun _ kS => XS.goto X3.here hx rfl (pc0 := 181) (pc' := 185) rfl (hb hby at_181) (by decide) (by decide) kS) ?_
    show own_G p.tables e below _ (T3.setTop (mkF m 185 #[.val (.long q1), .second, .val (.long q2), .second, .val (.int p3), .val (.int sel), .val (.long t), .second, .val (.long u), .second, .val (.double (FP.ddiv (FP.l2d ((100 : Int64) * u)) (FP.l2d t))), .second, .val (.long (((100 : Int64) * u) / t)), .second, .val (.long (((100 : Int64) * u) - (((100 : Int64) * u) / t) * t)), .second] [(.int (1 : Int32))]))
    exact own_retN X3 hx hlk (t := .boolean) hret (by simp) (hb hby at_185) (by decide) (by decide) (v' := (1 : Int32)) rfl (by rw [eq3]; exact ⟨rfl, N3⟩)
  · skip
    refine own_st (fun _ kS => XS.ifYes X3.here hx rfl (pc0 := 168) (pc' := 186) rfl (hb hby at_168) rfl ((if0 _ _).trans (feq hc168_4).2) (by decide) (by decide) kS) ?_
    show own_G p.tables e below _ (T3.setTop (mkF m 186 #[.val (.long q1), .second, .val (.long q2), .second, .val (.int p3), .val (.int sel), .val (.long t), .second, .val (.long u), .second, .val (.double (FP.ddiv (FP.l2d ((100 : Int64) * u)) (FP.l2d t))), .second, .val (.long (((100 : Int64) * u) / t)), .second, .val (.long (((100 : Int64) * u) - (((100 : Int64) * u) / t) * t)), .second] []))
    refine own_st (fun _ kS => XT.lload X3.here hx rfl (hb hby at_186) rfl kS) ?_
    show own_G p.tables e below _ (T3.setTop (mkF m 188 #[.val (.long q1), .second, .val (.long q2), .second, .val (.int p3), .val (.int sel), .val (.long t), .second, .val (.long u), .second, .val (.double (FP.ddiv (FP.l2d ((100 : Int64) * u)) (FP.l2d t))), .second, .val (.long (((100 : Int64) * u) / t)), .second, .val (.long (((100 : Int64) * u) - (((100 : Int64) * u) / t) * t)), .second] [(.long (((100 : Int64) * u) / t))]))
    refine own_st (fun _ kS => XS.l2dS X3.here hx rfl (hb hby at_188) rfl rfl kS) ?_
    show own_G p.tables e below _ (T3.setTop (mkF m 189 #[.val (.long q1), .second, .val (.long q2), .second, .val (.int p3), .val (.int sel), .val (.long t), .second, .val (.long u), .second, .val (.double (FP.ddiv (FP.l2d ((100 : Int64) * u)) (FP.l2d t))), .second, .val (.long (((100 : Int64) * u) / t)), .second, .val (.long (((100 : Int64) * u) - (((100 : Int64) * u) / t) * t)), .second] [(.double (FP.l2d (((100 : Int64) * u) / t)))]))
    refine own_st (fun _ kS => XS.dload X3.here hx rfl (hb hby at_189) rfl kS) ?_
    show own_G p.tables e below _ (T3.setTop (mkF m 191 #[.val (.long q1), .second, .val (.long q2), .second, .val (.int p3), .val (.int sel), .val (.long t), .second, .val (.long u), .second, .val (.double (FP.ddiv (FP.l2d ((100 : Int64) * u)) (FP.l2d t))), .second, .val (.long (((100 : Int64) * u) / t)), .second, .val (.long (((100 : Int64) * u) - (((100 : Int64) * u) / t) * t)), .second] [(.double (FP.ddiv (FP.l2d ((100 : Int64) * u)) (FP.l2d t))), (.double (FP.l2d (((100 : Int64) * u) / t)))]))
    refine own_st (fun _ kS => XS.dcmpS X3.here hx rfl (hb hby at_191) rfl rfl kS) ?_
    show own_G p.tables e below _ (T3.setTop (mkF m 192 #[.val (.long q1), .second, .val (.long q2), .second, .val (.int p3), .val (.int sel), .val (.long t), .second, .val (.long u), .second, .val (.double (FP.ddiv (FP.l2d ((100 : Int64) * u)) (FP.l2d t))), .second, .val (.long (((100 : Int64) * u) / t)), .second, .val (.long (((100 : Int64) * u) - (((100 : Int64) * u) / t) * t)), .second] [(.int (cmpValue (FP.dcmp (FP.l2d (((100 : Int64) * u) / t)) (FP.ddiv (FP.l2d ((100 : Int64) * u)) (FP.l2d t))) .g))]))
    refine own_st (fun _ kS => XS.ifNo X3.here hx rfl (hb hby at_192) rfl ((if0 _ _).trans (tlt (own_f2 ht0 ht1 hu0 hu1 hc168_4 : (cmpValue (FP.dcmp (FP.l2d (((100 : Int64) * u) / t)) (FP.ddiv (FP.l2d ((100 : Int64) * u)) (FP.l2d t))) .g) < (0 : Int32))).2.1) kS) ?_
    show own_G p.tables e below _ (T3.setTop (mkF m 195 #[.val (.long q1), .second, .val (.long q2), .second, .val (.int p3), .val (.int sel), .val (.long t), .second, .val (.long u), .second, .val (.double (FP.ddiv (FP.l2d ((100 : Int64) * u)) (FP.l2d t))), .second, .val (.long (((100 : Int64) * u) / t)), .second, .val (.long (((100 : Int64) * u) - (((100 : Int64) * u) / t) * t)), .second] []))
    refine own_st (fun _ kS => XS.dload X3.here hx rfl (hb hby at_195) rfl kS) ?_
    show own_G p.tables e below _ (T3.setTop (mkF m 197 #[.val (.long q1), .second, .val (.long q2), .second, .val (.int p3), .val (.int sel), .val (.long t), .second, .val (.long u), .second, .val (.double (FP.ddiv (FP.l2d ((100 : Int64) * u)) (FP.l2d t))), .second, .val (.long (((100 : Int64) * u) / t)), .second, .val (.long (((100 : Int64) * u) - (((100 : Int64) * u) / t) * t)), .second] [(.double (FP.ddiv (FP.l2d ((100 : Int64) * u)) (FP.l2d t)))]))
    refine own_st (fun _ kS => XT.lload X3.here hx rfl (hb hby at_197) rfl kS) ?_
    show own_G p.tables e below _ (T3.setTop (mkF m 199 #[.val (.long q1), .second, .val (.long q2), .second, .val (.int p3), .val (.int sel), .val (.long t), .second, .val (.long u), .second, .val (.double (FP.ddiv (FP.l2d ((100 : Int64) * u)) (FP.l2d t))), .second, .val (.long (((100 : Int64) * u) / t)), .second, .val (.long (((100 : Int64) * u) - (((100 : Int64) * u) / t) * t)), .second] [(.long (((100 : Int64) * u) / t)), (.double (FP.ddiv (FP.l2d ((100 : Int64) * u)) (FP.l2d t)))]))
    refine own_st (fun _ kS => XT.lconst X3.here hx rfl (hb hby at_199) kS) ?_
    show own_G p.tables e below _ (T3.setTop (mkF m 200 #[.val (.long q1), .second, .val (.long q2), .second, .val (.int p3), .val (.int sel), .val (.long t), .second, .val (.long u), .second, .val (.double (FP.ddiv (FP.l2d ((100 : Int64) * u)) (FP.l2d t))), .second, .val (.long (((100 : Int64) * u) / t)), .second, .val (.long (((100 : Int64) * u) - (((100 : Int64) * u) / t) * t)), .second] [(.long (1 : Int64)), (.long (((100 : Int64) * u) / t)), (.double (FP.ddiv (FP.l2d ((100 : Int64) * u)) (FP.l2d t)))]))
    refine own_st (fun _ kS => XT.ladd X3.here hx rfl (hb hby at_200) rfl kS) ?_
    show own_G p.tables e below _ (T3.setTop (mkF m 201 #[.val (.long q1), .second, .val (.long q2), .second, .val (.int p3), .val (.int sel), .val (.long t), .second, .val (.long u), .second, .val (.double (FP.ddiv (FP.l2d ((100 : Int64) * u)) (FP.l2d t))), .second, .val (.long (((100 : Int64) * u) / t)), .second, .val (.long (((100 : Int64) * u) - (((100 : Int64) * u) / t) * t)), .second] [(.long ((((100 : Int64) * u) / t) + (1 : Int64))), (.double (FP.ddiv (FP.l2d ((100 : Int64) * u)) (FP.l2d t)))]))
    refine own_st (fun _ kS => XS.l2dS X3.here hx rfl (hb hby at_201) rfl rfl kS) ?_
    show own_G p.tables e below _ (T3.setTop (mkF m 202 #[.val (.long q1), .second, .val (.long q2), .second, .val (.int p3), .val (.int sel), .val (.long t), .second, .val (.long u), .second, .val (.double (FP.ddiv (FP.l2d ((100 : Int64) * u)) (FP.l2d t))), .second, .val (.long (((100 : Int64) * u) / t)), .second, .val (.long (((100 : Int64) * u) - (((100 : Int64) * u) / t) * t)), .second] [(.double (FP.l2d ((((100 : Int64) * u) / t) + (1 : Int64)))), (.double (FP.ddiv (FP.l2d ((100 : Int64) * u)) (FP.l2d t)))]))
    refine own_st (fun _ kS => XS.dcmpS X3.here hx rfl (hb hby at_202) rfl rfl kS) ?_
    show own_G p.tables e below _ (T3.setTop (mkF m 203 #[.val (.long q1), .second, .val (.long q2), .second, .val (.int p3), .val (.int sel), .val (.long t), .second, .val (.long u), .second, .val (.double (FP.ddiv (FP.l2d ((100 : Int64) * u)) (FP.l2d t))), .second, .val (.long (((100 : Int64) * u) / t)), .second, .val (.long (((100 : Int64) * u) - (((100 : Int64) * u) / t) * t)), .second] [(.int (cmpValue (FP.dcmp (FP.ddiv (FP.l2d ((100 : Int64) * u)) (FP.l2d t)) (FP.l2d ((((100 : Int64) * u) / t) + (1 : Int64)))) .g))]))
    refine own_st (fun _ kS => XS.ifNo X3.here hx rfl (hb hby at_203) rfl ((if0 _ _).trans (tlt (own_f3 ht0 ht1 hu0 hu1 hc168_4 : (cmpValue (FP.dcmp (FP.ddiv (FP.l2d ((100 : Int64) * u)) (FP.l2d t)) (FP.l2d ((((100 : Int64) * u) / t) + (1 : Int64)))) .g) < (0 : Int32))).2.1) kS) ?_
    show own_G p.tables e below _ (T3.setTop (mkF m 206 #[.val (.long q1), .second, .val (.long q2), .second, .val (.int p3), .val (.int sel), .val (.long t), .second, .val (.long u), .second, .val (.double (FP.ddiv (FP.l2d ((100 : Int64) * u)) (FP.l2d t))), .second, .val (.long (((100 : Int64) * u) / t)), .second, .val (.long (((100 : Int64) * u) - (((100 : Int64) * u) / t) * t)), .second] []))
    refine own_st (fun _ kS => XS.iconst X3.here hx rfl (hb hby at_206) kS) ?_
    show own_G p.tables e below _ (T3.setTop (mkF m 207 #[.val (.long q1), .second, .val (.long q2), .second, .val (.int p3), .val (.int sel), .val (.long t), .second, .val (.long u), .second, .val (.double (FP.ddiv (FP.l2d ((100 : Int64) * u)) (FP.l2d t))), .second, .val (.long (((100 : Int64) * u) / t)), .second, .val (.long (((100 : Int64) * u) - (((100 : Int64) * u) / t) * t)), .second] [(.int (1 : Int32))]))
    refine own_st (fun _ kS => XS.goto X3.here hx rfl (pc0 := 207) (pc' := 211) rfl (hb hby at_207) (by decide) (by decide) kS) ?_
    show own_G p.tables e below _ (T3.setTop (mkF m 211 #[.val (.long q1), .second, .val (.long q2), .second, .val (.int p3), .val (.int sel), .val (.long t), .second, .val (.long u), .second, .val (.double (FP.ddiv (FP.l2d ((100 : Int64) * u)) (FP.l2d t))), .second, .val (.long (((100 : Int64) * u) / t)), .second, .val (.long (((100 : Int64) * u) - (((100 : Int64) * u) / t) * t)), .second] [(.int (1 : Int32))]))
    exact own_retN X3 hx hlk (t := .boolean) hret (by simp) (hb hby at_211) (by decide) (by decide) (v' := (1 : Int32)) rfl (by rw [eq3]; exact ⟨rfl, N3⟩)
theorem ef_law (m : MethodId) (x0 : Int64) (x1 : Int64) (x2 : Int32) : entryFrame m #[(.long x0), (.long x1), (.int x2)] maxLocals = mkF m 0 #[.val (.long x0), .second, .val (.long x1), .second, .val (.int x2), .unset, .unset, .unset, .unset, .unset, .unset, .unset, .unset, .unset, .unset, .unset] [] := by first | (simp [entryFrame, mkF, argsToLocals, Value.category, maxLocals]; done) | rfl
set_option maxRecDepth 65536 in
set_option maxHeartbeats 40000000 in
theorem rm_law (l : Launch) (Z : State) (a0 : Array Value) (hw : ∀ d ∈ tables_1, d.before a0 Z = true) (ws : List Jvm.Cond) (q1 : Int64) (q2 : Int64) (p3 : Int32) (h0 : Heap) (n0 : Nat) (Z0 : n0 ≤ h0.size) (O0 : Old Z n0 h0) :
    MetFree l x (head1 (Jvm.Cond.code x code maxLocals ret :: ws) room_1) (fun a U => a = #[(.long q1), (.long q2), (.int p3)] ∧ Z.Warmed39 U.vm ∧ U.heap = h0) (fun _ _ _ _ _ => True) (fun _ U o U' => ∃ v L, o = .returned v ∧ Q_law n0 v U'.heap L ∧ FrameEnd U o U' L room_1.cells room_1.slots) := by
  refine MetFree.of_bodySF (plainFor_of_name pn_0) hisR ?_
  intro p e s m args below meth c s₁ Bd hml0 hP hK
  obtain ⟨rfl, hZ, hh⟩ := hP
  have hx := Bd.exec
  have hby := Bd.bytes
  have hml : c.maxLocals = 16 := hml0
  have hown : s.vm.findClass "com/example/memo3/memo3/store/UsePercentPinLaw" = some m.cls := findClass_of_methodNamed Bd.named
  have hnm := (name_of_methodNamed Bd.named Bd.method).1
  have hlk := Bd.notSynchronized
  have hret := Bd.returns
  have X0 : Stand p l e room_1 s m #[(.long q1), (.long q2), (.int p3)] below meth c s₁ [] 0 0 := Stand.of_body Bd
  have e0 : s₁.heap = h0 := by rw [← hh, Bd.state]; rfl
  have N0 := Fr.nil n0
  refine own_in room_1.cells room_1.slots (Q_law n0) (ef_law m q1 q2 p3) ?_
  show own_G p.tables e below _ (s₁.setTop (mkF m 0 #[.val (.long q1), .second, .val (.long q2), .second, .val (.int p3), .unset, .unset, .unset, .unset, .unset, .unset, .unset, .unset, .unset, .unset, .unset] []))
  refine own_st (fun _ kS => XS.iload X0.here hx rfl (hb hby at_0) rfl kS) ?_
  show own_G p.tables e below _ (s₁.setTop (mkF m 2 #[.val (.long q1), .second, .val (.long q2), .second, .val (.int p3), .unset, .unset, .unset, .unset, .unset, .unset, .unset, .unset, .unset, .unset, .unset] [(.int p3)]))
  refine own_st (fun _ kS => XS.iconst X0.here hx rfl (hb hby at_2) kS) ?_
  show own_G p.tables e below _ (s₁.setTop (mkF m 3 #[.val (.long q1), .second, .val (.long q2), .second, .val (.int p3), .unset, .unset, .unset, .unset, .unset, .unset, .unset, .unset, .unset, .unset, .unset] [(.int (3 : Int32)), (.int p3)]))
  refine own_st (fun _ kS => XS.iand X0.here hx rfl (hb hby at_3) rfl kS) ?_
  show own_G p.tables e below _ (s₁.setTop (mkF m 4 #[.val (.long q1), .second, .val (.long q2), .second, .val (.int p3), .unset, .unset, .unset, .unset, .unset, .unset, .unset, .unset, .unset, .unset, .unset] [(.int (p3 &&& (3 : Int32)))]))
  rcases own_and3 p3 with hk1 | hk1 | hk1 | hk1
  · rw [hk1]
    show own_G p.tables e below _ (s₁.setTop (mkF m 4 #[.val (.long q1), .second, .val (.long q2), .second, .val (.int p3), .unset, .unset, .unset, .unset, .unset, .unset, .unset, .unset, .unset, .unset, .unset] [(.int (0 : Int32))]))
    refine own_st (fun _ kS => XS.istore X0.here hx rfl (hb hby at_4) rfl (l' := #[.val (.long q1), .second, .val (.long q2), .second, .val (.int p3), .val (.int (0 : Int32)), .unset, .unset, .unset, .unset, .unset, .unset, .unset, .unset, .unset, .unset]) rfl kS) ?_
    show own_G p.tables e below _ (s₁.setTop (mkF m 6 #[.val (.long q1), .second, .val (.long q2), .second, .val (.int p3), .val (.int (0 : Int32)), .unset, .unset, .unset, .unset, .unset, .unset, .unset, .unset, .unset, .unset] []))
    refine own_st (fun _ kS => XS.iload X0.here hx rfl (hb hby at_6) rfl kS) ?_
    show own_G p.tables e below _ (s₁.setTop (mkF m 8 #[.val (.long q1), .second, .val (.long q2), .second, .val (.int p3), .val (.int (0 : Int32)), .unset, .unset, .unset, .unset, .unset, .unset, .unset, .unset, .unset, .unset] [(.int (0 : Int32))]))
    refine own_st (fun _ kS => XS.ifNo X0.here hx rfl (hb hby at_8) rfl ((if0 _ _).trans (teq (by decide : (0 : Int32) = (0 : Int32))).2) kS) ?_
    show own_G p.tables e below _ (s₁.setTop (mkF m 11 #[.val (.long q1), .second, .val (.long q2), .second, .val (.int p3), .val (.int (0 : Int32)), .unset, .unset, .unset, .unset, .unset, .unset, .unset, .unset, .unset, .unset] []))
    obtain ⟨T2, h2, X2, e2, E2, A2, D2, -, st2⟩ := newO X0 hx hZ hown (hw _ (List.mem_of_getElem? (i := 0) rfl)) (hw _ (List.mem_of_getElem? (i := 1) rfl)) (hw _ (List.mem_of_getElem? (i := 2) rfl)) e0 (g := (mkF m 11 #[.val (.long q1), .second, .val (.long q2), .second, .val (.int p3), .val (.int (0 : Int32)), .unset, .unset, .unset, .unset, .unset, .unset, .unset, .unset, .unset, .unset] [])) rfl (hb hby at_11) (by decide) (by decide)
    obtain ⟨b2, g2⟩ : ∃ z, z = h0.size := ⟨_, rfl⟩
    have ge_b2 : n0 ≤ b2 := Nat.le_trans Z0 (Nat.le_of_eq g2.symm)
    rw [← g2] at A2 D2 st2
    have O2 := O0.ext E2
    have F2_total : Fld Z h2 b2 "com/example/memo3/memo3/store/DiskSpace$Use" "total" "J" (.long (0 : Int64)) := D2 (Or.inr (hw _ (List.mem_of_getElem? (i := 15) rfl))) (ty := .long) (by decide)
    have F2_used : Fld Z h2 b2 "com/example/memo3/memo3/store/DiskSpace$Use" "used" "J" (.long (0 : Int64)) := D2 (Or.inr (hw _ (List.mem_of_getElem? (i := 17) rfl))) (ty := .long) (by decide)
    refine own_st st2 ?_
    show own_G p.tables e below _ (T2.setTop (mkF m 14 #[.val (.long q1), .second, .val (.long q2), .second, .val (.int p3), .val (.int (0 : Int32)), .unset, .unset, .unset, .unset, .unset, .unset, .unset, .unset, .unset, .unset] [(.ref b2)]))
    refine own_st (fun _ kS => XS.dup X2.here hx rfl (hb hby at_14) rfl rfl kS) ?_
    show own_G p.tables e below _ (T2.setTop (mkF m 15 #[.val (.long q1), .second, .val (.long q2), .second, .val (.int p3), .val (.int (0 : Int32)), .unset, .unset, .unset, .unset, .unset, .unset, .unset, .unset, .unset, .unset] [(.ref b2), (.ref b2)]))
    refine own_st (fun _ kS => XT.lconst X2.here hx rfl (hb hby at_15) kS) ?_
    show own_G p.tables e below _ (T2.setTop (mkF m 16 #[.val (.long q1), .second, .val (.long q2), .second, .val (.int p3), .val (.int (0 : Int32)), .unset, .unset, .unset, .unset, .unset, .unset, .unset, .unset, .unset, .unset] [(.long (0 : Int64)), (.ref b2), (.ref b2)]))
    refine own_st (fun _ kS => XT.lloadN X2.here hx rfl (hb hby at_16) rfl kS) ?_
    show own_G p.tables e below _ (T2.setTop (mkF m 17 #[.val (.long q1), .second, .val (.long q2), .second, .val (.int p3), .val (.int (0 : Int32)), .unset, .unset, .unset, .unset, .unset, .unset, .unset, .unset, .unset, .unset] [(.long q2), (.long (0 : Int64)), (.ref b2), (.ref b2)]))
    obtain ⟨_, _, ⟨T3, L3, k3, n3⟩, -, X3, ⟨Lc3, hQ3, l3, y3, z3⟩, st3⟩ := X2.specialBack hx (y := (⟨"com/example/memo3/memo3/store/DiskSpace$Use", "<init>", "(JJ)V"⟩ : MethodName)) rfl hown (mvT hZ (hw _ (List.mem_of_getElem? (i := 3) rfl))) (mvT hZ (hw _ (List.mem_of_getElem? (i := 4) rfl))) (mvT hZ (hw _ (List.mem_of_getElem? (i := 5) rfl))) (by decide) (backOf (W := 1) (rm_useInit l Z a0 hw [] b2 (0 : Int64) q2 h2 n0 (Nat.le_trans Z0 E2.1)  A2 ge_b2 F2_total F2_used) hZ (hw _ (List.mem_of_getElem? (i := 5) rfl)) (hw _ (List.mem_of_getElem? (i := 2) rfl)) (by decide) (by decide)) (g := (mkF m 17 #[.val (.long q1), .second, .val (.long q2), .second, .val (.int p3), .val (.int (0 : Int32)), .unset, .unset, .unset, .unset, .unset, .unset, .unset, .unset, .unset, .unset] [(.long q2), (.long (0 : Int64)), (.ref b2), (.ref b2)])) rfl (by rw [hml]; rfl) (Steps.refl _) (a := b2) (argsL := [(.long (0 : Int64)), (.long q2)]) (rest := [(.ref b2)]) (lenOf own_pd1 rfl) rfl (by show 2 * 0 + _ ≤ _; exact Nat.le_of_eq rfl) (hb hby at_17) (fun _ _ => ⟨rfl, e2, (by decide : 1 + 0 ≤ _), (by decide : 2 + 0 ≤ _)⟩)
    dsimp only [Pt.U, Pt.locs, Pt.cells, Pt.slots] at X3 l3 y3 z3 st3 hQ3
    subst l3 y3 z3
    obtain ⟨rfl, Nq3, Kc3, P3_0, P3_1, P3_2⟩ := hQ3
    have N3 := Fr.app N0 Nq3
    have O3 := O2.keep Kc3 (allS ge_b2 all0)
    refine own_tr st3 ?_
    show own_G p.tables e below _ (T3.setTop (mkF m 20 #[.val (.long q1), .second, .val (.long q2), .second, .val (.int p3), .val (.int (0 : Int32)), .unset, .unset, .unset, .unset, .unset, .unset, .unset, .unset, .unset, .unset] [(.ref b2)]))
    obtain ⟨cq4, kq4, q4a, q4b, q4c⟩ := isOf hZ rfl P3_0
    obtain ⟨_, _, ⟨T4, L4, k4, n4⟩, -, X4, ⟨Lc4, hQ4, l4, y4, z4⟩, st4⟩ := X3.virtualBack hx (y := (⟨"com/example/memo3/memo3/store/DiskSpace$Use", "percent", "()D"⟩ : MethodName)) (z := (⟨"com/example/memo3/memo3/store/DiskSpace$Use", "percent", "()D"⟩ : MethodName)) hown (mvT hZ (hw _ (List.mem_of_getElem? (i := 18) rfl))) (mvT hZ (hw _ (List.mem_of_getElem? (i := 19) rfl))) (notFace_of_selects (args := #[]) (mvT hZ (hw _ (List.mem_of_getElem? (i := 21) rfl)))) (mvT hZ (hw _ (List.mem_of_getElem? (i := 21) rfl))) (mvT hZ (hw _ (List.mem_of_getElem? (i := 20) rfl))) (by decide) (backOf (W := 0) (rm_percent0 l Z a0 hw [] b2 T3.heap n0 (Nat.le_trans (Nat.le_trans Z0 E2.1) Kc3.1)  P3_1) hZ (hw _ (List.mem_of_getElem? (i := 22) rfl)) (hw _ (List.mem_of_getElem? (i := 2) rfl)) (by decide) (by decide)) q4a q4c (g := (mkF m 20 #[.val (.long q1), .second, .val (.long q2), .second, .val (.int p3), .val (.int (0 : Int32)), .unset, .unset, .unset, .unset, .unset, .unset, .unset, .unset, .unset, .unset] [(.ref b2)])) rfl (by rw [hml]; rfl) (Steps.refl _) (argsL := []) (rest := []) (lenOf own_pd2 rfl) rfl (by show 2 * 0 + _ ≤ _; exact Nat.le_of_eq rfl) (hb hby at_20) (fun _ _ => ⟨rfl, rfl, (by decide : 1 + 0 ≤ _), (by decide : 2 + 0 ≤ _)⟩)
    dsimp only [Pt.U, Pt.locs, Pt.cells, Pt.slots] at X4 l4 y4 z4 st4 hQ4
    subst l4 y4 z4
    obtain ⟨rfl, Nq4, eq4⟩ := hQ4
    have N4 := Fr.app N3 Nq4
    refine own_tr st4 ?_
    show own_G p.tables e below _ (T4.setTop (mkF m 23 #[.val (.long q1), .second, .val (.long q2), .second, .val (.int p3), .val (.int (0 : Int32)), .unset, .unset, .unset, .unset, .unset, .unset, .unset, .unset, .unset, .unset] [(.double (0 : UInt64))]))
    refine own_st (fun _ kS => XS.dstore X4.here hx rfl (hb hby at_23) rfl (l' := #[.val (.long q1), .second, .val (.long q2), .second, .val (.int p3), .val (.int (0 : Int32)), .val (.double (0 : UInt64)), .second, .unset, .unset, .unset, .unset, .unset, .unset, .unset, .unset]) rfl kS) ?_
    show own_G p.tables e below _ (T4.setTop (mkF m 25 #[.val (.long q1), .second, .val (.long q2), .second, .val (.int p3), .val (.int (0 : Int32)), .val (.double (0 : UInt64)), .second, .unset, .unset, .unset, .unset, .unset, .unset, .unset, .unset] []))
    refine own_st (fun _ kS => XS.dload X4.here hx rfl (hb hby at_25) rfl kS) ?_
    show own_G p.tables e below _ (T4.setTop (mkF m 27 #[.val (.long q1), .second, .val (.long q2), .second, .val (.int p3), .val (.int (0 : Int32)), .val (.double (0 : UInt64)), .second, .unset, .unset, .unset, .unset, .unset, .unset, .unset, .unset] [(.double (0 : UInt64))]))
    refine own_st (fun _ kS => XS.dconst0 X4.here hx rfl (hb hby at_27) rfl kS) ?_
    show own_G p.tables e below _ (T4.setTop (mkF m 28 #[.val (.long q1), .second, .val (.long q2), .second, .val (.int p3), .val (.int (0 : Int32)), .val (.double (0 : UInt64)), .second, .unset, .unset, .unset, .unset, .unset, .unset, .unset, .unset] [(.double (0 : UInt64)), (.double (0 : UInt64))]))
    refine own_st (fun _ kS => XS.dcmpS X4.here hx rfl (hb hby at_28) rfl rfl kS) ?_
    show own_G p.tables e below _ (T4.setTop (mkF m 29 #[.val (.long q1), .second, .val (.long q2), .second, .val (.int p3), .val (.int (0 : Int32)), .val (.double (0 : UInt64)), .second, .unset, .unset, .unset, .unset, .unset, .unset, .unset, .unset] [(.int (cmpValue (FP.dcmp (0 : UInt64) (0 : UInt64)) .l))]))
    refine own_st (fun _ kS => XS.ifNo X4.here hx rfl (hb hby at_29) rfl ((if0 _ _).trans (teq (own_fp00 : (cmpValue (FP.dcmp (0 : UInt64) (0 : UInt64)) .l) = (0 : Int32))).2) kS) ?_
    show own_G p.tables e below _ (T4.setTop (mkF m 32 #[.val (.long q1), .second, .val (.long q2), .second, .val (.int p3), .val (.int (0 : Int32)), .val (.double (0 : UInt64)), .second, .unset, .unset, .unset, .unset, .unset, .unset, .unset, .unset] []))
    refine own_st (fun _ kS => XS.iconst X4.here hx rfl (hb hby at_32) kS) ?_
    show own_G p.tables e below _ (T4.setTop (mkF m 33 #[.val (.long q1), .second, .val (.long q2), .second, .val (.int p3), .val (.int (0 : Int32)), .val (.double (0 : UInt64)), .second, .unset, .unset, .unset, .unset, .unset, .unset, .unset, .unset] [(.int (1 : Int32))]))
    refine own_st (fun _ kS => XS.goto X4.here hx rfl (pc0 := 33) (pc' := 37) rfl (hb hby at_33) (by decide) (by decide) kS) ?_
    show own_G p.tables e below _ (T4.setTop (mkF m 37 #[.val (.long q1), .second, .val (.long q2), .second, .val (.int p3), .val (.int (0 : Int32)), .val (.double (0 : UInt64)), .second, .unset, .unset, .unset, .unset, .unset, .unset, .unset, .unset] [(.int (1 : Int32))]))
    exact own_retN X4 hx hlk (t := .boolean) hret (by simp) (hb hby at_37) (by decide) (by decide) (v' := (1 : Int32)) rfl (by rw [eq4]; exact ⟨rfl, N4⟩)
  · rw [hk1]
    show own_G p.tables e below _ (s₁.setTop (mkF m 4 #[.val (.long q1), .second, .val (.long q2), .second, .val (.int p3), .unset, .unset, .unset, .unset, .unset, .unset, .unset, .unset, .unset, .unset, .unset] [(.int (1 : Int32))]))
    refine own_st (fun _ kS => XS.istore X0.here hx rfl (hb hby at_4) rfl (l' := #[.val (.long q1), .second, .val (.long q2), .second, .val (.int p3), .val (.int (1 : Int32)), .unset, .unset, .unset, .unset, .unset, .unset, .unset, .unset, .unset, .unset]) rfl kS) ?_
    show own_G p.tables e below _ (s₁.setTop (mkF m 6 #[.val (.long q1), .second, .val (.long q2), .second, .val (.int p3), .val (.int (1 : Int32)), .unset, .unset, .unset, .unset, .unset, .unset, .unset, .unset, .unset, .unset] []))
    refine own_st (fun _ kS => XS.iload X0.here hx rfl (hb hby at_6) rfl kS) ?_
    show own_G p.tables e below _ (s₁.setTop (mkF m 8 #[.val (.long q1), .second, .val (.long q2), .second, .val (.int p3), .val (.int (1 : Int32)), .unset, .unset, .unset, .unset, .unset, .unset, .unset, .unset, .unset, .unset] [(.int (1 : Int32))]))
    refine own_st (fun _ kS => XS.ifYes X0.here hx rfl (pc0 := 8) (pc' := 38) rfl (hb hby at_8) rfl ((if0 _ _).trans (feq (by decide : ¬ ((1 : Int32) = (0 : Int32)))).2) (by decide) (by decide) kS) ?_
    show own_G p.tables e below _ (s₁.setTop (mkF m 38 #[.val (.long q1), .second, .val (.long q2), .second, .val (.int p3), .val (.int (1 : Int32)), .unset, .unset, .unset, .unset, .unset, .unset, .unset, .unset, .unset, .unset] []))
    refine own_st (fun _ kS => XS.iload X0.here hx rfl (hb hby at_38) rfl kS) ?_
    show own_G p.tables e below _ (s₁.setTop (mkF m 40 #[.val (.long q1), .second, .val (.long q2), .second, .val (.int p3), .val (.int (1 : Int32)), .unset, .unset, .unset, .unset, .unset, .unset, .unset, .unset, .unset, .unset] [(.int (1 : Int32))]))
    refine own_st (fun _ kS => XS.iconst X0.here hx rfl (hb hby at_40) kS) ?_
    show own_G p.tables e below _ (s₁.setTop (mkF m 41 #[.val (.long q1), .second, .val (.long q2), .second, .val (.int p3), .val (.int (1 : Int32)), .unset, .unset, .unset, .unset, .unset, .unset, .unset, .unset, .unset, .unset] [(.int (1 : Int32)), (.int (1 : Int32))]))
    refine own_st (fun _ kS => XS.icmpNo X0.here hx rfl (hb hby at_41) rfl (teq (by decide : (1 : Int32) = (1 : Int32))).2 kS) ?_
    show own_G p.tables e below _ (s₁.setTop (mkF m 44 #[.val (.long q1), .second, .val (.long q2), .second, .val (.int p3), .val (.int (1 : Int32)), .unset, .unset, .unset, .unset, .unset, .unset, .unset, .unset, .unset, .unset] []))
    refine own_st (fun _ kS => XT.lloadN X0.here hx rfl (hb hby at_44) rfl kS) ?_
    show own_G p.tables e below _ (s₁.setTop (mkF m 45 #[.val (.long q1), .second, .val (.long q2), .second, .val (.int p3), .val (.int (1 : Int32)), .unset, .unset, .unset, .unset, .unset, .unset, .unset, .unset, .unset, .unset] [(.long q1)]))
    refine own_st (fun _ kS => X0.ldc2Long hx hown (mvT hZ (hw _ (List.mem_of_getElem? (i := 28) rfl))) (g := (mkF m 45 #[.val (.long q1), .second, .val (.long q2), .second, .val (.int p3), .val (.int (1 : Int32)), .unset, .unset, .unset, .unset, .unset, .unset, .unset, .unset, .unset, .unset] [(.long q1)])) rfl (hb hby at_45) _ kS) ?_
    show own_G p.tables e below _ (s₁.setTop (mkF m 48 #[.val (.long q1), .second, .val (.long q2), .second, .val (.int p3), .val (.int (1 : Int32)), .unset, .unset, .unset, .unset, .unset, .unset, .unset, .unset, .unset, .unset] [(.long (1099511627775 : Int64)), (.long q1)]))
    refine own_st (fun _ kS => XT.land X0.here hx rfl (hb hby at_48) rfl kS) ?_
    show own_G p.tables e below _ (s₁.setTop (mkF m 49 #[.val (.long q1), .second, .val (.long q2), .second, .val (.int p3), .val (.int (1 : Int32)), .unset, .unset, .unset, .unset, .unset, .unset, .unset, .unset, .unset, .unset] [(.long (q1 &&& (1099511627775 : Int64)))]))
    refine own_st (fun _ kS => XT.lconst X0.here hx rfl (hb hby at_49) kS) ?_
    show own_G p.tables e below _ (s₁.setTop (mkF m 50 #[.val (.long q1), .second, .val (.long q2), .second, .val (.int p3), .val (.int (1 : Int32)), .unset, .unset, .unset, .unset, .unset, .unset, .unset, .unset, .unset, .unset] [(.long (1 : Int64)), (.long (q1 &&& (1099511627775 : Int64)))]))
    refine own_st (fun _ kS => XT.ladd X0.here hx rfl (hb hby at_50) rfl kS) ?_
    show own_G p.tables e below _ (s₁.setTop (mkF m 51 #[.val (.long q1), .second, .val (.long q2), .second, .val (.int p3), .val (.int (1 : Int32)), .unset, .unset, .unset, .unset, .unset, .unset, .unset, .unset, .unset, .unset] [(.long ((q1 &&& (1099511627775 : Int64)) + (1 : Int64)))]))
    refine own_st (fun _ kS => XT.lstore X0.here hx rfl (hb hby at_51) rfl (l' := #[.val (.long q1), .second, .val (.long q2), .second, .val (.int p3), .val (.int (1 : Int32)), .val (.long ((q1 &&& (1099511627775 : Int64)) + (1 : Int64))), .second, .unset, .unset, .unset, .unset, .unset, .unset, .unset, .unset]) rfl kS) ?_
    show own_G p.tables e below _ (s₁.setTop (mkF m 53 #[.val (.long q1), .second, .val (.long q2), .second, .val (.int p3), .val (.int (1 : Int32)), .val (.long ((q1 &&& (1099511627775 : Int64)) + (1 : Int64))), .second, .unset, .unset, .unset, .unset, .unset, .unset, .unset, .unset] []))
    refine own_st (fun _ kS => XS.goto X0.here hx rfl (pc0 := 53) (pc' := 87) rfl (hb hby at_53) (by decide) (by decide) kS) ?_
    show own_G p.tables e below _ (s₁.setTop (mkF m 87 #[.val (.long q1), .second, .val (.long q2), .second, .val (.int p3), .val (.int (1 : Int32)), .val (.long ((q1 &&& (1099511627775 : Int64)) + (1 : Int64))), .second, .unset, .unset, .unset, .unset, .unset, .unset, .unset, .unset] []))
    refine own_st (fun _ kS => XS.iload X0.here hx rfl (hb hby at_87) rfl kS) ?_
    show own_G p.tables e below _ (s₁.setTop (mkF m 89 #[.val (.long q1), .second, .val (.long q2), .second, .val (.int p3), .val (.int (1 : Int32)), .val (.long ((q1 &&& (1099511627775 : Int64)) + (1 : Int64))), .second, .unset, .unset, .unset, .unset, .unset, .unset, .unset, .unset] [(.int (1 : Int32))]))
    refine own_st (fun _ kS => XS.iconst X0.here hx rfl (hb hby at_89) kS) ?_
    show own_G p.tables e below _ (s₁.setTop (mkF m 90 #[.val (.long q1), .second, .val (.long q2), .second, .val (.int p3), .val (.int (1 : Int32)), .val (.long ((q1 &&& (1099511627775 : Int64)) + (1 : Int64))), .second, .unset, .unset, .unset, .unset, .unset, .unset, .unset, .unset] [(.int (3 : Int32)), (.int (1 : Int32))]))
    refine own_st (fun _ kS => XS.icmpYes X0.here hx rfl (pc0 := 90) (pc' := 114) rfl (hb hby at_90) rfl (feq (by decide : ¬ ((1 : Int32) = (3 : Int32)))).2 (by decide) (by decide) kS) ?_
    show own_G p.tables e below _ (s₁.setTop (mkF m 114 #[.val (.long q1), .second, .val (.long q2), .second, .val (.int p3), .val (.int (1 : Int32)), .val (.long ((q1 &&& (1099511627775 : Int64)) + (1 : Int64))), .second, .unset, .unset, .unset, .unset, .unset, .unset, .unset, .unset] []))
    refine own_st (fun _ kS => XT.lloadN X0.here hx rfl (hb hby at_114) rfl kS) ?_
    show own_G p.tables e below _ (s₁.setTop (mkF m 115 #[.val (.long q1), .second, .val (.long q2), .second, .val (.int p3), .val (.int (1 : Int32)), .val (.long ((q1 &&& (1099511627775 : Int64)) + (1 : Int64))), .second, .unset, .unset, .unset, .unset, .unset, .unset, .unset, .unset] [(.long q2)]))
    refine own_st (fun _ kS => X0.ldc2Long hx hown (mvT hZ (hw _ (List.mem_of_getElem? (i := 29) rfl))) (g := (mkF m 115 #[.val (.long q1), .second, .val (.long q2), .second, .val (.int p3), .val (.int (1 : Int32)), .val (.long ((q1 &&& (1099511627775 : Int64)) + (1 : Int64))), .second, .unset, .unset, .unset, .unset, .unset, .unset, .unset, .unset] [(.long q2)])) rfl (hb hby at_115) _ kS) ?_
    show own_G p.tables e below _ (s₁.setTop (mkF m 118 #[.val (.long q1), .second, .val (.long q2), .second, .val (.int p3), .val (.int (1 : Int32)), .val (.long ((q1 &&& (1099511627775 : Int64)) + (1 : Int64))), .second, .unset, .unset, .unset, .unset, .unset, .unset, .unset, .unset] [(.long (9223372036854775807 : Int64)), (.long q2)]))
    refine own_st (fun _ kS => XT.land X0.here hx rfl (hb hby at_118) rfl kS) ?_
    show own_G p.tables e below _ (s₁.setTop (mkF m 119 #[.val (.long q1), .second, .val (.long q2), .second, .val (.int p3), .val (.int (1 : Int32)), .val (.long ((q1 &&& (1099511627775 : Int64)) + (1 : Int64))), .second, .unset, .unset, .unset, .unset, .unset, .unset, .unset, .unset] [(.long (q2 &&& (9223372036854775807 : Int64)))]))
    refine own_st (fun _ kS => XT.lload X0.here hx rfl (hb hby at_119) rfl kS) ?_
    show own_G p.tables e below _ (s₁.setTop (mkF m 121 #[.val (.long q1), .second, .val (.long q2), .second, .val (.int p3), .val (.int (1 : Int32)), .val (.long ((q1 &&& (1099511627775 : Int64)) + (1 : Int64))), .second, .unset, .unset, .unset, .unset, .unset, .unset, .unset, .unset] [(.long ((q1 &&& (1099511627775 : Int64)) + (1 : Int64))), (.long (q2 &&& (9223372036854775807 : Int64)))]))
    refine own_st (fun _ kS => XT.lconst X0.here hx rfl (hb hby at_121) kS) ?_
    show own_G p.tables e below _ (s₁.setTop (mkF m 122 #[.val (.long q1), .second, .val (.long q2), .second, .val (.int p3), .val (.int (1 : Int32)), .val (.long ((q1 &&& (1099511627775 : Int64)) + (1 : Int64))), .second, .unset, .unset, .unset, .unset, .unset, .unset, .unset, .unset] [(.long (1 : Int64)), (.long ((q1 &&& (1099511627775 : Int64)) + (1 : Int64))), (.long (q2 &&& (9223372036854775807 : Int64)))]))
    refine own_st (fun _ kS => XT.ladd X0.here hx rfl (hb hby at_122) rfl kS) ?_
    show own_G p.tables e below _ (s₁.setTop (mkF m 123 #[.val (.long q1), .second, .val (.long q2), .second, .val (.int p3), .val (.int (1 : Int32)), .val (.long ((q1 &&& (1099511627775 : Int64)) + (1 : Int64))), .second, .unset, .unset, .unset, .unset, .unset, .unset, .unset, .unset] [(.long (((q1 &&& (1099511627775 : Int64)) + (1 : Int64)) + (1 : Int64))), (.long (q2 &&& (9223372036854775807 : Int64)))]))
    refine own_st (fun _ kS => XT.lrem X0.here hx rfl (hb hby at_123) rfl (own_n1 q1) kS) ?_
    show own_G p.tables e below _ (s₁.setTop (mkF m 124 #[.val (.long q1), .second, .val (.long q2), .second, .val (.int p3), .val (.int (1 : Int32)), .val (.long ((q1 &&& (1099511627775 : Int64)) + (1 : Int64))), .second, .unset, .unset, .unset, .unset, .unset, .unset, .unset, .unset] [(.long ((q2 &&& (9223372036854775807 : Int64)) - ((q2 &&& (9223372036854775807 : Int64)) / (((q1 &&& (1099511627775 : Int64)) + (1 : Int64)) + (1 : Int64))) * (((q1 &&& (1099511627775 : Int64)) + (1 : Int64)) + (1 : Int64))))]))
    refine own_st (fun _ kS => XT.lstore X0.here hx rfl (hb hby at_124) rfl (l' := #[.val (.long q1), .second, .val (.long q2), .second, .val (.int p3), .val (.int (1 : Int32)), .val (.long ((q1 &&& (1099511627775 : Int64)) + (1 : Int64))), .second, .val (.long ((q2 &&& (9223372036854775807 : Int64)) - ((q2 &&& (9223372036854775807 : Int64)) / (((q1 &&& (1099511627775 : Int64)) + (1 : Int64)) + (1 : Int64))) * (((q1 &&& (1099511627775 : Int64)) + (1 : Int64)) + (1 : Int64)))), .second, .unset, .unset, .unset, .unset, .unset, .unset]) rfl kS) ?_
    show own_G p.tables e below _ (s₁.setTop (mkF m 126 #[.val (.long q1), .second, .val (.long q2), .second, .val (.int p3), .val (.int (1 : Int32)), .val (.long ((q1 &&& (1099511627775 : Int64)) + (1 : Int64))), .second, .val (.long ((q2 &&& (9223372036854775807 : Int64)) - ((q2 &&& (9223372036854775807 : Int64)) / (((q1 &&& (1099511627775 : Int64)) + (1 : Int64)) + (1 : Int64))) * (((q1 &&& (1099511627775 : Int64)) + (1 : Int64)) + (1 : Int64)))), .second, .unset, .unset, .unset, .unset, .unset, .unset] []))
    exact sg_F hx hby hml hown hlk hret hZ hw Z0  X0 e0 N0 O0 q1 q2 p3 (1 : Int32) ((q1 &&& (1099511627775 : Int64)) + (1 : Int64)) ((q2 &&& (9223372036854775807 : Int64)) - ((q2 &&& (9223372036854775807 : Int64)) / (((q1 &&& (1099511627775 : Int64)) + (1 : Int64)) + (1 : Int64))) * (((q1 &&& (1099511627775 : Int64)) + (1 : Int64)) + (1 : Int64))) (own_t1 q1).1 (own_t1 q1).2 (own_u1 q1 q2).1 (own_u1 q1 q2).2
  · rw [hk1]
    show own_G p.tables e below _ (s₁.setTop (mkF m 4 #[.val (.long q1), .second, .val (.long q2), .second, .val (.int p3), .unset, .unset, .unset, .unset, .unset, .unset, .unset, .unset, .unset, .unset, .unset] [(.int (2 : Int32))]))
    refine own_st (fun _ kS => XS.istore X0.here hx rfl (hb hby at_4) rfl (l' := #[.val (.long q1), .second, .val (.long q2), .second, .val (.int p3), .val (.int (2 : Int32)), .unset, .unset, .unset, .unset, .unset, .unset, .unset, .unset, .unset, .unset]) rfl kS) ?_
    show own_G p.tables e below _ (s₁.setTop (mkF m 6 #[.val (.long q1), .second, .val (.long q2), .second, .val (.int p3), .val (.int (2 : Int32)), .unset, .unset, .unset, .unset, .unset, .unset, .unset, .unset, .unset, .unset] []))
    refine own_st (fun _ kS => XS.iload X0.here hx rfl (hb hby at_6) rfl kS) ?_
    show own_G p.tables e below _ (s₁.setTop (mkF m 8 #[.val (.long q1), .second, .val (.long q2), .second, .val (.int p3), .val (.int (2 : Int32)), .unset, .unset, .unset, .unset, .unset, .unset, .unset, .unset, .unset, .unset] [(.int (2 : Int32))]))
    refine own_st (fun _ kS => XS.ifYes X0.here hx rfl (pc0 := 8) (pc' := 38) rfl (hb hby at_8) rfl ((if0 _ _).trans (feq (by decide : ¬ ((2 : Int32) = (0 : Int32)))).2) (by decide) (by decide) kS) ?_
    show own_G p.tables e below _ (s₁.setTop (mkF m 38 #[.val (.long q1), .second, .val (.long q2), .second, .val (.int p3), .val (.int (2 : Int32)), .unset, .unset, .unset, .unset, .unset, .unset, .unset, .unset, .unset, .unset] []))
    refine own_st (fun _ kS => XS.iload X0.here hx rfl (hb hby at_38) rfl kS) ?_
    show own_G p.tables e below _ (s₁.setTop (mkF m 40 #[.val (.long q1), .second, .val (.long q2), .second, .val (.int p3), .val (.int (2 : Int32)), .unset, .unset, .unset, .unset, .unset, .unset, .unset, .unset, .unset, .unset] [(.int (2 : Int32))]))
    refine own_st (fun _ kS => XS.iconst X0.here hx rfl (hb hby at_40) kS) ?_
    show own_G p.tables e below _ (s₁.setTop (mkF m 41 #[.val (.long q1), .second, .val (.long q2), .second, .val (.int p3), .val (.int (2 : Int32)), .unset, .unset, .unset, .unset, .unset, .unset, .unset, .unset, .unset, .unset] [(.int (1 : Int32)), (.int (2 : Int32))]))
    refine own_st (fun _ kS => XS.icmpYes X0.here hx rfl (pc0 := 41) (pc' := 56) rfl (hb hby at_41) rfl (feq (by decide : ¬ ((2 : Int32) = (1 : Int32)))).2 (by decide) (by decide) kS) ?_
    show own_G p.tables e below _ (s₁.setTop (mkF m 56 #[.val (.long q1), .second, .val (.long q2), .second, .val (.int p3), .val (.int (2 : Int32)), .unset, .unset, .unset, .unset, .unset, .unset, .unset, .unset, .unset, .unset] []))
    refine own_st (fun _ kS => XS.iload X0.here hx rfl (hb hby at_56) rfl kS) ?_
    show own_G p.tables e below _ (s₁.setTop (mkF m 58 #[.val (.long q1), .second, .val (.long q2), .second, .val (.int p3), .val (.int (2 : Int32)), .unset, .unset, .unset, .unset, .unset, .unset, .unset, .unset, .unset, .unset] [(.int (2 : Int32))]))
    refine own_st (fun _ kS => XS.iconst X0.here hx rfl (hb hby at_58) kS) ?_
    show own_G p.tables e below _ (s₁.setTop (mkF m 59 #[.val (.long q1), .second, .val (.long q2), .second, .val (.int p3), .val (.int (2 : Int32)), .unset, .unset, .unset, .unset, .unset, .unset, .unset, .unset, .unset, .unset] [(.int (2 : Int32)), (.int (2 : Int32))]))
    refine own_st (fun _ kS => XS.icmpNo X0.here hx rfl (hb hby at_59) rfl (teq (by decide : (2 : Int32) = (2 : Int32))).2 kS) ?_
    show own_G p.tables e below _ (s₁.setTop (mkF m 62 #[.val (.long q1), .second, .val (.long q2), .second, .val (.int p3), .val (.int (2 : Int32)), .unset, .unset, .unset, .unset, .unset, .unset, .unset, .unset, .unset, .unset] []))
    refine own_st (fun _ kS => XT.lloadN X0.here hx rfl (hb hby at_62) rfl kS) ?_
    show own_G p.tables e below _ (s₁.setTop (mkF m 63 #[.val (.long q1), .second, .val (.long q2), .second, .val (.int p3), .val (.int (2 : Int32)), .unset, .unset, .unset, .unset, .unset, .unset, .unset, .unset, .unset, .unset] [(.long q1)]))
    refine own_st (fun _ kS => X0.ldc2Long hx hown (mvT hZ (hw _ (List.mem_of_getElem? (i := 30) rfl))) (g := (mkF m 63 #[.val (.long q1), .second, .val (.long q2), .second, .val (.int p3), .val (.int (2 : Int32)), .unset, .unset, .unset, .unset, .unset, .unset, .unset, .unset, .unset, .unset] [(.long q1)])) rfl (hb hby at_63) _ kS) ?_
    show own_G p.tables e below _ (s₁.setTop (mkF m 66 #[.val (.long q1), .second, .val (.long q2), .second, .val (.int p3), .val (.int (2 : Int32)), .unset, .unset, .unset, .unset, .unset, .unset, .unset, .unset, .unset, .unset] [(.long (255 : Int64)), (.long q1)]))
    refine own_st (fun _ kS => XT.land X0.here hx rfl (hb hby at_66) rfl kS) ?_
    show own_G p.tables e below _ (s₁.setTop (mkF m 67 #[.val (.long q1), .second, .val (.long q2), .second, .val (.int p3), .val (.int (2 : Int32)), .unset, .unset, .unset, .unset, .unset, .unset, .unset, .unset, .unset, .unset] [(.long (q1 &&& (255 : Int64)))]))
    refine own_st (fun _ kS => XT.lconst X0.here hx rfl (hb hby at_67) kS) ?_
    show own_G p.tables e below _ (s₁.setTop (mkF m 68 #[.val (.long q1), .second, .val (.long q2), .second, .val (.int p3), .val (.int (2 : Int32)), .unset, .unset, .unset, .unset, .unset, .unset, .unset, .unset, .unset, .unset] [(.long (1 : Int64)), (.long (q1 &&& (255 : Int64)))]))
    refine own_st (fun _ kS => XT.ladd X0.here hx rfl (hb hby at_68) rfl kS) ?_
    show own_G p.tables e below _ (s₁.setTop (mkF m 69 #[.val (.long q1), .second, .val (.long q2), .second, .val (.int p3), .val (.int (2 : Int32)), .unset, .unset, .unset, .unset, .unset, .unset, .unset, .unset, .unset, .unset] [(.long ((q1 &&& (255 : Int64)) + (1 : Int64)))]))
    refine own_st (fun _ kS => XT.lstore X0.here hx rfl (hb hby at_69) rfl (l' := #[.val (.long q1), .second, .val (.long q2), .second, .val (.int p3), .val (.int (2 : Int32)), .val (.long ((q1 &&& (255 : Int64)) + (1 : Int64))), .second, .unset, .unset, .unset, .unset, .unset, .unset, .unset, .unset]) rfl kS) ?_
    show own_G p.tables e below _ (s₁.setTop (mkF m 71 #[.val (.long q1), .second, .val (.long q2), .second, .val (.int p3), .val (.int (2 : Int32)), .val (.long ((q1 &&& (255 : Int64)) + (1 : Int64))), .second, .unset, .unset, .unset, .unset, .unset, .unset, .unset, .unset] []))
    refine own_st (fun _ kS => XS.goto X0.here hx rfl (pc0 := 71) (pc' := 87) rfl (hb hby at_71) (by decide) (by decide) kS) ?_
    show own_G p.tables e below _ (s₁.setTop (mkF m 87 #[.val (.long q1), .second, .val (.long q2), .second, .val (.int p3), .val (.int (2 : Int32)), .val (.long ((q1 &&& (255 : Int64)) + (1 : Int64))), .second, .unset, .unset, .unset, .unset, .unset, .unset, .unset, .unset] []))
    refine own_st (fun _ kS => XS.iload X0.here hx rfl (hb hby at_87) rfl kS) ?_
    show own_G p.tables e below _ (s₁.setTop (mkF m 89 #[.val (.long q1), .second, .val (.long q2), .second, .val (.int p3), .val (.int (2 : Int32)), .val (.long ((q1 &&& (255 : Int64)) + (1 : Int64))), .second, .unset, .unset, .unset, .unset, .unset, .unset, .unset, .unset] [(.int (2 : Int32))]))
    refine own_st (fun _ kS => XS.iconst X0.here hx rfl (hb hby at_89) kS) ?_
    show own_G p.tables e below _ (s₁.setTop (mkF m 90 #[.val (.long q1), .second, .val (.long q2), .second, .val (.int p3), .val (.int (2 : Int32)), .val (.long ((q1 &&& (255 : Int64)) + (1 : Int64))), .second, .unset, .unset, .unset, .unset, .unset, .unset, .unset, .unset] [(.int (3 : Int32)), (.int (2 : Int32))]))
    refine own_st (fun _ kS => XS.icmpYes X0.here hx rfl (pc0 := 90) (pc' := 114) rfl (hb hby at_90) rfl (feq (by decide : ¬ ((2 : Int32) = (3 : Int32)))).2 (by decide) (by decide) kS) ?_
    show own_G p.tables e below _ (s₁.setTop (mkF m 114 #[.val (.long q1), .second, .val (.long q2), .second, .val (.int p3), .val (.int (2 : Int32)), .val (.long ((q1 &&& (255 : Int64)) + (1 : Int64))), .second, .unset, .unset, .unset, .unset, .unset, .unset, .unset, .unset] []))
    refine own_st (fun _ kS => XT.lloadN X0.here hx rfl (hb hby at_114) rfl kS) ?_
    show own_G p.tables e below _ (s₁.setTop (mkF m 115 #[.val (.long q1), .second, .val (.long q2), .second, .val (.int p3), .val (.int (2 : Int32)), .val (.long ((q1 &&& (255 : Int64)) + (1 : Int64))), .second, .unset, .unset, .unset, .unset, .unset, .unset, .unset, .unset] [(.long q2)]))
    refine own_st (fun _ kS => X0.ldc2Long hx hown (mvT hZ (hw _ (List.mem_of_getElem? (i := 29) rfl))) (g := (mkF m 115 #[.val (.long q1), .second, .val (.long q2), .second, .val (.int p3), .val (.int (2 : Int32)), .val (.long ((q1 &&& (255 : Int64)) + (1 : Int64))), .second, .unset, .unset, .unset, .unset, .unset, .unset, .unset, .unset] [(.long q2)])) rfl (hb hby at_115) _ kS) ?_
    show own_G p.tables e below _ (s₁.setTop (mkF m 118 #[.val (.long q1), .second, .val (.long q2), .second, .val (.int p3), .val (.int (2 : Int32)), .val (.long ((q1 &&& (255 : Int64)) + (1 : Int64))), .second, .unset, .unset, .unset, .unset, .unset, .unset, .unset, .unset] [(.long (9223372036854775807 : Int64)), (.long q2)]))
    refine own_st (fun _ kS => XT.land X0.here hx rfl (hb hby at_118) rfl kS) ?_
    show own_G p.tables e below _ (s₁.setTop (mkF m 119 #[.val (.long q1), .second, .val (.long q2), .second, .val (.int p3), .val (.int (2 : Int32)), .val (.long ((q1 &&& (255 : Int64)) + (1 : Int64))), .second, .unset, .unset, .unset, .unset, .unset, .unset, .unset, .unset] [(.long (q2 &&& (9223372036854775807 : Int64)))]))
    refine own_st (fun _ kS => XT.lload X0.here hx rfl (hb hby at_119) rfl kS) ?_
    show own_G p.tables e below _ (s₁.setTop (mkF m 121 #[.val (.long q1), .second, .val (.long q2), .second, .val (.int p3), .val (.int (2 : Int32)), .val (.long ((q1 &&& (255 : Int64)) + (1 : Int64))), .second, .unset, .unset, .unset, .unset, .unset, .unset, .unset, .unset] [(.long ((q1 &&& (255 : Int64)) + (1 : Int64))), (.long (q2 &&& (9223372036854775807 : Int64)))]))
    refine own_st (fun _ kS => XT.lconst X0.here hx rfl (hb hby at_121) kS) ?_
    show own_G p.tables e below _ (s₁.setTop (mkF m 122 #[.val (.long q1), .second, .val (.long q2), .second, .val (.int p3), .val (.int (2 : Int32)), .val (.long ((q1 &&& (255 : Int64)) + (1 : Int64))), .second, .unset, .unset, .unset, .unset, .unset, .unset, .unset, .unset] [(.long (1 : Int64)), (.long ((q1 &&& (255 : Int64)) + (1 : Int64))), (.long (q2 &&& (9223372036854775807 : Int64)))]))
    refine own_st (fun _ kS => XT.ladd X0.here hx rfl (hb hby at_122) rfl kS) ?_
    show own_G p.tables e below _ (s₁.setTop (mkF m 123 #[.val (.long q1), .second, .val (.long q2), .second, .val (.int p3), .val (.int (2 : Int32)), .val (.long ((q1 &&& (255 : Int64)) + (1 : Int64))), .second, .unset, .unset, .unset, .unset, .unset, .unset, .unset, .unset] [(.long (((q1 &&& (255 : Int64)) + (1 : Int64)) + (1 : Int64))), (.long (q2 &&& (9223372036854775807 : Int64)))]))
    refine own_st (fun _ kS => XT.lrem X0.here hx rfl (hb hby at_123) rfl (own_n2 q1) kS) ?_
    show own_G p.tables e below _ (s₁.setTop (mkF m 124 #[.val (.long q1), .second, .val (.long q2), .second, .val (.int p3), .val (.int (2 : Int32)), .val (.long ((q1 &&& (255 : Int64)) + (1 : Int64))), .second, .unset, .unset, .unset, .unset, .unset, .unset, .unset, .unset] [(.long ((q2 &&& (9223372036854775807 : Int64)) - ((q2 &&& (9223372036854775807 : Int64)) / (((q1 &&& (255 : Int64)) + (1 : Int64)) + (1 : Int64))) * (((q1 &&& (255 : Int64)) + (1 : Int64)) + (1 : Int64))))]))
    refine own_st (fun _ kS => XT.lstore X0.here hx rfl (hb hby at_124) rfl (l' := #[.val (.long q1), .second, .val (.long q2), .second, .val (.int p3), .val (.int (2 : Int32)), .val (.long ((q1 &&& (255 : Int64)) + (1 : Int64))), .second, .val (.long ((q2 &&& (9223372036854775807 : Int64)) - ((q2 &&& (9223372036854775807 : Int64)) / (((q1 &&& (255 : Int64)) + (1 : Int64)) + (1 : Int64))) * (((q1 &&& (255 : Int64)) + (1 : Int64)) + (1 : Int64)))), .second, .unset, .unset, .unset, .unset, .unset, .unset]) rfl kS) ?_
    show own_G p.tables e below _ (s₁.setTop (mkF m 126 #[.val (.long q1), .second, .val (.long q2), .second, .val (.int p3), .val (.int (2 : Int32)), .val (.long ((q1 &&& (255 : Int64)) + (1 : Int64))), .second, .val (.long ((q2 &&& (9223372036854775807 : Int64)) - ((q2 &&& (9223372036854775807 : Int64)) / (((q1 &&& (255 : Int64)) + (1 : Int64)) + (1 : Int64))) * (((q1 &&& (255 : Int64)) + (1 : Int64)) + (1 : Int64)))), .second, .unset, .unset, .unset, .unset, .unset, .unset] []))
    exact sg_F hx hby hml hown hlk hret hZ hw Z0  X0 e0 N0 O0 q1 q2 p3 (2 : Int32) ((q1 &&& (255 : Int64)) + (1 : Int64)) ((q2 &&& (9223372036854775807 : Int64)) - ((q2 &&& (9223372036854775807 : Int64)) / (((q1 &&& (255 : Int64)) + (1 : Int64)) + (1 : Int64))) * (((q1 &&& (255 : Int64)) + (1 : Int64)) + (1 : Int64))) (own_t2 q1).1 (own_t2 q1).2 (own_u2 q1 q2).1 (own_u2 q1 q2).2
  · rw [hk1]
    show own_G p.tables e below _ (s₁.setTop (mkF m 4 #[.val (.long q1), .second, .val (.long q2), .second, .val (.int p3), .unset, .unset, .unset, .unset, .unset, .unset, .unset, .unset, .unset, .unset, .unset] [(.int (3 : Int32))]))
    refine own_st (fun _ kS => XS.istore X0.here hx rfl (hb hby at_4) rfl (l' := #[.val (.long q1), .second, .val (.long q2), .second, .val (.int p3), .val (.int (3 : Int32)), .unset, .unset, .unset, .unset, .unset, .unset, .unset, .unset, .unset, .unset]) rfl kS) ?_
    show own_G p.tables e below _ (s₁.setTop (mkF m 6 #[.val (.long q1), .second, .val (.long q2), .second, .val (.int p3), .val (.int (3 : Int32)), .unset, .unset, .unset, .unset, .unset, .unset, .unset, .unset, .unset, .unset] []))
    refine own_st (fun _ kS => XS.iload X0.here hx rfl (hb hby at_6) rfl kS) ?_
    show own_G p.tables e below _ (s₁.setTop (mkF m 8 #[.val (.long q1), .second, .val (.long q2), .second, .val (.int p3), .val (.int (3 : Int32)), .unset, .unset, .unset, .unset, .unset, .unset, .unset, .unset, .unset, .unset] [(.int (3 : Int32))]))
    refine own_st (fun _ kS => XS.ifYes X0.here hx rfl (pc0 := 8) (pc' := 38) rfl (hb hby at_8) rfl ((if0 _ _).trans (feq (by decide : ¬ ((3 : Int32) = (0 : Int32)))).2) (by decide) (by decide) kS) ?_
    show own_G p.tables e below _ (s₁.setTop (mkF m 38 #[.val (.long q1), .second, .val (.long q2), .second, .val (.int p3), .val (.int (3 : Int32)), .unset, .unset, .unset, .unset, .unset, .unset, .unset, .unset, .unset, .unset] []))
    refine own_st (fun _ kS => XS.iload X0.here hx rfl (hb hby at_38) rfl kS) ?_
    show own_G p.tables e below _ (s₁.setTop (mkF m 40 #[.val (.long q1), .second, .val (.long q2), .second, .val (.int p3), .val (.int (3 : Int32)), .unset, .unset, .unset, .unset, .unset, .unset, .unset, .unset, .unset, .unset] [(.int (3 : Int32))]))
    refine own_st (fun _ kS => XS.iconst X0.here hx rfl (hb hby at_40) kS) ?_
    show own_G p.tables e below _ (s₁.setTop (mkF m 41 #[.val (.long q1), .second, .val (.long q2), .second, .val (.int p3), .val (.int (3 : Int32)), .unset, .unset, .unset, .unset, .unset, .unset, .unset, .unset, .unset, .unset] [(.int (1 : Int32)), (.int (3 : Int32))]))
    refine own_st (fun _ kS => XS.icmpYes X0.here hx rfl (pc0 := 41) (pc' := 56) rfl (hb hby at_41) rfl (feq (by decide : ¬ ((3 : Int32) = (1 : Int32)))).2 (by decide) (by decide) kS) ?_
    show own_G p.tables e below _ (s₁.setTop (mkF m 56 #[.val (.long q1), .second, .val (.long q2), .second, .val (.int p3), .val (.int (3 : Int32)), .unset, .unset, .unset, .unset, .unset, .unset, .unset, .unset, .unset, .unset] []))
    refine own_st (fun _ kS => XS.iload X0.here hx rfl (hb hby at_56) rfl kS) ?_
    show own_G p.tables e below _ (s₁.setTop (mkF m 58 #[.val (.long q1), .second, .val (.long q2), .second, .val (.int p3), .val (.int (3 : Int32)), .unset, .unset, .unset, .unset, .unset, .unset, .unset, .unset, .unset, .unset] [(.int (3 : Int32))]))
    refine own_st (fun _ kS => XS.iconst X0.here hx rfl (hb hby at_58) kS) ?_
    show own_G p.tables e below _ (s₁.setTop (mkF m 59 #[.val (.long q1), .second, .val (.long q2), .second, .val (.int p3), .val (.int (3 : Int32)), .unset, .unset, .unset, .unset, .unset, .unset, .unset, .unset, .unset, .unset] [(.int (2 : Int32)), (.int (3 : Int32))]))
    refine own_st (fun _ kS => XS.icmpYes X0.here hx rfl (pc0 := 59) (pc' := 74) rfl (hb hby at_59) rfl (feq (by decide : ¬ ((3 : Int32) = (2 : Int32)))).2 (by decide) (by decide) kS) ?_
    show own_G p.tables e below _ (s₁.setTop (mkF m 74 #[.val (.long q1), .second, .val (.long q2), .second, .val (.int p3), .val (.int (3 : Int32)), .unset, .unset, .unset, .unset, .unset, .unset, .unset, .unset, .unset, .unset] []))
    refine own_st (fun _ kS => X0.ldc2Long hx hown (mvT hZ (hw _ (List.mem_of_getElem? (i := 23) rfl))) (g := (mkF m 74 #[.val (.long q1), .second, .val (.long q2), .second, .val (.int p3), .val (.int (3 : Int32)), .unset, .unset, .unset, .unset, .unset, .unset, .unset, .unset, .unset, .unset] [])) rfl (hb hby at_74) _ kS) ?_
    show own_G p.tables e below _ (s₁.setTop (mkF m 77 #[.val (.long q1), .second, .val (.long q2), .second, .val (.int p3), .val (.int (3 : Int32)), .unset, .unset, .unset, .unset, .unset, .unset, .unset, .unset, .unset, .unset] [(.long (100 : Int64))]))
    refine own_st (fun _ kS => XT.lloadN X0.here hx rfl (hb hby at_77) rfl kS) ?_
    show own_G p.tables e below _ (s₁.setTop (mkF m 78 #[.val (.long q1), .second, .val (.long q2), .second, .val (.int p3), .val (.int (3 : Int32)), .unset, .unset, .unset, .unset, .unset, .unset, .unset, .unset, .unset, .unset] [(.long q1), (.long (100 : Int64))]))
    refine own_st (fun _ kS => X0.ldc2Long hx hown (mvT hZ (hw _ (List.mem_of_getElem? (i := 24) rfl))) (g := (mkF m 78 #[.val (.long q1), .second, .val (.long q2), .second, .val (.int p3), .val (.int (3 : Int32)), .unset, .unset, .unset, .unset, .unset, .unset, .unset, .unset, .unset, .unset] [(.long q1), (.long (100 : Int64))])) rfl (hb hby at_78) _ kS) ?_
    show own_G p.tables e below _ (s₁.setTop (mkF m 81 #[.val (.long q1), .second, .val (.long q2), .second, .val (.int p3), .val (.int (3 : Int32)), .unset, .unset, .unset, .unset, .unset, .unset, .unset, .unset, .unset, .unset] [(.long (8589934591 : Int64)), (.long q1), (.long (100 : Int64))]))
    refine own_st (fun _ kS => XT.land X0.here hx rfl (hb hby at_81) rfl kS) ?_
    show own_G p.tables e below _ (s₁.setTop (mkF m 82 #[.val (.long q1), .second, .val (.long q2), .second, .val (.int p3), .val (.int (3 : Int32)), .unset, .unset, .unset, .unset, .unset, .unset, .unset, .unset, .unset, .unset] [(.long (q1 &&& (8589934591 : Int64))), (.long (100 : Int64))]))
    refine own_st (fun _ kS => XT.lconst X0.here hx rfl (hb hby at_82) kS) ?_
    show own_G p.tables e below _ (s₁.setTop (mkF m 83 #[.val (.long q1), .second, .val (.long q2), .second, .val (.int p3), .val (.int (3 : Int32)), .unset, .unset, .unset, .unset, .unset, .unset, .unset, .unset, .unset, .unset] [(.long (1 : Int64)), (.long (q1 &&& (8589934591 : Int64))), (.long (100 : Int64))]))
    refine own_st (fun _ kS => XT.ladd X0.here hx rfl (hb hby at_83) rfl kS) ?_
    show own_G p.tables e below _ (s₁.setTop (mkF m 84 #[.val (.long q1), .second, .val (.long q2), .second, .val (.int p3), .val (.int (3 : Int32)), .unset, .unset, .unset, .unset, .unset, .unset, .unset, .unset, .unset, .unset] [(.long ((q1 &&& (8589934591 : Int64)) + (1 : Int64))), (.long (100 : Int64))]))
    refine own_st (fun _ kS => XT.lmul X0.here hx rfl (hb hby at_84) rfl kS) ?_
    show own_G p.tables e below _ (s₁.setTop (mkF m 85 #[.val (.long q1), .second, .val (.long q2), .second, .val (.int p3), .val (.int (3 : Int32)), .unset, .unset, .unset, .unset, .unset, .unset, .unset, .unset, .unset, .unset] [(.long ((100 : Int64) * ((q1 &&& (8589934591 : Int64)) + (1 : Int64))))]))
    refine own_st (fun _ kS => XT.lstore X0.here hx rfl (hb hby at_85) rfl (l' := #[.val (.long q1), .second, .val (.long q2), .second, .val (.int p3), .val (.int (3 : Int32)), .val (.long ((100 : Int64) * ((q1 &&& (8589934591 : Int64)) + (1 : Int64)))), .second, .unset, .unset, .unset, .unset, .unset, .unset, .unset, .unset]) rfl kS) ?_
    show own_G p.tables e below _ (s₁.setTop (mkF m 87 #[.val (.long q1), .second, .val (.long q2), .second, .val (.int p3), .val (.int (3 : Int32)), .val (.long ((100 : Int64) * ((q1 &&& (8589934591 : Int64)) + (1 : Int64)))), .second, .unset, .unset, .unset, .unset, .unset, .unset, .unset, .unset] []))
    refine own_st (fun _ kS => XS.iload X0.here hx rfl (hb hby at_87) rfl kS) ?_
    show own_G p.tables e below _ (s₁.setTop (mkF m 89 #[.val (.long q1), .second, .val (.long q2), .second, .val (.int p3), .val (.int (3 : Int32)), .val (.long ((100 : Int64) * ((q1 &&& (8589934591 : Int64)) + (1 : Int64)))), .second, .unset, .unset, .unset, .unset, .unset, .unset, .unset, .unset] [(.int (3 : Int32))]))
    refine own_st (fun _ kS => XS.iconst X0.here hx rfl (hb hby at_89) kS) ?_
    show own_G p.tables e below _ (s₁.setTop (mkF m 90 #[.val (.long q1), .second, .val (.long q2), .second, .val (.int p3), .val (.int (3 : Int32)), .val (.long ((100 : Int64) * ((q1 &&& (8589934591 : Int64)) + (1 : Int64)))), .second, .unset, .unset, .unset, .unset, .unset, .unset, .unset, .unset] [(.int (3 : Int32)), (.int (3 : Int32))]))
    refine own_st (fun _ kS => XS.icmpNo X0.here hx rfl (hb hby at_90) rfl (teq (by decide : (3 : Int32) = (3 : Int32))).2 kS) ?_
    show own_G p.tables e below _ (s₁.setTop (mkF m 93 #[.val (.long q1), .second, .val (.long q2), .second, .val (.int p3), .val (.int (3 : Int32)), .val (.long ((100 : Int64) * ((q1 &&& (8589934591 : Int64)) + (1 : Int64)))), .second, .unset, .unset, .unset, .unset, .unset, .unset, .unset, .unset] []))
    refine own_st (fun _ kS => XT.lload X0.here hx rfl (hb hby at_93) rfl kS) ?_
    show own_G p.tables e below _ (s₁.setTop (mkF m 95 #[.val (.long q1), .second, .val (.long q2), .second, .val (.int p3), .val (.int (3 : Int32)), .val (.long ((100 : Int64) * ((q1 &&& (8589934591 : Int64)) + (1 : Int64)))), .second, .unset, .unset, .unset, .unset, .unset, .unset, .unset, .unset] [(.long ((100 : Int64) * ((q1 &&& (8589934591 : Int64)) + (1 : Int64))))]))
    refine own_st (fun _ kS => X0.ldc2Long hx hown (mvT hZ (hw _ (List.mem_of_getElem? (i := 23) rfl))) (g := (mkF m 95 #[.val (.long q1), .second, .val (.long q2), .second, .val (.int p3), .val (.int (3 : Int32)), .val (.long ((100 : Int64) * ((q1 &&& (8589934591 : Int64)) + (1 : Int64)))), .second, .unset, .unset, .unset, .unset, .unset, .unset, .unset, .unset] [(.long ((100 : Int64) * ((q1 &&& (8589934591 : Int64)) + (1 : Int64))))])) rfl (hb hby at_95) _ kS) ?_
    show own_G p.tables e below _ (s₁.setTop (mkF m 98 #[.val (.long q1), .second, .val (.long q2), .second, .val (.int p3), .val (.int (3 : Int32)), .val (.long ((100 : Int64) * ((q1 &&& (8589934591 : Int64)) + (1 : Int64)))), .second, .unset, .unset, .unset, .unset, .unset, .unset, .unset, .unset] [(.long (100 : Int64)), (.long ((100 : Int64) * ((q1 &&& (8589934591 : Int64)) + (1 : Int64))))]))
    refine own_st (fun _ kS => XT.ldiv X0.here hx rfl (hb hby at_98) rfl (by decide) kS) ?_
    show own_G p.tables e below _ (s₁.setTop (mkF m 99 #[.val (.long q1), .second, .val (.long q2), .second, .val (.int p3), .val (.int (3 : Int32)), .val (.long ((100 : Int64) * ((q1 &&& (8589934591 : Int64)) + (1 : Int64)))), .second, .unset, .unset, .unset, .unset, .unset, .unset, .unset, .unset] [(.long (((100 : Int64) * ((q1 &&& (8589934591 : Int64)) + (1 : Int64))) / (100 : Int64)))]))
    refine own_st (fun _ kS => XT.lloadN X0.here hx rfl (hb hby at_99) rfl kS) ?_
    show own_G p.tables e below _ (s₁.setTop (mkF m 100 #[.val (.long q1), .second, .val (.long q2), .second, .val (.int p3), .val (.int (3 : Int32)), .val (.long ((100 : Int64) * ((q1 &&& (8589934591 : Int64)) + (1 : Int64)))), .second, .unset, .unset, .unset, .unset, .unset, .unset, .unset, .unset] [(.long q2), (.long (((100 : Int64) * ((q1 &&& (8589934591 : Int64)) + (1 : Int64))) / (100 : Int64)))]))
    refine own_st (fun _ kS => X0.ldc2Long hx hown (mvT hZ (hw _ (List.mem_of_getElem? (i := 25) rfl))) (g := (mkF m 100 #[.val (.long q1), .second, .val (.long q2), .second, .val (.int p3), .val (.int (3 : Int32)), .val (.long ((100 : Int64) * ((q1 &&& (8589934591 : Int64)) + (1 : Int64)))), .second, .unset, .unset, .unset, .unset, .unset, .unset, .unset, .unset] [(.long q2), (.long (((100 : Int64) * ((q1 &&& (8589934591 : Int64)) + (1 : Int64))) / (100 : Int64)))])) rfl (hb hby at_100) _ kS) ?_
    show own_G p.tables e below _ (s₁.setTop (mkF m 103 #[.val (.long q1), .second, .val (.long q2), .second, .val (.int p3), .val (.int (3 : Int32)), .val (.long ((100 : Int64) * ((q1 &&& (8589934591 : Int64)) + (1 : Int64)))), .second, .unset, .unset, .unset, .unset, .unset, .unset, .unset, .unset] [(.long (2147483647 : Int64)), (.long q2), (.long (((100 : Int64) * ((q1 &&& (8589934591 : Int64)) + (1 : Int64))) / (100 : Int64)))]))
    refine own_st (fun _ kS => XT.land X0.here hx rfl (hb hby at_103) rfl kS) ?_
    show own_G p.tables e below _ (s₁.setTop (mkF m 104 #[.val (.long q1), .second, .val (.long q2), .second, .val (.int p3), .val (.int (3 : Int32)), .val (.long ((100 : Int64) * ((q1 &&& (8589934591 : Int64)) + (1 : Int64)))), .second, .unset, .unset, .unset, .unset, .unset, .unset, .unset, .unset] [(.long (q2 &&& (2147483647 : Int64))), (.long (((100 : Int64) * ((q1 &&& (8589934591 : Int64)) + (1 : Int64))) / (100 : Int64)))]))
    refine own_st (fun _ kS => X0.ldc2Long hx hown (mvT hZ (hw _ (List.mem_of_getElem? (i := 26) rfl))) (g := (mkF m 104 #[.val (.long q1), .second, .val (.long q2), .second, .val (.int p3), .val (.int (3 : Int32)), .val (.long ((100 : Int64) * ((q1 &&& (8589934591 : Int64)) + (1 : Int64)))), .second, .unset, .unset, .unset, .unset, .unset, .unset, .unset, .unset] [(.long (q2 &&& (2147483647 : Int64))), (.long (((100 : Int64) * ((q1 &&& (8589934591 : Int64)) + (1 : Int64))) / (100 : Int64)))])) rfl (hb hby at_104) _ kS) ?_
    show own_G p.tables e below _ (s₁.setTop (mkF m 107 #[.val (.long q1), .second, .val (.long q2), .second, .val (.int p3), .val (.int (3 : Int32)), .val (.long ((100 : Int64) * ((q1 &&& (8589934591 : Int64)) + (1 : Int64)))), .second, .unset, .unset, .unset, .unset, .unset, .unset, .unset, .unset] [(.long (101 : Int64)), (.long (q2 &&& (2147483647 : Int64))), (.long (((100 : Int64) * ((q1 &&& (8589934591 : Int64)) + (1 : Int64))) / (100 : Int64)))]))
    refine own_st (fun _ kS => XT.lrem X0.here hx rfl (hb hby at_107) rfl (by decide) kS) ?_
    show own_G p.tables e below _ (s₁.setTop (mkF m 108 #[.val (.long q1), .second, .val (.long q2), .second, .val (.int p3), .val (.int (3 : Int32)), .val (.long ((100 : Int64) * ((q1 &&& (8589934591 : Int64)) + (1 : Int64)))), .second, .unset, .unset, .unset, .unset, .unset, .unset, .unset, .unset] [(.long ((q2 &&& (2147483647 : Int64)) - ((q2 &&& (2147483647 : Int64)) / (101 : Int64)) * (101 : Int64))), (.long (((100 : Int64) * ((q1 &&& (8589934591 : Int64)) + (1 : Int64))) / (100 : Int64)))]))
    refine own_st (fun _ kS => XT.lmul X0.here hx rfl (hb hby at_108) rfl kS) ?_
    show own_G p.tables e below _ (s₁.setTop (mkF m 109 #[.val (.long q1), .second, .val (.long q2), .second, .val (.int p3), .val (.int (3 : Int32)), .val (.long ((100 : Int64) * ((q1 &&& (8589934591 : Int64)) + (1 : Int64)))), .second, .unset, .unset, .unset, .unset, .unset, .unset, .unset, .unset] [(.long ((((100 : Int64) * ((q1 &&& (8589934591 : Int64)) + (1 : Int64))) / (100 : Int64)) * ((q2 &&& (2147483647 : Int64)) - ((q2 &&& (2147483647 : Int64)) / (101 : Int64)) * (101 : Int64))))]))
    refine own_st (fun _ kS => XT.lstore X0.here hx rfl (hb hby at_109) rfl (l' := #[.val (.long q1), .second, .val (.long q2), .second, .val (.int p3), .val (.int (3 : Int32)), .val (.long ((100 : Int64) * ((q1 &&& (8589934591 : Int64)) + (1 : Int64)))), .second, .val (.long ((((100 : Int64) * ((q1 &&& (8589934591 : Int64)) + (1 : Int64))) / (100 : Int64)) * ((q2 &&& (2147483647 : Int64)) - ((q2 &&& (2147483647 : Int64)) / (101 : Int64)) * (101 : Int64)))), .second, .unset, .unset, .unset, .unset, .unset, .unset]) rfl kS) ?_
    show own_G p.tables e below _ (s₁.setTop (mkF m 111 #[.val (.long q1), .second, .val (.long q2), .second, .val (.int p3), .val (.int (3 : Int32)), .val (.long ((100 : Int64) * ((q1 &&& (8589934591 : Int64)) + (1 : Int64)))), .second, .val (.long ((((100 : Int64) * ((q1 &&& (8589934591 : Int64)) + (1 : Int64))) / (100 : Int64)) * ((q2 &&& (2147483647 : Int64)) - ((q2 &&& (2147483647 : Int64)) / (101 : Int64)) * (101 : Int64)))), .second, .unset, .unset, .unset, .unset, .unset, .unset] []))
    refine own_st (fun _ kS => XS.goto X0.here hx rfl (pc0 := 111) (pc' := 126) rfl (hb hby at_111) (by decide) (by decide) kS) ?_
    show own_G p.tables e below _ (s₁.setTop (mkF m 126 #[.val (.long q1), .second, .val (.long q2), .second, .val (.int p3), .val (.int (3 : Int32)), .val (.long ((100 : Int64) * ((q1 &&& (8589934591 : Int64)) + (1 : Int64)))), .second, .val (.long ((((100 : Int64) * ((q1 &&& (8589934591 : Int64)) + (1 : Int64))) / (100 : Int64)) * ((q2 &&& (2147483647 : Int64)) - ((q2 &&& (2147483647 : Int64)) / (101 : Int64)) * (101 : Int64)))), .second, .unset, .unset, .unset, .unset, .unset, .unset] []))
    exact sg_F hx hby hml hown hlk hret hZ hw Z0  X0 e0 N0 O0 q1 q2 p3 (3 : Int32) ((100 : Int64) * ((q1 &&& (8589934591 : Int64)) + (1 : Int64))) ((((100 : Int64) * ((q1 &&& (8589934591 : Int64)) + (1 : Int64))) / (100 : Int64)) * ((q2 &&& (2147483647 : Int64)) - ((q2 &&& (2147483647 : Int64)) / (101 : Int64)) * (101 : Int64))) (own_t3 q1).1 (own_t3 q1).2 (own_u3 q1 q2).1 (own_u3 q1 q2).2
set_option maxRecDepth 65536 in
set_option maxHeartbeats 40000000 in
theorem comes_1 {Post : Tables → Env → Array Value → State → Outcome → State → Prop} (hpost : ∀ tb e args s v u, (limb_1_1.after args s (.returned v) u = true ∧ limb_1_2.after args s (.returned v) u = true ∧ True) → FrameEnd s (.returned v) u (Jvm.fieldLocs frame_1_writes args s ++ Jvm.arrayLocs frame_1_arrays args s ++ Jvm.staticLocs frame_1_statics s) 16 128 → Post tb e args s (.returned v) u) :
    ArmFor flags0 classFile x code maxLocals ret World_1 tables_1 room_1 Calls_1 rest_1 Pre_1 Post := by
  intro l hfl _ _ p e ha hc hk s m args below hf hA hF happ hP
  obtain ⟨hcalls, hrest, hpre⟩ := hP
  obtain ⟨-, -, -, hnamed, -, -, -, hat⟩ := (Spec.applies_iff hf).mp happ
  obtain ⟨hg, hn⟩ := and_e (Cond.before_iff.mp (show (Jvm.Cond.and given_1 narrow_1).before args s = true from hpre))
  obtain ⟨g1a, g1b⟩ := and_e hg
  obtain ⟨g2a, g2b⟩ := and_e g1b
  obtain ⟨g3a, g3b⟩ := and_e g2b
  obtain ⟨w0, w1, w2, rfl⟩ : ∃ w0 w1 w2 : Value, args = #[w0, w1, w2] := by
    have hs : args.size = 3 := by simpa [Cond.value, given_1] using g1a
    obtain ⟨L⟩ := args
    match L, hs with
    | [w0, w1, w2], _ => exact ⟨w0, w1, w2, rfl⟩
  have hw := fun d (hd : d ∈ tables_1) => atoms_spec (ws := Jvm.Cond.code x code maxLocals ret :: tables_1) hat d (List.mem_cons_of_mem _ hd)
  have hfit : Fit s := fun {y c} hc i hi => by
    obtain ⟨ha, rfl⟩ := Array.getElem?_eq_some_iff.mp hc
    have q := List.all_eq_true.mp ((Array.all_eq_true_iff_forall_mem.mp hF) _ (Array.getElem_mem ha)) i (List.mem_range.mpr hi)
    simpa [Array.getElem?_eq_getElem hi] using q
  obtain ⟨i0, ei0⟩ := isL_v g2a
  obtain rfl : w0 = (.long i0) := Option.some.inj ei0
  obtain ⟨i1, ei1⟩ := isL_v g3a
  obtain rfl : w1 = (.long i1) := Option.some.inj ei1
  obtain ⟨i2, ei2⟩ := is_v g3b
  obtain rfl : w2 = (.int i2) := Option.some.inj ei2
  obtain ⟨n, o, h1, h2, h3, _, L, rfl, ⟨rfl, N⟩, hq⟩ := rm_law l s _ hw tables_1 i0 i1 i2 s.heap s.heap.size (Nat.le_refl _) (Old.start s)  p e ha hc hk s m _ below hf ((Spec.applies_iff_loose hf).mp happ).1 ⟨rfl, State.Warmed39.refl s, rfl⟩ trivial
  refine ⟨n, _, h1, h2, h3, hpost _ _ _ _ _ _ ⟨Cond.after_iff.mpr rfl, Cond.after_iff.mpr (eq_i res_at (Term.int_eval (1)) rfl), trivial⟩ ⟨hq.1, hq.2.1, (hq.2.2.sift fun y hy => Or.inr (N y hy)).mono (by decide) (by decide)⟩⟩
theorem main_1_1 : Claimed_1_1 := comes_1 fun _ _ _ _ _ _ h hF => ⟨h.1, hF⟩
theorem main_1_2 : Claimed_1_2 := comes_1 fun _ _ _ _ _ _ h hF => ⟨h.2.1, hF⟩
end Jvm.Pilot.@@N@@
namespace Jvm.Pilot.@@N@@
open Jvm Jvm.ClassFile Sem Op Lib Jvm.Free Jvm.Stand Jvm.Pilot.@@N@@.Jvm.D
/-! MADE BY PROGRAM (witnessworld.py) out of the Statement's table words and the real class files: 10 classes; the members and pool entries that the words name. The judged class is class 1, her method 1. -/
namespace start1
open Jvm.ClassFile
def u (s : String) : CpInfo := .utf8 (stringToUtf16 s)
/-- a pool by its gaps: so many unusable entries, then the entry; so many at the end -/
def gap : Nat → List CpInfo → List CpInfo
  | 0, r => r
  | n + 1, r => .unusable :: gap n r
def poolList (es : List (Nat × CpInfo)) (last : Nat) : List CpInfo := es.foldr (fun e r => gap e.1 (e.2 :: r)) (gap last [])
def pool (es : List (Nat × CpInfo)) (last : Nat) : Array CpInfo := ⟨poolList es last⟩
def fileOf (pool : Array CpInfo) (this : Nat) (attrs : Array Attribute := #[]) (ms : Array MethodInfo := #[]) (fl : Nat := 33) (sup : Nat := 0) (ifs : Array Nat := #[]) (fds : Array FieldInfo := #[]) : ClassFile where
  minorVersion := 0
  majorVersion := 65
  constantPool := pool
  accessFlags := fl
  thisClass := this
  superClass := sup
  interfaces := ifs
  fields := fds
  methods := ms
  attributes := attrs
def plain (name : String) (sup : Option ClassId) : Class where
  name := name
  kind := .ordinary
  loader := none
  accessFlags := 33
  super := sup
  interfaces := #[]
  cf := none
  fields := #[]
  methods := #[]
  instanceTypes := #[]
  staticTypes := #[]
  resolved := #[]
  callSites := []
  init := .initialized
  statics := none
  mirror := none

def pool0 : Array CpInfo := pool [(5, u "<init>"), (0, u "()V"), (1, .class_ 10), (1, u "java/lang/Object")] 113

def k0c0 : Code := { maxStack := 0, maxLocals := 1, code := object_method_1_code, exceptionTable := #[], attributes := #[] }
def k0m0 : Method := { name := "<init>", desc := "()V", sig := { parameters := [], returnType := none }, accessFlags := 1, code := some k0c0 }
/-- java/lang/Object -/
def k0 : Class := { plain "java/lang/Object" none with
  accessFlags := 33
  interfaces := #[]
  cf := some (fileOf pool0 8 #[] #[{ accessFlags := 1, nameIndex := 5, descriptorIndex := 6, attributes := #[] }] 33 0 #[] #[])
  fields := #[]
  methods := #[k0m0]
  instanceTypes := #[]
  staticTypes := #[]
  resolved := Array.replicate 124 none
  statics := none }

def pool1 : Array CpInfo := pool [(2, .class_ 4), (1, u "java/lang/Object"), (0, u "<init>"), (0, u "()V"), (0, .class_ 8), (0, u "com/example/memo3/memo3/store/DiskSpace$Use"), (0, .methodref 7 10), (0, .nameAndType 5 11), (0, u "(JJ)V"), (0, .methodref 7 13), (0, .nameAndType 14 15), (0, u "percent"), (0, u "()D"), (0, .long 1099511627775), (1, .long 255), (1, .long 100), (1, .long 8589934591), (1, .long 2147483647), (1, .long 101), (3, .long 9223372036854775807), (1, .class_ 33), (0, u "com/example/memo3/memo3/store/UsePercentPinLaw"), (2, u "law"), (0, u "(JJI)Z")] 7

def k1m0 : Method := { name := "<init>", desc := "()V", sig := { parameters := [], returnType := none }, accessFlags := 1, code := none }
def k1c1 : Code := { maxStack := 6, maxLocals := 16, code := code, exceptionTable := #[], attributes := #[] }
def k1m1 : Method := { name := "law", desc := "(JJI)Z", sig := { parameters := [.long, .long, .int], returnType := some .boolean }, accessFlags := 9, code := some k1c1 }
/-- com/example/memo3/memo3/store/UsePercentPinLaw -/
def k1 : Class := { plain "com/example/memo3/memo3/store/UsePercentPinLaw" (some 0) with
  accessFlags := 49
  interfaces := #[]
  cf := some (fileOf pool1 32 #[] #[{ accessFlags := 1, nameIndex := 5, descriptorIndex := 6, attributes := #[] }, { accessFlags := 9, nameIndex := 36, descriptorIndex := 37, attributes := #[] }] 49 2 #[] #[])
  fields := #[]
  methods := #[k1m0, k1m1]
  instanceTypes := #[]
  staticTypes := #[]
  resolved := Array.replicate 45 none
  statics := none }

def pool2 : Array CpInfo := pool [(1, .methodref 2 3), (0, .class_ 4), (0, .nameAndType 5 6), (0, u "java/lang/Object"), (0, u "<init>"), (0, u "()V"), (0, .class_ 8), (0, u "java/lang/Record")] 13

def k2c0 : Code := { maxStack := 1, maxLocals := 1, code := jdk_30_method_1_code, exceptionTable := #[], attributes := #[] }
def k2m0 : Method := { name := "<init>", desc := "()V", sig := { parameters := [], returnType := none }, accessFlags := 4, code := some k2c0 }
/-- java/lang/Record -/
def k2 : Class := { plain "java/lang/Record" (some 0) with
  accessFlags := 1057
  interfaces := #[]
  cf := some (fileOf pool2 7 #[] #[{ accessFlags := 4, nameIndex := 5, descriptorIndex := 6, attributes := #[] }] 1057 2 #[] #[])
  fields := #[]
  methods := #[k2m0]
  instanceTypes := #[]
  staticTypes := #[]
  resolved := Array.replicate 22 none
  statics := none }

def pool3 : Array CpInfo := pool [(1, .methodref 2 3), (0, .class_ 4), (0, .nameAndType 5 6), (0, u "java/lang/Record"), (0, u "<init>"), (0, u "()V"), (0, .fieldref 8 9), (0, .class_ 10), (0, .nameAndType 11 12), (0, u "com/example/memo3/memo3/store/DiskSpace$Use"), (0, u "total"), (0, u "J"), (0, .fieldref 8 14), (0, .nameAndType 15 12), (0, u "used"), (0, .double 4636737291354636288), (13, u "(JJ)V"), (3, u "percent"), (0, u "()D"), (8, .class_ 45), (0, u "com/example/memo3/memo3/store/DiskSpace")] 20

def k3c0 : Code := { maxStack := 3, maxLocals := 5, code := prog_41_method_1_code, exceptionTable := #[], attributes := #[] }
def k3m0 : Method := { name := "<init>", desc := "(JJ)V", sig := { parameters := [.long, .long], returnType := none }, accessFlags := 1, code := some k3c0 }
def k3c1 : Code := { maxStack := 4, maxLocals := 1, code := prog_41_method_2_code, exceptionTable := #[], attributes := #[] }
def k3m1 : Method := { name := "percent", desc := "()D", sig := { parameters := [], returnType := some .double }, accessFlags := 0, code := some k3c1 }
/-- com/example/memo3/memo3/store/DiskSpace$Use -/
def k3 : Class := { plain "com/example/memo3/memo3/store/DiskSpace$Use" (some 2) with
  accessFlags := 49
  interfaces := #[]
  cf := some (fileOf pool3 8 #[.nestHost 44] #[{ accessFlags := 1, nameIndex := 5, descriptorIndex := 30, attributes := #[] }, { accessFlags := 0, nameIndex := 34, descriptorIndex := 35, attributes := #[] }] 49 2 #[] #[{ accessFlags := 18, nameIndex := 11, descriptorIndex := 12, attributes := #[] }, { accessFlags := 18, nameIndex := 15, descriptorIndex := 12, attributes := #[] }])
  fields := #[{ name := "total", type := .long, accessFlags := 18, slot := 0, constantValue := 0 }, { name := "used", type := .long, accessFlags := 18, slot := 1, constantValue := 0 }]
  methods := #[k3m0, k3m1]
  instanceTypes := #[.long, .long]
  staticTypes := #[]
  resolved := Array.replicate 66 none
  statics := none }

def pool4 : Array CpInfo := pool [(1, u "java/lang/Cloneable"), (0, .class_ 1), (0, u "java/lang/Object"), (0, .class_ 3)] 3

/-- java/lang/Cloneable -/
def k4 : Class := { plain "java/lang/Cloneable" (some 0) with
  accessFlags := 1537
  interfaces := #[]
  cf := some (fileOf pool4 2 #[] #[] 1537 4 #[] #[])
  fields := #[]
  methods := #[]
  instanceTypes := #[]
  staticTypes := #[]
  resolved := Array.replicate 8 none
  statics := none }

def pool5 : Array CpInfo := pool [(1, u "java/io/Serializable"), (0, .class_ 1), (0, u "java/lang/Object"), (0, .class_ 3)] 3

/-- java/io/Serializable -/
def k5 : Class := { plain "java/io/Serializable" (some 0) with
  accessFlags := 1537
  interfaces := #[]
  cf := some (fileOf pool5 2 #[] #[] 1537 4 #[] #[])
  fields := #[]
  methods := #[]
  instanceTypes := #[]
  staticTypes := #[]
  resolved := Array.replicate 8 none
  statics := none }

/-- the primitive byte -/
def k6 : Class := { plain "byte" none with kind := .primitive 'B', accessFlags := 0x411 }
/-- [B -/
def k7 : Class := { plain "[B" (some 0) with kind := .array 6 .byte, interfaces := #[4, 5], accessFlags := 1041 }

/-- the primitive int -/
def k8 : Class := { plain "int" none with kind := .primitive 'I', accessFlags := 0x411 }
/-- [I -/
def k9 : Class := { plain "[I" (some 0) with kind := .array 8 .int, interfaces := #[4, 5], accessFlags := 1041 }

def heap : Heap := #[]
def classes : Array Class := #[k0, k1, k2, k3, k4, k5, k6, k7, k8, k9]
def interned : List (Array UInt16 × Addr) := []
def slotsUsed : Nat := 0
def theMethod : MethodId := ⟨1, 1⟩
def args0 : Array Value := #[.long 7, .long 3, .int 1]
def aboutOver (below : List Frame) : State where
  vm := { classes := classes, interned := interned.toArray }
  heap := heap
  slotsUsed := slotsUsed
  threads := #[{ frames := .invoking theMethod args0 :: below }]
def below0 : List Frame := [.native { method := ⟨0, 0⟩, args := #[] }]
def about1 : State := aboutOver below0
def p0 : Program := .bare "" "" ""
def e0 : Env := launch0.env 0 0 0
theorem w_frames : about1.frames = Frame.invoking theMethod args0 :: below0 := rfl
set_option maxRecDepth 65536 in
theorem w_args : argsFit about1.vm theMethod args0 = true := by decide +kernel
set_option maxRecDepth 65536 in
theorem w_heap : heapFits about1 = true := by decide +kernel
set_option maxRecDepth 65536 in
theorem w_runnable : about1.curStatus? = some .runnable := by decide +kernel
set_option maxRecDepth 65536 in
theorem w_alone : about1.alone = true := by decide +kernel
set_option maxRecDepth 65536 in
theorem w_named : about1.methodNamed? x = some theMethod := by decide +kernel
set_option maxRecDepth 65536 in
theorem w_hears : about1.hears theMethod below0 = true := by decide +kernel
set_option maxRecDepth 65536 in
theorem w_ripe : about1.ripe theMethod args0 below0 = true := by decide +kernel
theorem w_running : about1.status = .running := rfl
set_option maxRecDepth 65536 in
theorem w_room : about1.hasRoom e0.platform room_1 = true :=
  launch0.hasRoom_least _ room_1 (by decide +kernel) (by decide +kernel) (by decide +kernel) (by decide +kernel) (by decide +kernel) (by decide +kernel)
theorem allAtoms_all (ts : List Jvm.Cond) (a : Array Jvm.Value) (st : Jvm.State) : (allAtoms ts).before a st = ts.all (fun c => c.before a st) := by
  induction ts with
  | nil => rfl
  | cons c t ih =>
    show (Jvm.Cond.and c (allAtoms t)).before a st = _
    rw [Jvm.Cond.before_and, ih, List.all_cons]
def words1 : List Jvm.Cond := Jvm.Cond.code x code maxLocals ret :: tables_1
/-- a 'code' word, met by the world's own term for the bytes: nothing is compared byte by byte -/
theorem code_word {y : MethodName} {bytes : ByteArray} {mx : Nat} {rt : Option FieldType} {a : Array Value} {s : State} {m : MethodId} {meth : Method} {c : Code} (h1 : s.methodNamed? y = some m) (h2 : s.vm.method? m = some meth) (h3 : meth.code = some c) (h4 : c.code = bytes)
    (h5 : (c.maxLocals == mx && c.exceptionTable.isEmpty && decide (c.maxStack ≤ mostOperands) && decide (meth.sig.returnType = rt) && !meth.locks && decide (parseMethodDescriptor y.desc = some meth.sig)) = true) : (Jvm.Cond.code y bytes mx rt).before a s = true := by
  simp only [Bool.and_eq_true, beq_iff_eq, Bool.not_eq_true', decide_eq_true_eq] at h5
  obtain ⟨⟨⟨⟨⟨g1, g2⟩, g3⟩, g4⟩, g5⟩, g6⟩ := h5
  simp [Cond.before, Cond.holds, Cond.value, h1, h2, h3, h4, g1, g2, g3, g4, g5, g6]
def isCode : Jvm.Cond → Bool
  | .code _ _ _ _ => true
  | _ => false
theorem all_split {L : List Jvm.Cond} {P : Jvm.Cond → Bool} (h1 : L.all (fun c => isCode c || P c) = true) (h2 : ∀ c ∈ L.filter isCode, P c = true) : L.all P = true := by
  refine List.all_eq_true.mpr fun c hc => ?_
  have h := List.all_eq_true.mp h1 c hc
  rcases Bool.eq_false_or_eq_true (isCode c) with hi | hi
  · exact h2 c (List.mem_filter.mpr ⟨hc, hi⟩)
  · simpa [hi] using h
set_option maxRecDepth 65536 in
theorem w_c0 : (Jvm.Cond.code x code maxLocals ret).before args0 about1 = true := code_word (m := ⟨1, 1⟩) (meth := k1m1) (c := k1c1) (by decide +kernel) rfl rfl rfl (by decide +kernel)
set_option maxRecDepth 65536 in
theorem w_c1 : (Jvm.Cond.code ({ cls := "com/example/memo3/memo3/store/DiskSpace$Use", name := "<init>", desc := "(JJ)V" } : Jvm.MethodName) prog_41_method_1_code (5 : Nat) (Option.none : Option Jvm.ClassFile.FieldType)).before args0 about1 = true := code_word (m := ⟨3, 0⟩) (meth := k3m0) (c := k3c0) (by decide +kernel) rfl rfl rfl (by decide +kernel)
set_option maxRecDepth 65536 in
theorem w_c2 : (Jvm.Cond.code ({ cls := "java/lang/Record", name := "<init>", desc := "()V" } : Jvm.MethodName) jdk_30_method_1_code (1 : Nat) (Option.none : Option Jvm.ClassFile.FieldType)).before args0 about1 = true := code_word (m := ⟨2, 0⟩) (meth := k2m0) (c := k2c0) (by decide +kernel) rfl rfl rfl (by decide +kernel)
set_option maxRecDepth 65536 in
theorem w_c3 : (Jvm.Cond.code ({ cls := "java/lang/Object", name := "<init>", desc := "()V" } : Jvm.MethodName) object_method_1_code (1 : Nat) (Option.none : Option Jvm.ClassFile.FieldType)).before args0 about1 = true := code_word (m := ⟨0, 0⟩) (meth := k0m0) (c := k0c0) (by decide +kernel) rfl rfl rfl (by decide +kernel)
set_option maxRecDepth 65536 in
theorem w_c4 : (Jvm.Cond.code ({ cls := "com/example/memo3/memo3/store/DiskSpace$Use", name := "percent", desc := "()D" } : Jvm.MethodName) prog_41_method_2_code (1 : Nat) (Option.some Jvm.ClassFile.FieldType.double)).before args0 about1 = true := code_word (m := ⟨3, 1⟩) (meth := k3m1) (c := k3c1) (by decide +kernel) rfl rfl rfl (by decide +kernel)
def codes1 : List Jvm.Cond := [Jvm.Cond.code x code maxLocals ret, Jvm.Cond.code ({ cls := "com/example/memo3/memo3/store/DiskSpace$Use", name := "<init>", desc := "(JJ)V" } : Jvm.MethodName) prog_41_method_1_code (5 : Nat) (Option.none : Option Jvm.ClassFile.FieldType), Jvm.Cond.code ({ cls := "java/lang/Record", name := "<init>", desc := "()V" } : Jvm.MethodName) jdk_30_method_1_code (1 : Nat) (Option.none : Option Jvm.ClassFile.FieldType), Jvm.Cond.code ({ cls := "java/lang/Object", name := "<init>", desc := "()V" } : Jvm.MethodName) object_method_1_code (1 : Nat) (Option.none : Option Jvm.ClassFile.FieldType), Jvm.Cond.code ({ cls := "com/example/memo3/memo3/store/DiskSpace$Use", name := "percent", desc := "()D" } : Jvm.MethodName) prog_41_method_2_code (1 : Nat) (Option.some Jvm.ClassFile.FieldType.double)]
set_option maxRecDepth 65536 in
theorem codes_eq : words1.filter isCode = codes1 := rfl
theorem w_codes : ∀ c ∈ words1.filter isCode, c.before args0 about1 = true := by
  rw [codes_eq]
  intro c hc
  simp only [codes1, List.mem_cons, List.not_mem_nil, or_false] at hc
  rcases hc with rfl | rfl | rfl | rfl | rfl
  · exact w_c0
  · exact w_c1
  · exact w_c2
  · exact w_c3
  · exact w_c4
set_option maxRecDepth 65536 in
theorem w_t1 : (words1.take 24).all (fun c => isCode c || c.before args0 about1) = true := by decide +kernel
set_option maxRecDepth 65536 in
theorem w_t2 : (words1.drop 24).all (fun c => isCode c || c.before args0 about1) = true := by decide +kernel
theorem w_tables : (allAtoms (Jvm.Cond.code x code maxLocals ret :: tables_1)).before args0 about1 = true := by
  rw [allAtoms_all]
  show words1.all (fun c => c.before args0 about1) = true
  refine all_split ?_ w_codes
  rw [← List.take_append_drop 24 words1, List.all_append, w_t1, w_t2]
  rfl
set_option maxRecDepth 65536 in
theorem w_case : (Jvm.Cond.and given_1 narrow_1).before args0 about1 = true := by decide +kernel
theorem w_applies : (headSpec (Jvm.Cond.code x code maxLocals ret :: tables_1) room_1).applies x e0.platform about1 = true :=
  (Spec.applies_iff w_frames).mpr ⟨w_running, w_runnable, w_alone, w_named, w_hears, w_ripe, w_room, w_tables⟩
theorem atStart : AtStart classFile x code maxLocals ret World_1 tables_1 room_1 Calls_1 rest_1 Pre_1 launch0 p0 e0 about1 theMethod args0 below0 :=
  ⟨lists_1, trivial, launch0.admits_env _ _ _, launch0.least_env, fairChoices_fair.cas, fairChoices_fair.clock, w_frames, w_args, w_heap, w_applies, trivial, trivial, w_case⟩
end start1
theorem witness_1 : WitnessClaimed_1 := ⟨start1.p0, start1.e0, start1.about1, start1.theMethod, start1.args0, start1.below0, start1.atStart⟩
end Jvm.Pilot.@@N@@
