import JvmDerived
import JvmDerived.Pilot.@@N@@Statement
import JvmDerived.Pilot.@@N@@Code
set_option linter.unusedVariables false
set_option linter.unusedSimpArgs false
namespace Jvm.Pilot.@@N@@
open Jvm Jvm.ClassFile Sem Op Lib Jvm.Free Jvm.Stand Jvm.LawKit Jvm.RoadKit Bundle Jvm.Pilot.@@N@@.Jvm.D
section OwnKit
variable {p : Program} {l : Launch} {e : Env} {R : Room} {s : State} {m : MethodId} {args : Array Value} {below : List Frame} {meth : Method} {c : Code} {T : State} {locs : List Loc} {cells slots : Nat}
/-- from S the run comes to an end that Φ takes -/
def own_G (tb : Tables) (e : Env) (below : List Frame) (Φ : State → Outcome → Prop) (S : State) : Prop := ∃ t o, Steps tb e below S t ∧ t.status = .running ∧ Ended t below o ∧ Φ t o
def own_E (s : State) (Q : Option Value → Heap → List Loc → Prop) (kc ks : Nat) : State → Outcome → Prop := fun t o => ∃ v L, o = .returned v ∧ Q v t.heap L ∧ FrameEnd s o t L kc ks
theorem own_st {tb : Tables} {Φ : State → Outcome → Prop} {S S' : State} (h : ∀ t, Steps tb e below S' t → Steps tb e below S t) (g : own_G tb e below Φ S') : own_G tb e below Φ S := by
  obtain ⟨t, o, a, b⟩ := g
  exact ⟨t, o, h t a, b⟩
theorem own_tr {tb : Tables} {Φ : State → Outcome → Prop} {S S' : State} (h : Steps tb e below S S') (g : own_G tb e below Φ S') : own_G tb e below Φ S := by
  obtain ⟨t, o, a, b⟩ := g
  exact ⟨t, o, h.trans a, b⟩
theorem own_in {s₁ : State} (kc ks : Nat) (Q : Option Value → Heap → List Loc → Prop) {mL : Nat} {g : JFrame} (ef : entryFrame m args mL = g) (k : own_G p.tables e below (own_E s Q kc ks) (s₁.setTop g)) :
    ∃ s₂ o, Steps p.tables e below (s₁.setTop (entryFrame m args mL)) s₂ ∧ s₂.status = .running ∧ Ended s₂ below o ∧ ∃ v L, o = .returned v ∧ Q v s₂.heap L ∧ FrameEnd s o s₂ L kc ks := by
  rw [ef]
  exact k
theorem own_retI0 (X : Stand p l e R s m args below meth c T locs cells slots) (hx : p.tables.exec = Jvm.exec) {pc : Nat} {Ls : Array Slot} {z : Int32} {rest : List Value} (hret : meth.sig.returnType = some .int) (hd : decode c.code pc = .ok (.ireturn, 1)) {fs : List Frame}
    (hl : ∀ (f : JFrame) (acts : List Action), f.method = m → f.locked = none → f.entered = [] → (doReturn e (T.setTop f) acts (some (.int z))).1 = T.setFrames fs) : Steps p.tables e below (T.setTop (mkF m pc Ls (.int z :: rest))) (T.setFrames fs) :=
  retOut X hx hret rfl (Or.inl ⟨rfl, Or.inl rfl, z, rfl⟩) hd hl
theorem own_retI (X : Stand p l e R s m args below meth c T locs cells slots) (hx : p.tables.exec = Jvm.exec) (hlk : meth.locks = false) {pc : Nat} {Ls : Array Slot} {z : Int32} {rest : List Value} (hret : meth.sig.returnType = some .int) (hd : decode c.code pc = .ok (.ireturn, 1))
    {Q : Option Value → Heap → List Loc → Prop} {kc ks : Nat} (hc : cells ≤ kc) (hs : slots ≤ ks) (q : Q (some (.int z)) T.heap locs) : own_G p.tables e below (own_E s Q kc ks) (T.setTop (mkF m pc Ls (.int z :: rest))) := by
  obtain ⟨fs, hr, hrun, hended, hW, hsame⟩ := X.leave (v := some (.int z)) (fun h => by rw [hret] at h; cases h)
  exact ⟨_, _, own_retI0 X hx hret hd hr, hrun, hended, _, _, rfl, q, ⟨_, rfl⟩, hW, hsame.mono hc hs⟩
theorem own_retN (X : Stand p l e R s m args below meth c T locs cells slots) (hx : p.tables.exec = Jvm.exec) (hlk : meth.locks = false) {pc : Nat} {Ls : Array Slot} {z : Int32} {t : FieldType} {rest : List Value} (hret : meth.sig.returnType = some t) (ht : t = .boolean ∨ t = .byte ∨ t = .char ∨ t = .short) (hd : decode c.code pc = .ok (.ireturn, 1))
    {Q : Option Value → Heap → List Loc → Prop} {kc ks : Nat} (hc : cells ≤ kc) (hs : slots ≤ ks) {v' : Int32} (hv : nar t z = v') (q : Q (some (.int v')) T.heap locs) : own_G p.tables e below (own_E s Q kc ks) (T.setTop (mkF m pc Ls (.int z :: rest))) := by
  subst hv
  obtain ⟨fs, hr, hrun, hended, hW, hsame⟩ := X.leave (v := some (.int (nar t z))) (fun h => by rw [hret] at h; cases h)
  exact ⟨_, _, retN X hx hret ht hd hr, hrun, hended, _, _, rfl, q, ⟨_, rfl⟩, hW, hsame.mono hc hs⟩
theorem own_retA (X : Stand p l e R s m args below meth c T locs cells slots) (hx : p.tables.exec = Jvm.exec) (hlk : meth.locks = false) {pc : Nat} {Ls : Array Slot} {w : Value} {t : FieldType} {rest : List Value} (hret : meth.sig.returnType = some t) (ht : t.isReference = true) (hw : w.isRef = true) (hd : decode c.code pc = .ok (.areturn, 1))
    {Q : Option Value → Heap → List Loc → Prop} {kc ks : Nat} (hc : cells ≤ kc) (hs : slots ≤ ks) (q : Q (some w) T.heap locs) : own_G p.tables e below (own_E s Q kc ks) (T.setTop (mkF m pc Ls (w :: rest))) := by
  obtain ⟨fs, hr, hrun, hended, hW, hsame⟩ := X.leave (v := some w) (fun h => by rw [hret] at h; cases h)
  have hn : narrow t w = w := by rcases ref_cases hw with rfl | ⟨a, rfl⟩ <;> cases t <;> rfl
  exact ⟨_, _, retOut X hx hret hn (Or.inr (Or.inr (Or.inr (Or.inr ⟨rfl, ht, hw⟩)))) hd hr, hrun, hended, _, _, rfl, q, ⟨_, rfl⟩, hW, hsame.mono hc hs⟩
theorem own_retJ (X : Stand p l e R s m args below meth c T locs cells slots) (hx : p.tables.exec = Jvm.exec) (hlk : meth.locks = false) {pc : Nat} {Ls : Array Slot} {z : Int64} {rest : List Value} (hret : meth.sig.returnType = some .long) (hd : decode c.code pc = .ok (.lreturn, 1))
    {Q : Option Value → Heap → List Loc → Prop} {kc ks : Nat} (hc : cells ≤ kc) (hs : slots ≤ ks) (q : Q (some (.long z)) T.heap locs) : own_G p.tables e below (own_E s Q kc ks) (T.setTop (mkF m pc Ls (.long z :: rest))) := by
  obtain ⟨fs, hr, hrun, hended, hW, hsame⟩ := X.leave (v := some (.long z)) (fun h => by rw [hret] at h; cases h)
  exact ⟨_, _, retOut X hx hret rfl (Or.inr (Or.inl ⟨rfl, rfl, z, rfl⟩)) hd hr, hrun, hended, _, _, rfl, q, ⟨_, rfl⟩, hW, hsame.mono hc hs⟩
theorem own_retV (X : Stand p l e R s m args below meth c T locs cells slots) (hx : p.tables.exec = Jvm.exec) (hlk : meth.locks = false) {pc : Nat} {Ls : Array Slot} (hret : meth.sig.returnType = none) (hd : decode c.code pc = .ok (.return_, 1))
    {Q : Option Value → Heap → List Loc → Prop} {kc ks : Nat} (hc : cells ≤ kc) (hs : slots ≤ ks) (q : Q none T.heap locs) : own_G p.tables e below (own_E s Q kc ks) (T.setTop (mkF m pc Ls [])) := by
  obtain ⟨fs, hr, hrun, hended, hW, hsame⟩ := X.leave (v := none) (fun _ => rfl)
  exact ⟨_, _, X.returnOut hx hret hd hr, hrun, hended, _, _, rfl, q, ⟨_, rfl⟩, hW, hsame.mono hc hs⟩
-- @WIDE
def own_EW (s : State) (Q : Option Value → Heap → List Loc → Prop) (kc ks : Nat) : State → Outcome → Prop := fun t o => ∃ v L, o = .returned v ∧ Q v t.heap L ∧ ReturnedEndW s o t L kc ks
theorem own_le {h : Heap} (e : T.heap = h) {k : Nat} (q : k ≤ h.size) : k ≤ T.heap.size := by rw [e]; exact q
theorem own_inW {s₁ : State} (kc ks : Nat) (Q : Option Value → Heap → List Loc → Prop) {mL : Nat} {g : JFrame} (ef : entryFrame m args mL = g) (k : own_G p.tables e below (own_EW s Q kc ks) (s₁.setTop g)) :
    ∃ s₂ o, Steps p.tables e below (s₁.setTop (entryFrame m args mL)) s₂ ∧ s₂.status = .running ∧ Ended s₂ below o ∧ ∃ v L, o = .returned v ∧ Q v s₂.heap L ∧ ReturnedEndW s o s₂ L kc ks := by
  rw [ef]
  exact k
theorem own_wide {s t : State} {o : Outcome} {L : List Loc} {k n k' n' : Nat} (h : ReturnedEndW s o t L k n) (hk : k ≤ k') (hn : n ≤ n') : ReturnedEndW s o t L k' n' := ⟨h.1, h.2.1, h.2.2.1, h.2.2.2.mono hk hn⟩
theorem own_retIW {vm0 : Vm} {k0 : Nat} (hS : s.Since vm0 k0) (hk : k0 ≤ T.heap.size) (X : Stand p l e R (s.setVm vm0) m args below meth c T locs cells slots) (hx : p.tables.exec = Jvm.exec) (hlk : meth.locks = false) {pc : Nat} {Ls : Array Slot} {z : Int32} {rest : List Value} (hret : meth.sig.returnType = some .int) (hd : decode c.code pc = .ok (.ireturn, 1))
    {Q : Option Value → Heap → List Loc → Prop} {kc ks : Nat} (hc : cells ≤ kc) (hs : slots ≤ ks) (q : Q (some (.int z)) T.heap locs) : own_G p.tables e below (own_EW s Q kc ks) (T.setTop (mkF m pc Ls (.int z :: rest))) := by
  obtain ⟨fs, hr, hrun, hended, hW⟩ := X.leaveW hS hk (v := some (.int z)) (fun h => by rw [hret] at h; cases h)
  exact ⟨_, _, own_retI0 X hx hret hd hr, hrun, hended, _, _, rfl, q, own_wide hW hc hs⟩
theorem own_retNW {vm0 : Vm} {k0 : Nat} (hS : s.Since vm0 k0) (hk : k0 ≤ T.heap.size) (X : Stand p l e R (s.setVm vm0) m args below meth c T locs cells slots) (hx : p.tables.exec = Jvm.exec) (hlk : meth.locks = false) {pc : Nat} {Ls : Array Slot} {z : Int32} {t : FieldType} {rest : List Value} (hret : meth.sig.returnType = some t) (ht : t = .boolean ∨ t = .byte ∨ t = .char ∨ t = .short) (hd : decode c.code pc = .ok (.ireturn, 1))
    {Q : Option Value → Heap → List Loc → Prop} {kc ks : Nat} (hc : cells ≤ kc) (hs : slots ≤ ks) {v' : Int32} (hv : nar t z = v') (q : Q (some (.int v')) T.heap locs) : own_G p.tables e below (own_EW s Q kc ks) (T.setTop (mkF m pc Ls (.int z :: rest))) := by
  subst hv
  obtain ⟨fs, hr, hrun, hended, hW⟩ := X.leaveW hS hk (v := some (.int (nar t z))) (fun h => by rw [hret] at h; cases h)
  exact ⟨_, _, retN X hx hret ht hd hr, hrun, hended, _, _, rfl, q, own_wide hW hc hs⟩
theorem own_retAW {vm0 : Vm} {k0 : Nat} (hS : s.Since vm0 k0) (hk : k0 ≤ T.heap.size) (X : Stand p l e R (s.setVm vm0) m args below meth c T locs cells slots) (hx : p.tables.exec = Jvm.exec) (hlk : meth.locks = false) {pc : Nat} {Ls : Array Slot} {w : Value} {t : FieldType} {rest : List Value} (hret : meth.sig.returnType = some t) (ht : t.isReference = true) (hw : w.isRef = true) (hd : decode c.code pc = .ok (.areturn, 1))
    {Q : Option Value → Heap → List Loc → Prop} {kc ks : Nat} (hc : cells ≤ kc) (hs : slots ≤ ks) (q : Q (some w) T.heap locs) : own_G p.tables e below (own_EW s Q kc ks) (T.setTop (mkF m pc Ls (w :: rest))) := by
  obtain ⟨fs, hr, hrun, hended, hW⟩ := X.leaveW hS hk (v := some w) (fun h => by rw [hret] at h; cases h)
  have hn : narrow t w = w := by rcases ref_cases hw with rfl | ⟨a, rfl⟩ <;> cases t <;> rfl
  exact ⟨_, _, retOut X hx hret hn (Or.inr (Or.inr (Or.inr (Or.inr ⟨rfl, ht, hw⟩)))) hd hr, hrun, hended, _, _, rfl, q, own_wide hW hc hs⟩
theorem own_retVW {vm0 : Vm} {k0 : Nat} (hS : s.Since vm0 k0) (hk : k0 ≤ T.heap.size) (X : Stand p l e R (s.setVm vm0) m args below meth c T locs cells slots) (hx : p.tables.exec = Jvm.exec) (hlk : meth.locks = false) {pc : Nat} {Ls : Array Slot}  (hret : meth.sig.returnType = none) (hd : decode c.code pc = .ok (.return_, 1))
    {Q : Option Value → Heap → List Loc → Prop} {kc ks : Nat} (hc : cells ≤ kc) (hs : slots ≤ ks) (q : Q none T.heap locs) : own_G p.tables e below (own_EW s Q kc ks) (T.setTop (mkF m pc Ls [])) := by
  obtain ⟨fs, hr, hrun, hended, hW⟩ := X.leaveW hS hk (v := none) (fun _ => rfl)
  exact ⟨_, _, X.returnOut hx hret hd hr, hrun, hended, _, _, rfl, q, own_wide hW hc hs⟩
-- @END
end OwnKit
theorem own_w {a0 : Array Value} {Z : State} (hw : ∀ d ∈ tables_1, d.before a0 Z = true) (i : Nat) {d : Jvm.Cond} (h : tables_1[i]? = some d) : d.before a0 Z = true := hw d (List.mem_of_getElem? h)
theorem own_cat {v : Value} (h : v.isRef = true) : v.category = 1 := by cases v <;> first | rfl | (simp [Value.isRef] at h)
theorem own_i32 {a b : Int32} (h : a.toInt = b.toInt) : a = b := Int32.toInt_inj.mp h
theorem own_i64 {a b : Int64} (h : a.toInt = b.toInt) : a = b := Int64.toInt_inj.mp h
/-- (x & 0x7fffffff) % d lies from 0 to d - 1 -/
theorem own_mod (x y : Int32) (d : Int) (hy : y.toInt = d) (hd : 0 < d) : 0 ≤ ((x &&& 2147483647) % y).toInt ∧ ((x &&& 2147483647) % y).toInt < d ∧ ((x &&& 2147483647) % y).toInt = (x.toInt % 2147483648) % d := by
  have h1 := c_mask x 2147483647 31 (by decide) (by decide)
  have h2 := (c_irem (x &&& 2147483647) y d hy).1 (by rw [h1]; omega)
  rw [h2, h1]
  refine ⟨Int.emod_nonneg _ (by omega), Int.emod_lt_of_pos _ hd, rfl⟩
theorem own_mod3 (x : Int32) : (x &&& 2147483647) % 3 = (0 : Int32) ∨ (x &&& 2147483647) % 3 = (1 : Int32) ∨ (x &&& 2147483647) % 3 = (2 : Int32) := by
  have h := own_mod x 3 3 (by decide) (by decide)
  have : ((x &&& 2147483647) % 3).toInt = 0 ∨ ((x &&& 2147483647) % 3).toInt = 1 ∨ ((x &&& 2147483647) % 3).toInt = 2 := by omega
  rcases this with h | h | h
  · exact Or.inl (own_i32 (h.trans (by decide)))
  · exact Or.inr (Or.inl (own_i32 (h.trans (by decide))))
  · exact Or.inr (Or.inr (own_i32 (h.trans (by decide))))
theorem own_len {s : State} {args : Array Value} {t : Term} {a : Addr} {c : Cell} {ty : FieldType} {n : Int32} (ev : t.eval args s none [] s = some (.ref a)) (A : Arr s s.heap a c ty) (h : (Jvm.Cond.eq (.length t) (.int n)).value args s none s [] = some true) : c.slots.size < 2 ^ 31 ∧ c.slots.size.toInt32 = n := by
  have h1 := eqv_i (Term.int_eval n) h
  have ha := Arr.fin (Vm.Alike.refl s.vm) A
  have h2 := Cond.small_of_lengthOf ev ha (Cond.before_iff.mpr (by simp [Cond.value, h1]))
  exact ⟨h2, Value.int.inj (Option.some.inj ((len_f ev ha h2).symm.trans h1))⟩
theorem own_ins {Z : State} {h : Heap} {a : Addr} {C K : String} (E : Exa Z h a C) (F : ∃ c t, Z.vm.findClass C = some c ∧ Z.vm.findClass K = some t ∧ Z.vm.assignable c t = true) : Ins Z h a K true := by
  obtain ⟨cell, k, h1, h2, h3, h4, -⟩ := E
  obtain ⟨c, t, g1, g2, g3⟩ := F
  cases h2.symm.trans g1
  exact ⟨cell, t, h1, g2, by rw [h4, g3]; rfl⟩
theorem own_em {Z : State} {C K : String} (h1 : ∃ c, Z.vm.findClass C = some c) (h2 : ∃ t, Z.vm.findClass K = some t) :
    (∃ c t, Z.vm.findClass C = some c ∧ Z.vm.findClass K = some t ∧ Z.vm.assignable c t = true) ∨ (∃ c t, Z.vm.findClass C = some c ∧ Z.vm.findClass K = some t ∧ Z.vm.assignable c t = false) := by
  obtain ⟨c, h1⟩ := h1
  obtain ⟨t, h2⟩ := h2
  rcases Bool.eq_false_or_eq_true (Z.vm.assignable c t) with h | h
  · exact Or.inl ⟨c, t, h1, h2, h⟩
  · exact Or.inr ⟨c, t, h1, h2, h⟩
theorem own_found {Z : State} {a0 : Array Value} {C : String} {n : Nat} (w : (Jvm.Cond.instantiable C n).before a0 Z = true) : ∃ c, Z.vm.findClass C = some c := by
  obtain ⟨c, k, hc, -⟩ := Cond.instantiable_spec w
  exact ⟨c, hc⟩
theorem own_exf {Z : State} {h : Heap} {a : Addr} {C : String} (E : Exa Z h a C) : ∃ c, Z.vm.findClass C = some c := by
  obtain ⟨cell, k, -, h2, -⟩ := E
  exact ⟨_, h2⟩
theorem own_selp {s : State} {args : Array Value} {y : MethodName} {n : Nat} (w : (Jvm.Cond.instantiable y.cls n).before args s = true) (hp : s.PrivateAt y) (hi : (Jvm.Cond.instanceMethod y).before args s = true) (hy : y.cls ≠ "java/lang/invoke/MethodHandle" ∧ y.cls ≠ "java/lang/invoke/VarHandle") : (Jvm.Cond.selects y.cls y y).before args s = true := by
  obtain ⟨c, k, hc, hk, hkind, hflags, -⟩ := Cond.instantiable_spec w
  exact selects_self_of_private hc hk (Bool.or_eq_false_iff.mp hflags).1 hp hi hy
theorem own_cls {Z : State} {a0 : Array Value} {y : MethodName} {b : ByteArray} {ml : Nat} {rt : Option FieldType} {K : String} {i : Nat} (wc : (Jvm.Cond.code y b ml rt).before a0 Z = true) (w : (Jvm.Cond.classLink y.cls i K).before a0 Z = true) : ∃ t, Z.vm.findClass K = some t := by
  obtain ⟨mk, hn⟩ := Cond.code_named wc
  obtain ⟨t, ht, -⟩ := Cond.classLink_spec (findClass_of_methodNamed hn) w {} rfl
  exact ⟨t, ht⟩
theorem d3_0 : decode jdk_22_method_1_code 0 = .ok (.aload_n 0, 1) := by decide +kernel
theorem d3_1 : decode jdk_22_method_1_code 1 = .ok (.invokespecial 1, 3) := by decide +kernel
theorem d3_4 : decode jdk_22_method_1_code 4 = .ok (.return_, 1) := by decide +kernel
theorem pn_3 : plainName "java/util/AbstractCollection" = true := by first | (simp [plainName, overriddenIn]; done) | decide +kernel
theorem ef_acInit (m : MethodId) (x0 : Addr) : entryFrame m #[(.ref x0)] 1 = mkF m 0 #[.val (.ref x0)] [] := by first | (simp [entryFrame, mkF, argsToLocals, Value.category]; done) | rfl
def Q_acInit (Z : State) (a1 : Addr) (h0 : Heap) (n0 : Nat) (v : Option Value) (h : Heap) (L : List Loc) : Prop := v = none ∧ Fr n0 L ∧ h = h0
set_option maxRecDepth 65536 in
set_option maxHeartbeats 40000000 in
theorem rm_acInit (l : Launch) (Z : State) (a0 : Array Value) (hw : ∀ d ∈ tables_1, d.before a0 Z = true) (ws : List Jvm.Cond) (a1 : Addr) (h0 : Heap) (n0 : Nat) (Z0 : n0 ≤ h0.size)  :
    MetFree l (⟨"java/util/AbstractCollection", "<init>", "()V"⟩ : MethodName) (head1 (Jvm.Cond.code (⟨"java/util/AbstractCollection", "<init>", "()V"⟩ : MethodName) jdk_22_method_1_code 1 none :: ws) ({ frames := 1, cells := 0, slots := 0, locals := 12 } : Room)) (fun a U => a = #[(.ref a1)] ∧ Z.Warmed39 U.vm ∧ U.heap = h0) (fun _ _ _ _ _ => True) (fun _ U o U' => ∃ v L, o = .returned v ∧ Q_acInit Z a1 h0 n0 v U'.heap L ∧ FrameEnd U o U' L ({ frames := 1, cells := 0, slots := 0, locals := 12 } : Room).cells ({ frames := 1, cells := 0, slots := 0, locals := 12 } : Room).slots) := by
  refine MetFree.of_bodySF (plainFor_of_name pn_3) hisR ?_
  intro p e s m args below meth c s₁ Bd hml0 hP hK
  obtain ⟨rfl, hZ, hh⟩ := hP
  have hx := Bd.exec
  have hby := Bd.bytes
  have hml : c.maxLocals = 1 := hml0
  have hown : s.vm.findClass "java/util/AbstractCollection" = some m.cls := findClass_of_methodNamed Bd.named
  have hnm := (name_of_methodNamed Bd.named Bd.method).1
  have hlk := Bd.notSynchronized
  have hret := Bd.returns
  have X0 : Stand p l e ({ frames := 1, cells := 0, slots := 0, locals := 12 } : Room) s m #[(.ref a1)] below meth c s₁ [] 0 0 := Stand.of_body Bd
  have e0 : s₁.heap = h0 := by rw [← hh, Bd.state]; rfl
  have N0 := Fr.nil n0
  refine own_in ({ frames := 1, cells := 0, slots := 0, locals := 12 } : Room).cells ({ frames := 1, cells := 0, slots := 0, locals := 12 } : Room).slots (Q_acInit Z a1 h0 n0) (ef_acInit m a1) ?_
  show own_G p.tables e below _ (s₁.setTop (mkF m 0 #[.val (.ref a1)] []))
  refine own_st (fun _ kS => XS.aloadN X0.here hx rfl (hb hby d3_0) rfl rfl kS) ?_
  show own_G p.tables e below _ (s₁.setTop (mkF m 1 #[.val (.ref a1)] [(.ref a1)]))
  obtain ⟨T1, X1, e1, st1⟩ := initO X0 hx hZ hown (own_w hw 30 rfl) (own_w hw 31 rfl) (own_w hw 32 rfl) e0 (g := (mkF m 1 #[.val (.ref a1)] [(.ref a1)])) rfl (by rw [hml]; rfl) rfl (hb hby d3_1) (by decide) (W := 0) (by show 2 * 0 + _ ≤ _; exact Nat.le_of_eq rfl) (by decide)
  refine own_st st1 ?_
  show own_G p.tables e below _ (T1.setTop (mkF m 4 #[.val (.ref a1)] []))
  exact own_retV X1 hx hlk hret (hb hby d3_4) (by decide) (by decide) (by rw [e1]; exact ⟨rfl, N0, rfl⟩)
theorem d2_0 : decode jdk_39_method_1_code 0 = .ok (.aload_n 0, 1) := by decide +kernel
theorem d2_1 : decode jdk_39_method_1_code 1 = .ok (.invokespecial 1, 3) := by decide +kernel
theorem d2_4 : decode jdk_39_method_1_code 4 = .ok (.aload_n 0, 1) := by decide +kernel
theorem d2_5 : decode jdk_39_method_1_code 5 = .ok (.iconst 0, 1) := by decide +kernel
theorem d2_6 : decode jdk_39_method_1_code 6 = .ok (.putfield 7, 3) := by decide +kernel
theorem d2_9 : decode jdk_39_method_1_code 9 = .ok (.return_, 1) := by decide +kernel
theorem pn_2 : plainName "java/util/AbstractList" = true := by first | (simp [plainName, overriddenIn]; done) | decide +kernel
theorem own_pd0 : parseMethodDescriptor "()V" = some ⟨[], none⟩ := by decide +kernel
theorem ef_alInit (m : MethodId) (x0 : Addr) : entryFrame m #[(.ref x0)] 1 = mkF m 0 #[.val (.ref x0)] [] := by first | (simp [entryFrame, mkF, argsToLocals, Value.category]; done) | rfl
def Q_alInit (Z : State) (a1 : Addr) (h0 : Heap) (n0 : Nat) (v : Option Value) (h : Heap) (L : List Loc) : Prop := v = none ∧ Fr n0 L ∧ Keep h0 h [a1] ∧ Exa Z h a1 "java/util/ArrayList" ∧ Fld Z h a1 "java/util/AbstractList" "modCount" "I" (.int (0 : Int32)) ∧ Fld Z h a1 "java/util/ArrayList" "size" "I" (.int (0 : Int32)) ∧ Fld Z h a1 "java/util/ArrayList" "elementData" "[Ljava/lang/Object;" .null
set_option maxRecDepth 65536 in
set_option maxHeartbeats 40000000 in
theorem rm_alInit (l : Launch) (Z : State) (a0 : Array Value) (hw : ∀ d ∈ tables_1, d.before a0 Z = true) (ws : List Jvm.Cond) (a1 : Addr) (h0 : Heap) (n0 : Nat) (Z0 : n0 ≤ h0.size) (E_1 : Exa Z h0 a1 "java/util/ArrayList") (g_1 : n0 ≤ a1) (F_m : Fld Z h0 a1 "java/util/AbstractList" "modCount" "I" (.int (0 : Int32))) (F_s : Fld Z h0 a1 "java/util/ArrayList" "size" "I" (.int (0 : Int32))) (F_e : Fld Z h0 a1 "java/util/ArrayList" "elementData" "[Ljava/lang/Object;" .null) :
    MetFree l (⟨"java/util/AbstractList", "<init>", "()V"⟩ : MethodName) (head1 (Jvm.Cond.code (⟨"java/util/AbstractList", "<init>", "()V"⟩ : MethodName) jdk_39_method_1_code 1 none :: ws) ({ frames := 2, cells := 0, slots := 0, locals := 24 } : Room)) (fun a U => a = #[(.ref a1)] ∧ Z.Warmed39 U.vm ∧ U.heap = h0) (fun _ _ _ _ _ => True) (fun _ U o U' => ∃ v L, o = .returned v ∧ Q_alInit Z a1 h0 n0 v U'.heap L ∧ FrameEnd U o U' L ({ frames := 2, cells := 0, slots := 0, locals := 24 } : Room).cells ({ frames := 2, cells := 0, slots := 0, locals := 24 } : Room).slots) := by
  refine MetFree.of_bodySF (plainFor_of_name pn_2) hisR ?_
  intro p e s m args below meth c s₁ Bd hml0 hP hK
  obtain ⟨rfl, hZ, hh⟩ := hP
  have hx := Bd.exec
  have hby := Bd.bytes
  have hml : c.maxLocals = 1 := hml0
  have hown : s.vm.findClass "java/util/AbstractList" = some m.cls := findClass_of_methodNamed Bd.named
  have hnm := (name_of_methodNamed Bd.named Bd.method).1
  have hlk := Bd.notSynchronized
  have hret := Bd.returns
  have X0 : Stand p l e ({ frames := 2, cells := 0, slots := 0, locals := 24 } : Room) s m #[(.ref a1)] below meth c s₁ [] 0 0 := Stand.of_body Bd
  have e0 : s₁.heap = h0 := by rw [← hh, Bd.state]; rfl
  have N0 := Fr.nil n0
  have K0 := Keep.refl h0 [a1]
  refine own_in ({ frames := 2, cells := 0, slots := 0, locals := 24 } : Room).cells ({ frames := 2, cells := 0, slots := 0, locals := 24 } : Room).slots (Q_alInit Z a1 h0 n0) (ef_alInit m a1) ?_
  show own_G p.tables e below _ (s₁.setTop (mkF m 0 #[.val (.ref a1)] []))
  refine own_st (fun _ kS => XS.aloadN X0.here hx rfl (hb hby d2_0) rfl rfl kS) ?_
  show own_G p.tables e below _ (s₁.setTop (mkF m 1 #[.val (.ref a1)] [(.ref a1)]))
  obtain ⟨_, _, ⟨T1, L1, k1, n1⟩, -, X1, ⟨Lc1, hQ1, l1, y1, z1⟩, st1⟩ := X0.specialBack hx (y := (⟨"java/util/AbstractCollection", "<init>", "()V"⟩ : MethodName)) rfl hown (mvT hZ (own_w hw 24 rfl)) (mvT hZ (own_w hw 25 rfl)) (mvT hZ (own_w hw 29 rfl)) (by decide) (backOf (W := 0) (rm_acInit l Z a0 hw [] a1 h0 n0 Z0  ) hZ (own_w hw 29 rfl) (own_w hw 28 rfl) (by decide) (by decide)) (g := (mkF m 1 #[.val (.ref a1)] [(.ref a1)])) rfl (by rw [hml]; rfl) (Steps.refl _) (a := a1) (argsL := []) (rest := []) (lenOf own_pd0 rfl) rfl (by show 2 * 0 + _ ≤ _; exact Nat.le_of_eq rfl) (hb hby d2_1) (fun _ _ => ⟨rfl, e0, (by decide : 0 + 0 ≤ _), (by decide : 0 + 0 ≤ _)⟩)
  dsimp only [Pt.U, Pt.locs, Pt.cells, Pt.slots] at X1 l1 y1 z1 st1 hQ1
  subst l1 y1 z1
  obtain ⟨rfl, Nq1, eq1⟩ := hQ1
  have N1 := Fr.app N0 Nq1
  refine own_tr st1 ?_
  show own_G p.tables e below _ (T1.setTop (mkF m 4 #[.val (.ref a1)] []))
  refine own_st (fun _ kS => XS.aloadN X1.here hx rfl (hb hby d2_4) rfl rfl kS) ?_
  refine own_st (fun _ kS => XS.iconst X1.here hx rfl (hb hby d2_5) kS) ?_
  show own_G p.tables e below _ (T1.setTop (mkF m 6 #[.val (.ref a1)] [(.int (0 : Int32)), (.ref a1)]))
  obtain ⟨T2, h2, X2, e2, W2, st2⟩ := putF X1 hx hZ hown (host := "") (Or.inl (own_w hw 33 rfl)) Via.refl eq1 F_m E_1 (Or.inl (own_w hw 34 rfl)) (own_w hw 13 rfl) (ty := .int) (by decide) rfl rfl (g := (mkF m 6 #[.val (.ref a1)] [(.int (0 : Int32)), (.ref a1)])) rfl rfl (hb hby d2_6)
  refine own_st st2 ?_
  have N2 := Fr.snoc X2 N1 g_1
  have K2 := K0.wr W2 (Or.inl (List.mem_of_getElem? (i := 0) rfl))
  have Fw2 := Fld.same W2 F_m
  show own_G p.tables e below _ (T2.setTop (mkF m 9 #[.val (.ref a1)] []))
  exact own_retV X2 hx hlk hret (hb hby d2_9) (by decide) (by decide) (by rw [e2]; exact ⟨rfl, N2, K2, (Exa.wr W2 E_1), Fw2, (Fld.other W2 F_s (Or.inr (slot_ne (Or.inl (own_w hw 75 rfl)) (Or.inl (own_w hw 34 rfl)) (by decide) (t := .int) (t' := .int) (by decide) (by decide)))), (Fld.other W2 F_e (Or.inr (slot_ne (Or.inl (own_w hw 37 rfl)) (Or.inl (own_w hw 34 rfl)) (by decide) (t := (.array (.object "java/lang/Object"))) (t' := .int) (by decide) (by decide))))⟩)
theorem d1_0 : decode jdk_38_method_2_code 0 = .ok (.aload_n 0, 1) := by decide +kernel
theorem d1_1 : decode jdk_38_method_2_code 1 = .ok (.invokespecial 1, 3) := by decide +kernel
theorem d1_4 : decode jdk_38_method_2_code 4 = .ok (.aload_n 0, 1) := by decide +kernel
theorem d1_5 : decode jdk_38_method_2_code 5 = .ok (.getstatic 39, 3) := by decide +kernel
theorem d1_8 : decode jdk_38_method_2_code 8 = .ok (.putfield 9, 3) := by decide +kernel
theorem d1_11 : decode jdk_38_method_2_code 11 = .ok (.return_, 1) := by decide +kernel
theorem pn_1 : plainName "java/util/ArrayList" = true := by first | (simp [plainName, overriddenIn]; done) | decide +kernel
theorem ef_arlInit (m : MethodId) (x0 : Addr) : entryFrame m #[(.ref x0)] 1 = mkF m 0 #[.val (.ref x0)] [] := by first | (simp [entryFrame, mkF, argsToLocals, Value.category]; done) | rfl
def Q_arlInit (Z : State) (a1 : Addr) (wD : Addr) (h0 : Heap) (n0 : Nat) (v : Option Value) (h : Heap) (L : List Loc) : Prop := v = none ∧ Fr n0 L ∧ Keep h0 h [a1] ∧ Exa Z h a1 "java/util/ArrayList" ∧ Fld Z h a1 "java/util/AbstractList" "modCount" "I" (.int (0 : Int32)) ∧ Fld Z h a1 "java/util/ArrayList" "size" "I" (.int (0 : Int32))
set_option maxRecDepth 65536 in
set_option maxHeartbeats 40000000 in
theorem rm_arlInit (l : Launch) (Z : State) (a0 : Array Value) (hw : ∀ d ∈ tables_1, d.before a0 Z = true) (ws : List Jvm.Cond) (a1 : Addr) (wD : Addr) (h0 : Heap) (n0 : Nat) (Z0 : n0 ≤ h0.size) (O0 : Old Z n0 h0) (E_1 : Exa Z h0 a1 "java/util/ArrayList") (g_1 : n0 ≤ a1) (F_m : Fld Z h0 a1 "java/util/AbstractList" "modCount" "I" (.int (0 : Int32))) (F_s : Fld Z h0 a1 "java/util/ArrayList" "size" "I" (.int (0 : Int32))) (F_e : Fld Z h0 a1 "java/util/ArrayList" "elementData" "[Ljava/lang/Object;" .null) (S_D : Sta Z Z.heap "java/util/ArrayList" "DEFAULTCAPACITY_EMPTY_ELEMENTDATA" "[Ljava/lang/Object;" (.ref wD)) :
    MetFree l (⟨"java/util/ArrayList", "<init>", "()V"⟩ : MethodName) (head1 (Jvm.Cond.code (⟨"java/util/ArrayList", "<init>", "()V"⟩ : MethodName) jdk_38_method_2_code 1 none :: ws) ({ frames := 3, cells := 0, slots := 0, locals := 36 } : Room)) (fun a U => a = #[(.ref a1)] ∧ Z.Warmed39 U.vm ∧ U.heap = h0) (fun _ _ _ _ _ => True) (fun _ U o U' => ∃ v L, o = .returned v ∧ Q_arlInit Z a1 wD h0 n0 v U'.heap L ∧ FrameEnd U o U' L ({ frames := 3, cells := 0, slots := 0, locals := 36 } : Room).cells ({ frames := 3, cells := 0, slots := 0, locals := 36 } : Room).slots) := by
  refine MetFree.of_bodySF (plainFor_of_name pn_1) hisR ?_
  intro p e s m args below meth c s₁ Bd hml0 hP hK
  obtain ⟨rfl, hZ, hh⟩ := hP
  have hx := Bd.exec
  have hby := Bd.bytes
  have hml : c.maxLocals = 1 := hml0
  have hown : s.vm.findClass "java/util/ArrayList" = some m.cls := findClass_of_methodNamed Bd.named
  have hnm := (name_of_methodNamed Bd.named Bd.method).1
  have hlk := Bd.notSynchronized
  have hret := Bd.returns
  have X0 : Stand p l e ({ frames := 3, cells := 0, slots := 0, locals := 36 } : Room) s m #[(.ref a1)] below meth c s₁ [] 0 0 := Stand.of_body Bd
  have e0 : s₁.heap = h0 := by rw [← hh, Bd.state]; rfl
  have N0 := Fr.nil n0
  have K0 := Keep.refl h0 [a1]
  refine own_in ({ frames := 3, cells := 0, slots := 0, locals := 36 } : Room).cells ({ frames := 3, cells := 0, slots := 0, locals := 36 } : Room).slots (Q_arlInit Z a1 wD h0 n0) (ef_arlInit m a1) ?_
  show own_G p.tables e below _ (s₁.setTop (mkF m 0 #[.val (.ref a1)] []))
  refine own_st (fun _ kS => XS.aloadN X0.here hx rfl (hb hby d1_0) rfl rfl kS) ?_
  show own_G p.tables e below _ (s₁.setTop (mkF m 1 #[.val (.ref a1)] [(.ref a1)]))
  obtain ⟨_, _, ⟨T1, L1, k1, n1⟩, -, X1, ⟨Lc1, hQ1, l1, y1, z1⟩, st1⟩ := X0.specialBack hx (y := (⟨"java/util/AbstractList", "<init>", "()V"⟩ : MethodName)) rfl hown (mvT hZ (own_w hw 18 rfl)) (mvT hZ (own_w hw 19 rfl)) (mvT hZ (own_w hw 23 rfl)) (by decide) (backOf (W := 0) (rm_alInit l Z a0 hw [] a1 h0 n0 Z0  E_1 g_1 F_m F_s F_e) hZ (own_w hw 23 rfl) (own_w hw 22 rfl) (by decide) (by decide)) (g := (mkF m 1 #[.val (.ref a1)] [(.ref a1)])) rfl (by rw [hml]; rfl) (Steps.refl _) (a := a1) (argsL := []) (rest := []) (lenOf own_pd0 rfl) rfl (by show 2 * 0 + _ ≤ _; exact Nat.le_of_eq rfl) (hb hby d1_1) (fun _ _ => ⟨rfl, e0, (by decide : 0 + 0 ≤ _), (by decide : 0 + 0 ≤ _)⟩)
  dsimp only [Pt.U, Pt.locs, Pt.cells, Pt.slots] at X1 l1 y1 z1 st1 hQ1
  subst l1 y1 z1
  obtain ⟨rfl, Nq1, Kc1, P1_0, P1_1, P1_2, P1_3⟩ := hQ1
  have N1 := Fr.app N0 Nq1
  have K1 := K0.trans Kc1 (allS (Or.inl (List.mem_of_getElem? (i := 0) rfl)) all0)
  have O1 := O0.keep Kc1 (allS g_1 all0)
  refine own_tr st1 ?_
  show own_G p.tables e below _ (T1.setTop (mkF m 4 #[.val (.ref a1)] []))
  refine own_st (fun _ kS => XS.aloadN X1.here hx rfl (hb hby d1_4) rfl rfl kS) ?_
  show own_G p.tables e below _ (T1.setTop (mkF m 5 #[.val (.ref a1)] [(.ref a1)]))
  obtain ⟨T2, X2, e2, st2⟩ := getS2 X1 hx hZ hown (host := "") (Or.inl (own_w hw 35 rfl)) Via.refl rfl (Sta.ext O1.2 S_D) (g := (mkF m 5 #[.val (.ref a1)] [(.ref a1)])) rfl (hb hby d1_5)
  refine own_st st2 ?_
  show own_G p.tables e below _ (T2.setTop (mkF m 8 #[.val (.ref a1)] [(.ref wD), (.ref a1)]))
  obtain ⟨T3, h3, X3, e3, W3, st3⟩ := putF X2 hx hZ hown (host := "") (Or.inl (own_w hw 36 rfl)) Via.refl e2 P1_3 P1_0 (Or.inl (own_w hw 37 rfl)) (own_w hw 13 rfl) (ty := (.array (.object "java/lang/Object"))) (by decide) rfl rfl (g := (mkF m 8 #[.val (.ref a1)] [(.ref wD), (.ref a1)])) rfl rfl (hb hby d1_8)
  refine own_st st3 ?_
  have N3 := Fr.snoc X3 N1 g_1
  have K3 := K1.wr W3 (Or.inl (List.mem_of_getElem? (i := 0) rfl))
  have O3 := O1.wr W3 g_1
  have Fw3 := Fld.same W3 P1_3
  show own_G p.tables e below _ (T3.setTop (mkF m 11 #[.val (.ref a1)] []))
  exact own_retV X3 hx hlk hret (hb hby d1_11) (by decide) (by decide) (by rw [e3]; exact ⟨rfl, N3, K3, (Exa.wr W3 P1_0), (Fld.other W3 P1_1 (Or.inr (slot_ne (Or.inl (own_w hw 34 rfl)) (Or.inl (own_w hw 37 rfl)) (by decide) (t := .int) (t' := (.array (.object "java/lang/Object"))) (by decide) (by decide)))), (Fld.other W3 P1_2 (Or.inr (slot_ne (Or.inl (own_w hw 75 rfl)) (Or.inl (own_w hw 37 rfl)) (by decide) (t := .int) (t' := (.array (.object "java/lang/Object"))) (by decide) (by decide))))⟩)
theorem d6_0 : decode jdk_40_method_36_code 0 = .ok (.getstatic 90, 3) := by decide +kernel
theorem d6_3 : decode jdk_40_method_36_code 3 = .ok (.areturn, 1) := by decide +kernel
theorem pn_6 : plainName "java/util/List" = true := by first | (simp [plainName, overriddenIn]; done) | decide +kernel
theorem ef_listOf (m : MethodId)  : entryFrame m #[] 0 = mkF m 0 #[] [] := by first | (simp [entryFrame, mkF, argsToLocals, Value.category]; done) | rfl
def Q_listOf (Z : State) (wL : Addr) (h0 : Heap) (n0 : Nat) (v : Option Value) (h : Heap) (L : List Loc) : Prop := v = some (.ref wL) ∧ Fr n0 L ∧ h = h0
set_option maxRecDepth 65536 in
set_option maxHeartbeats 40000000 in
theorem rm_listOf (l : Launch) (Z : State) (a0 : Array Value) (hw : ∀ d ∈ tables_1, d.before a0 Z = true) (ws : List Jvm.Cond) (wL : Addr) (h0 : Heap) (n0 : Nat) (Z0 : n0 ≤ h0.size) (O0 : Old Z n0 h0) (S_L : Sta Z Z.heap "java/util/ImmutableCollections" "EMPTY_LIST" "Ljava/util/ImmutableCollections$ListN;" (.ref wL)) :
    MetFree l (⟨"java/util/List", "of", "()Ljava/util/List;"⟩ : MethodName) (head1 (Jvm.Cond.code (⟨"java/util/List", "of", "()Ljava/util/List;"⟩ : MethodName) jdk_40_method_36_code 0 (some (.object "java/util/List")) :: ws) ({ frames := 0, cells := 0, slots := 0, locals := 0 } : Room)) (fun a U => a = #[] ∧ Z.Warmed39 U.vm ∧ U.heap = h0) (fun _ _ _ _ _ => True) (fun _ U o U' => ∃ v L, o = .returned v ∧ Q_listOf Z wL h0 n0 v U'.heap L ∧ FrameEnd U o U' L ({ frames := 0, cells := 0, slots := 0, locals := 0 } : Room).cells ({ frames := 0, cells := 0, slots := 0, locals := 0 } : Room).slots) := by
  refine MetFree.of_bodySF (plainFor_of_name pn_6) hisR ?_
  intro p e s m args below meth c s₁ Bd hml0 hP hK
  obtain ⟨rfl, hZ, hh⟩ := hP
  have hx := Bd.exec
  have hby := Bd.bytes
  have hml : c.maxLocals = 0 := hml0
  have hown : s.vm.findClass "java/util/List" = some m.cls := findClass_of_methodNamed Bd.named
  have hnm := (name_of_methodNamed Bd.named Bd.method).1
  have hlk := Bd.notSynchronized
  have hret := Bd.returns
  have X0 : Stand p l e ({ frames := 0, cells := 0, slots := 0, locals := 0 } : Room) s m #[] below meth c s₁ [] 0 0 := Stand.of_body Bd
  have e0 : s₁.heap = h0 := by rw [← hh, Bd.state]; rfl
  have N0 := Fr.nil n0
  refine own_in ({ frames := 0, cells := 0, slots := 0, locals := 0 } : Room).cells ({ frames := 0, cells := 0, slots := 0, locals := 0 } : Room).slots (Q_listOf Z wL h0 n0) (ef_listOf m ) ?_
  show own_G p.tables e below _ (s₁.setTop (mkF m 0 #[] []))
  obtain ⟨T1, X1, e1, st1⟩ := getS2 X0 hx hZ hown (host := "") (Or.inl (own_w hw 45 rfl)) Via.refl e0 (Sta.ext O0.2 S_L) (g := (mkF m 0 #[] [])) rfl (hb hby d6_0)
  refine own_st st1 ?_
  show own_G p.tables e below _ (T1.setTop (mkF m 3 #[] [(.ref wL)]))
  exact own_retA X1 hx hlk hret rfl rfl (hb hby d6_3) (by decide) (by decide) (by rw [e1]; exact ⟨rfl, N0, rfl⟩)
theorem d10_0 : decode jdk_38_method_9_code 0 = .ok (.aload_n 0, 1) := by decide +kernel
theorem d10_1 : decode jdk_38_method_9_code 1 = .ok (.getfield 48, 3) := by decide +kernel
theorem d10_4 : decode jdk_38_method_9_code 4 = .ok (.ifCond .ne 7, 3) := by decide +kernel
theorem d10_7 : decode jdk_38_method_9_code 7 = .ok (.iconst 1, 1) := by decide +kernel
theorem d10_8 : decode jdk_38_method_9_code 8 = .ok (.goto 4, 3) := by decide +kernel
theorem d10_11 : decode jdk_38_method_9_code 11 = .ok (.iconst 0, 1) := by decide +kernel
theorem d10_12 : decode jdk_38_method_9_code 12 = .ok (.ireturn, 1) := by decide +kernel
theorem pn_10 : plainName "java/util/ArrayList" = true := by first | (simp [plainName, overriddenIn]; done) | decide +kernel
theorem ef_arlEmpty (m : MethodId) (x0 : Addr) : entryFrame m #[(.ref x0)] 1 = mkF m 0 #[.val (.ref x0)] [] := by first | (simp [entryFrame, mkF, argsToLocals, Value.category]; done) | rfl
def Q_arlEmpty (Z : State) (a1 : Addr) (h0 : Heap) (n0 : Nat) (v : Option Value) (h : Heap) (L : List Loc) : Prop := v = some (.int (1 : Int32)) ∧ Fr n0 L ∧ h = h0
set_option maxRecDepth 65536 in
set_option maxHeartbeats 40000000 in
theorem rm_arlEmpty (l : Launch) (Z : State) (a0 : Array Value) (hw : ∀ d ∈ tables_1, d.before a0 Z = true) (ws : List Jvm.Cond) (a1 : Addr) (h0 : Heap) (n0 : Nat) (Z0 : n0 ≤ h0.size) (F_s : Fld Z h0 a1 "java/util/ArrayList" "size" "I" (.int (0 : Int32))) :
    MetFree l (⟨"java/util/ArrayList", "isEmpty", "()Z"⟩ : MethodName) (head1 (Jvm.Cond.code (⟨"java/util/ArrayList", "isEmpty", "()Z"⟩ : MethodName) jdk_38_method_9_code 1 (some .boolean) :: ws) ({ frames := 0, cells := 0, slots := 0, locals := 0 } : Room)) (fun a U => a = #[(.ref a1)] ∧ Z.Warmed39 U.vm ∧ U.heap = h0) (fun _ _ _ _ _ => True) (fun _ U o U' => ∃ v L, o = .returned v ∧ Q_arlEmpty Z a1 h0 n0 v U'.heap L ∧ FrameEnd U o U' L ({ frames := 0, cells := 0, slots := 0, locals := 0 } : Room).cells ({ frames := 0, cells := 0, slots := 0, locals := 0 } : Room).slots) := by
  refine MetFree.of_bodySF (plainFor_of_name pn_10) hisR ?_
  intro p e s m args below meth c s₁ Bd hml0 hP hK
  obtain ⟨rfl, hZ, hh⟩ := hP
  have hx := Bd.exec
  have hby := Bd.bytes
  have hml : c.maxLocals = 1 := hml0
  have hown : s.vm.findClass "java/util/ArrayList" = some m.cls := findClass_of_methodNamed Bd.named
  have hnm := (name_of_methodNamed Bd.named Bd.method).1
  have hlk := Bd.notSynchronized
  have hret := Bd.returns
  have X0 : Stand p l e ({ frames := 0, cells := 0, slots := 0, locals := 0 } : Room) s m #[(.ref a1)] below meth c s₁ [] 0 0 := Stand.of_body Bd
  have e0 : s₁.heap = h0 := by rw [← hh, Bd.state]; rfl
  have N0 := Fr.nil n0
  refine own_in ({ frames := 0, cells := 0, slots := 0, locals := 0 } : Room).cells ({ frames := 0, cells := 0, slots := 0, locals := 0 } : Room).slots (Q_arlEmpty Z a1 h0 n0) (ef_arlEmpty m a1) ?_
  show own_G p.tables e below _ (s₁.setTop (mkF m 0 #[.val (.ref a1)] []))
  refine own_st (fun _ kS => XS.aloadN X0.here hx rfl (hb hby d10_0) rfl rfl kS) ?_
  show own_G p.tables e below _ (s₁.setTop (mkF m 1 #[.val (.ref a1)] [(.ref a1)]))
  obtain ⟨T1, X1, e1, st1⟩ := getF X0 hx hZ hown (host := "") (Or.inl (own_w hw 74 rfl)) Via.refl e0 F_s (g := (mkF m 1 #[.val (.ref a1)] [(.ref a1)])) rfl rfl (hb hby d10_1)
  refine own_st st1 ?_
  show own_G p.tables e below _ (T1.setTop (mkF m 4 #[.val (.ref a1)] [(.int (0 : Int32))]))
  refine own_st (fun _ kS => XS.ifNo X1.here hx rfl (hb hby d10_4) rfl ((if0 _ _).trans (teq (by decide : (0 : Int32) = (0 : Int32))).2) kS) ?_
  show own_G p.tables e below _ (T1.setTop (mkF m 7 #[.val (.ref a1)] []))
  refine own_st (fun _ kS => XS.iconst X1.here hx rfl (hb hby d10_7) kS) ?_
  refine own_st (fun _ kS => XS.goto X1.here hx rfl (pc0 := 8) (pc' := 12) rfl (hb hby d10_8) (by decide) (by decide) kS) ?_
  show own_G p.tables e below _ (T1.setTop (mkF m 12 #[.val (.ref a1)] [(.int (1 : Int32))]))
  exact own_retN X1 hx hlk (t := .boolean) hret (by simp) (hb hby d10_12) (by decide) (by decide) (v' := (1 : Int32)) rfl (by rw [e1]; exact ⟨rfl, N0, rfl⟩)
theorem d9_0 : decode jdk_56_method_3_code 0 = .ok (.aload_n 0, 1) := by decide +kernel
theorem d9_1 : decode jdk_56_method_3_code 1 = .ok (.instanceof 10, 3) := by decide +kernel
theorem d9_4 : decode jdk_56_method_3_code 4 = .ok (.ifCond .ne 22, 3) := by decide +kernel
theorem d9_7 : decode jdk_56_method_3_code 7 = .ok (.aload_n 0, 1) := by decide +kernel
theorem d9_8 : decode jdk_56_method_3_code 8 = .ok (.instanceof 12, 3) := by decide +kernel
theorem d9_11 : decode jdk_56_method_3_code 11 = .ok (.ifCond .eq 20, 3) := by decide +kernel
theorem d9_14 : decode jdk_56_method_3_code 14 = .ok (.aload_n 0, 1) := by decide +kernel
theorem d9_15 : decode jdk_56_method_3_code 15 = .ok (.checkcast 12, 3) := by decide +kernel
theorem d9_18 : decode jdk_56_method_3_code 18 = .ok (.astore_n 1, 1) := by decide +kernel
theorem d9_19 : decode jdk_56_method_3_code 19 = .ok (.aload_n 1, 1) := by decide +kernel
theorem d9_20 : decode jdk_56_method_3_code 20 = .ok (.getfield 14, 3) := by decide +kernel
theorem d9_23 : decode jdk_56_method_3_code 23 = .ok (.ifCond .ne 8, 3) := by decide +kernel
theorem d9_26 : decode jdk_56_method_3_code 26 = .ok (.aload_n 0, 1) := by decide +kernel
theorem d9_27 : decode jdk_56_method_3_code 27 = .ok (.checkcast 18, 3) := by decide +kernel
theorem d9_30 : decode jdk_56_method_3_code 30 = .ok (.areturn, 1) := by decide +kernel
theorem d9_31 : decode jdk_56_method_3_code 31 = .ok (.aload_n 0, 1) := by decide +kernel
theorem d9_32 : decode jdk_56_method_3_code 32 = .ok (.invokeinterface 20 1, 5) := by decide +kernel
theorem d9_37 : decode jdk_56_method_3_code 37 = .ok (.ifCond .eq 7, 3) := by decide +kernel
theorem d9_40 : decode jdk_56_method_3_code 40 = .ok (.invokestatic 26, 3) := by decide +kernel
theorem d9_43 : decode jdk_56_method_3_code 43 = .ok (.areturn, 1) := by decide +kernel
theorem d9_44 : decode jdk_56_method_3_code 44 = .ok (.aload_n 0, 1) := by decide +kernel
theorem d9_45 : decode jdk_56_method_3_code 45 = .ok (.invokeinterface 30 1, 5) := by decide +kernel
theorem d9_50 : decode jdk_56_method_3_code 50 = .ok (.invokestatic 34, 3) := by decide +kernel
theorem d9_53 : decode jdk_56_method_3_code 53 = .ok (.areturn, 1) := by decide +kernel
theorem pn_9 : plainName "java/util/ImmutableCollections" = true := by first | (simp [plainName, overriddenIn]; done) | decide +kernel
theorem own_pd1 : parseMethodDescriptor "()Z" = some ⟨[], some .boolean⟩ := by decide +kernel
theorem own_pd2 : parseMethodDescriptor "()Ljava/util/List;" = some ⟨[], some (.object "java/util/List")⟩ := by decide +kernel
theorem ef_lcA0 (m : MethodId) (x0 : Addr) : entryFrame m #[(.ref x0)] 2 = mkF m 0 #[.val (.ref x0), .unset] [] := by first | (simp [entryFrame, mkF, argsToLocals, Value.category]; done) | rfl
def Q_lcA0 (Z : State) (a1 : Addr) (wL : Addr) (h0 : Heap) (n0 : Nat) (v : Option Value) (h : Heap) (L : List Loc) : Prop := v = some (.ref wL) ∧ Fr n0 L ∧ h = h0
set_option maxRecDepth 65536 in
set_option maxHeartbeats 40000000 in
theorem rm_lcA0 (l : Launch) (Z : State) (a0 : Array Value) (hw : ∀ d ∈ tables_1, d.before a0 Z = true) (ws : List Jvm.Cond) (a1 : Addr) (wL : Addr) (h0 : Heap) (n0 : Nat) (Z0 : n0 ≤ h0.size) (O0 : Old Z n0 h0) (E_1 : Exa Z h0 a1 "java/util/ArrayList") (F_s : Fld Z h0 a1 "java/util/ArrayList" "size" "I" (.int (0 : Int32))) (hI : ∃ c t, Z.vm.findClass "java/util/ArrayList" = some c ∧ Z.vm.findClass "java/util/ImmutableCollections$List12" = some t ∧ Z.vm.assignable c t = false) (hN : ∃ c t, Z.vm.findClass "java/util/ArrayList" = some c ∧ Z.vm.findClass "java/util/ImmutableCollections$ListN" = some t ∧ Z.vm.assignable c t = false) (S_L : Sta Z Z.heap "java/util/ImmutableCollections" "EMPTY_LIST" "Ljava/util/ImmutableCollections$ListN;" (.ref wL)) :
    MetFree l (⟨"java/util/ImmutableCollections", "listCopy", "(Ljava/util/Collection;)Ljava/util/List;"⟩ : MethodName) (head1 (Jvm.Cond.code (⟨"java/util/ImmutableCollections", "listCopy", "(Ljava/util/Collection;)Ljava/util/List;"⟩ : MethodName) jdk_56_method_3_code 2 (some (.object "java/util/List")) :: ws) ({ frames := 1, cells := 0, slots := 0, locals := 12 } : Room)) (fun a U => a = #[(.ref a1)] ∧ Z.Warmed39 U.vm ∧ U.heap = h0) (fun _ _ _ _ _ => True) (fun _ U o U' => ∃ v L, o = .returned v ∧ Q_lcA0 Z a1 wL h0 n0 v U'.heap L ∧ FrameEnd U o U' L ({ frames := 1, cells := 0, slots := 0, locals := 12 } : Room).cells ({ frames := 1, cells := 0, slots := 0, locals := 12 } : Room).slots) := by
  refine MetFree.of_bodySF (plainFor_of_name pn_9) hisR ?_
  intro p e s m args below meth c s₁ Bd hml0 hP hK
  obtain ⟨rfl, hZ, hh⟩ := hP
  have hx := Bd.exec
  have hby := Bd.bytes
  have hml : c.maxLocals = 2 := hml0
  have hown : s.vm.findClass "java/util/ImmutableCollections" = some m.cls := findClass_of_methodNamed Bd.named
  have hnm := (name_of_methodNamed Bd.named Bd.method).1
  have hlk := Bd.notSynchronized
  have hret := Bd.returns
  have X0 : Stand p l e ({ frames := 1, cells := 0, slots := 0, locals := 12 } : Room) s m #[(.ref a1)] below meth c s₁ [] 0 0 := Stand.of_body Bd
  have e0 : s₁.heap = h0 := by rw [← hh, Bd.state]; rfl
  have N0 := Fr.nil n0
  refine own_in ({ frames := 1, cells := 0, slots := 0, locals := 12 } : Room).cells ({ frames := 1, cells := 0, slots := 0, locals := 12 } : Room).slots (Q_lcA0 Z a1 wL h0 n0) (ef_lcA0 m a1) ?_
  show own_G p.tables e below _ (s₁.setTop (mkF m 0 #[.val (.ref a1), .unset] []))
  refine own_st (fun _ kS => XS.aloadN X0.here hx rfl (hb hby d9_0) rfl rfl kS) ?_
  show own_G p.tables e below _ (s₁.setTop (mkF m 1 #[.val (.ref a1), .unset] [(.ref a1)]))
  obtain ⟨T1, X1, e1, st1⟩ := instNo X0 hx hZ hown (own_w hw 59 rfl) e0 E_1 hI (g := (mkF m 1 #[.val (.ref a1), .unset] [(.ref a1)])) rfl rfl (hb hby d9_1)
  refine own_st st1 ?_
  show own_G p.tables e below _ (T1.setTop (mkF m 4 #[.val (.ref a1), .unset] [(.int (0 : Int32))]))
  refine own_st (fun _ kS => XS.ifNo X1.here hx rfl (hb hby d9_4) rfl ((if0 _ _).trans (teq (by decide : (0 : Int32) = (0 : Int32))).2) kS) ?_
  show own_G p.tables e below _ (T1.setTop (mkF m 7 #[.val (.ref a1), .unset] []))
  refine own_st (fun _ kS => XS.aloadN X1.here hx rfl (hb hby d9_7) rfl rfl kS) ?_
  show own_G p.tables e below _ (T1.setTop (mkF m 8 #[.val (.ref a1), .unset] [(.ref a1)]))
  obtain ⟨T2, X2, e2, st2⟩ := instNo X1 hx hZ hown (own_w hw 64 rfl) e1 E_1 hN (g := (mkF m 8 #[.val (.ref a1), .unset] [(.ref a1)])) rfl rfl (hb hby d9_8)
  refine own_st st2 ?_
  show own_G p.tables e below _ (T2.setTop (mkF m 11 #[.val (.ref a1), .unset] [(.int (0 : Int32))]))
  refine own_st (fun _ kS => XS.ifYes X2.here hx rfl (pc0 := 11) (pc' := 31) rfl (hb hby d9_11) rfl ((if0 _ _).trans (teq (by decide : (0 : Int32) = (0 : Int32))).1) (by decide) (by decide) kS) ?_
  show own_G p.tables e below _ (T2.setTop (mkF m 31 #[.val (.ref a1), .unset] []))
  refine own_st (fun _ kS => XS.aloadN X2.here hx rfl (hb hby d9_31) rfl rfl kS) ?_
  show own_G p.tables e below _ (T2.setTop (mkF m 32 #[.val (.ref a1), .unset] [(.ref a1)]))
  obtain ⟨cq3, kq3, q3a, q3b, q3c⟩ := isOf hZ e2 E_1
  obtain ⟨_, _, ⟨T3, L3, k3, n3⟩, -, X3, ⟨Lc3, hQ3, l3, y3, z3⟩, st3⟩ := X2.interfaceBack hx (xi := (⟨"java/util/Collection", "isEmpty", "()Z"⟩ : MethodName)) (y := (⟨"java/util/ArrayList", "isEmpty", "()Z"⟩ : MethodName)) hown (mvT hZ (own_w hw 65 rfl)) (mvT hZ (own_w hw 66 rfl)) (mvT hZ (own_w hw 67 rfl)) (mvT hZ (own_w hw 68 rfl)) (mvT hZ (own_w hw 69 rfl)) (mvT hZ (own_w hw 70 rfl)) (mvT hZ (own_w hw 71 rfl)) (mvT hZ (own_w hw 72 rfl)) (by decide) (backOf (W := 0) (rm_arlEmpty l Z a0 hw [] a1 h0 n0 Z0  F_s) hZ (own_w hw 73 rfl) (own_w hw 14 rfl) (by decide) (by decide)) q3a q3b q3c (g := (mkF m 32 #[.val (.ref a1), .unset] [(.ref a1)])) rfl (by rw [hml]; rfl) (Steps.refl _) (argsL := []) (rest := []) (lenOf own_pd1 rfl) rfl (by show 2 * 0 + _ ≤ _; exact Nat.le_of_eq rfl) (hb hby d9_32) (fun _ _ => ⟨rfl, e2, (by decide : 0 + 0 ≤ _), (by decide : 0 + 0 ≤ _)⟩)
  dsimp only [Pt.U, Pt.locs, Pt.cells, Pt.slots] at X3 l3 y3 z3 st3 hQ3
  subst l3 y3 z3
  obtain ⟨rfl, Nq3, eq3⟩ := hQ3
  have N3 := Fr.app N0 Nq3
  refine own_tr st3 ?_
  show own_G p.tables e below _ (T3.setTop (mkF m 37 #[.val (.ref a1), .unset] [(.int (1 : Int32))]))
  refine own_st (fun _ kS => XS.ifNo X3.here hx rfl (hb hby d9_37) rfl ((if0 _ _).trans (feq (by decide : ¬ ((1 : Int32) = (0 : Int32)))).1) kS) ?_
  show own_G p.tables e below _ (T3.setTop (mkF m 40 #[.val (.ref a1), .unset] []))
  obtain ⟨_, _, ⟨T4, L4, k4, n4⟩, -, X4, ⟨Lc4, hQ4, l4, y4, z4⟩, st4⟩ := Jvm.LawKit.callS X3 hx (y := (⟨"java/util/List", "of", "()Ljava/util/List;"⟩ : MethodName)) hown (mvT hZ (own_w hw 76 rfl)) (mvT hZ (own_w hw 42 rfl)) (mvT hZ (own_w hw 43 rfl)) (mvT hZ (own_w hw 44 rfl)) (by decide) (backOf (W := 0) (rm_listOf l Z a0 hw [] wL h0 n0 Z0 O0 S_L) hZ (own_w hw 44 rfl) (own_w hw 43 rfl) (by decide) (by decide)) (g := (mkF m 40 #[.val (.ref a1), .unset] [])) rfl (by rw [hml]; rfl) (argsL := []) (rest := []) (lenOf own_pd2 rfl) rfl (by show 2 * 0 + _ ≤ _; exact Nat.le_of_eq rfl) (hb hby d9_40) (fun _ _ => ⟨rfl, eq3, (by decide : 0 + 0 ≤ _), (by decide : 0 + 0 ≤ _)⟩)
  dsimp only [Pt.U, Pt.locs, Pt.cells, Pt.slots] at X4 l4 y4 z4 st4 hQ4
  subst l4 y4 z4
  obtain ⟨rfl, Nq4, eq4⟩ := hQ4
  have N4 := Fr.app N3 Nq4
  refine own_st st4 ?_
  show own_G p.tables e below _ (T4.setTop (mkF m 43 #[.val (.ref a1), .unset] [(.ref wL)]))
  exact own_retA X4 hx hlk hret rfl rfl (hb hby d9_43) (by decide) (by decide) (by rw [eq4]; exact ⟨rfl, N4, rfl⟩)
theorem ef_lcA1 (m : MethodId) (x0 : Addr) : entryFrame m #[(.ref x0)] 2 = mkF m 0 #[.val (.ref x0), .unset] [] := by first | (simp [entryFrame, mkF, argsToLocals, Value.category]; done) | rfl
def Q_lcA1 (Z : State) (a1 : Addr) (h0 : Heap) (n0 : Nat) (v : Option Value) (h : Heap) (L : List Loc) : Prop := v = some (.ref a1) ∧ Fr n0 L ∧ h = h0
set_option maxRecDepth 65536 in
set_option maxHeartbeats 40000000 in
theorem rm_lcA1 (l : Launch) (Z : State) (a0 : Array Value) (hw : ∀ d ∈ tables_1, d.before a0 Z = true) (ws : List Jvm.Cond) (a1 : Addr) (h0 : Heap) (n0 : Nat) (Z0 : n0 ≤ h0.size) (O0 : Old Z n0 h0) (E_1 : Exa Z h0 a1 "java/util/ArrayList") (F_s : Fld Z h0 a1 "java/util/ArrayList" "size" "I" (.int (0 : Int32))) (hI : ∃ c t, Z.vm.findClass "java/util/ArrayList" = some c ∧ Z.vm.findClass "java/util/ImmutableCollections$List12" = some t ∧ Z.vm.assignable c t = true) :
    MetFree l (⟨"java/util/ImmutableCollections", "listCopy", "(Ljava/util/Collection;)Ljava/util/List;"⟩ : MethodName) (head1 (Jvm.Cond.code (⟨"java/util/ImmutableCollections", "listCopy", "(Ljava/util/Collection;)Ljava/util/List;"⟩ : MethodName) jdk_56_method_3_code 2 (some (.object "java/util/List")) :: ws) ({ frames := 0, cells := 0, slots := 0, locals := 0 } : Room)) (fun a U => a = #[(.ref a1)] ∧ Z.Warmed39 U.vm ∧ U.heap = h0) (fun _ _ _ _ _ => True) (fun _ U o U' => ∃ v L, o = .returned v ∧ Q_lcA1 Z a1 h0 n0 v U'.heap L ∧ FrameEnd U o U' L ({ frames := 0, cells := 0, slots := 0, locals := 0 } : Room).cells ({ frames := 0, cells := 0, slots := 0, locals := 0 } : Room).slots) := by
  refine MetFree.of_bodySF (plainFor_of_name pn_9) hisR ?_
  intro p e s m args below meth c s₁ Bd hml0 hP hK
  obtain ⟨rfl, hZ, hh⟩ := hP
  have hx := Bd.exec
  have hby := Bd.bytes
  have hml : c.maxLocals = 2 := hml0
  have hown : s.vm.findClass "java/util/ImmutableCollections" = some m.cls := findClass_of_methodNamed Bd.named
  have hnm := (name_of_methodNamed Bd.named Bd.method).1
  have hlk := Bd.notSynchronized
  have hret := Bd.returns
  have X0 : Stand p l e ({ frames := 0, cells := 0, slots := 0, locals := 0 } : Room) s m #[(.ref a1)] below meth c s₁ [] 0 0 := Stand.of_body Bd
  have e0 : s₁.heap = h0 := by rw [← hh, Bd.state]; rfl
  have N0 := Fr.nil n0
  refine own_in ({ frames := 0, cells := 0, slots := 0, locals := 0 } : Room).cells ({ frames := 0, cells := 0, slots := 0, locals := 0 } : Room).slots (Q_lcA1 Z a1 h0 n0) (ef_lcA1 m a1) ?_
  show own_G p.tables e below _ (s₁.setTop (mkF m 0 #[.val (.ref a1), .unset] []))
  refine own_st (fun _ kS => XS.aloadN X0.here hx rfl (hb hby d9_0) rfl rfl kS) ?_
  show own_G p.tables e below _ (s₁.setTop (mkF m 1 #[.val (.ref a1), .unset] [(.ref a1)]))
  obtain ⟨T1, X1, e1, st1⟩ := instY X0 hx hZ hown (own_w hw 59 rfl) e0 (own_ins E_1 hI) (g := (mkF m 1 #[.val (.ref a1), .unset] [(.ref a1)])) rfl rfl (hb hby d9_1)
  refine own_st st1 ?_
  show own_G p.tables e below _ (T1.setTop (mkF m 4 #[.val (.ref a1), .unset] [(.int (1 : Int32))]))
  refine own_st (fun _ kS => XS.ifYes X1.here hx rfl (pc0 := 4) (pc' := 26) rfl (hb hby d9_4) rfl ((if0 _ _).trans (feq (by decide : ¬ ((1 : Int32) = (0 : Int32)))).2) (by decide) (by decide) kS) ?_
  show own_G p.tables e below _ (T1.setTop (mkF m 26 #[.val (.ref a1), .unset] []))
  refine own_st (fun _ kS => XS.aloadN X1.here hx rfl (hb hby d9_26) rfl rfl kS) ?_
  show own_G p.tables e below _ (T1.setTop (mkF m 27 #[.val (.ref a1), .unset] [(.ref a1)]))
  obtain ⟨T2, X2, e2, st2⟩ := castY X1 hx hZ hown (own_w hw 85 rfl) e1 (Ins.of_exa E_1 (own_w hw 196 rfl)) (g := (mkF m 27 #[.val (.ref a1), .unset] [(.ref a1)])) rfl rfl (hb hby d9_27)
  refine own_st st2 ?_
  show own_G p.tables e below _ (T2.setTop (mkF m 30 #[.val (.ref a1), .unset] [(.ref a1)]))
  exact own_retA X2 hx hlk hret rfl rfl (hb hby d9_30) (by decide) (by decide) (by rw [e2]; exact ⟨rfl, N0, rfl⟩)
theorem ef_lcN (m : MethodId) (x0 : Addr) : entryFrame m #[(.ref x0)] 2 = mkF m 0 #[.val (.ref x0), .unset] [] := by first | (simp [entryFrame, mkF, argsToLocals, Value.category]; done) | rfl
def Q_lcN (Z : State) (wL : Addr) (h0 : Heap) (n0 : Nat) (v : Option Value) (h : Heap) (L : List Loc) : Prop := v = some (.ref wL) ∧ Fr n0 L ∧ h = h0
set_option maxRecDepth 65536 in
set_option maxHeartbeats 40000000 in
theorem rm_lcN (l : Launch) (Z : State) (a0 : Array Value) (hw : ∀ d ∈ tables_1, d.before a0 Z = true) (ws : List Jvm.Cond) (wL : Addr) (h0 : Heap) (n0 : Nat) (Z0 : n0 ≤ h0.size) (O0 : Old Z n0 h0) (E_L : Exa Z Z.heap wL "java/util/ImmutableCollections$ListN") (F_a : Fld Z Z.heap wL "java/util/ImmutableCollections$ListN" "allowNulls" "Z" (.int (0 : Int32))) (hJ : (∃ c t, Z.vm.findClass "java/util/ImmutableCollections$ListN" = some c ∧ Z.vm.findClass "java/util/ImmutableCollections$List12" = some t ∧ Z.vm.assignable c t = true) ∨ (∃ c t, Z.vm.findClass "java/util/ImmutableCollections$ListN" = some c ∧ Z.vm.findClass "java/util/ImmutableCollections$List12" = some t ∧ Z.vm.assignable c t = false)) :
    MetFree l (⟨"java/util/ImmutableCollections", "listCopy", "(Ljava/util/Collection;)Ljava/util/List;"⟩ : MethodName) (head1 (Jvm.Cond.code (⟨"java/util/ImmutableCollections", "listCopy", "(Ljava/util/Collection;)Ljava/util/List;"⟩ : MethodName) jdk_56_method_3_code 2 (some (.object "java/util/List")) :: ws) ({ frames := 0, cells := 0, slots := 0, locals := 0 } : Room)) (fun a U => a = #[(.ref wL)] ∧ Z.Warmed39 U.vm ∧ U.heap = h0) (fun _ _ _ _ _ => True) (fun _ U o U' => ∃ v L, o = .returned v ∧ Q_lcN Z wL h0 n0 v U'.heap L ∧ FrameEnd U o U' L ({ frames := 0, cells := 0, slots := 0, locals := 0 } : Room).cells ({ frames := 0, cells := 0, slots := 0, locals := 0 } : Room).slots) := by
  refine MetFree.of_bodySF (plainFor_of_name pn_9) hisR ?_
  intro p e s m args below meth c s₁ Bd hml0 hP hK
  obtain ⟨rfl, hZ, hh⟩ := hP
  have hx := Bd.exec
  have hby := Bd.bytes
  have hml : c.maxLocals = 2 := hml0
  have hown : s.vm.findClass "java/util/ImmutableCollections" = some m.cls := findClass_of_methodNamed Bd.named
  have hnm := (name_of_methodNamed Bd.named Bd.method).1
  have hlk := Bd.notSynchronized
  have hret := Bd.returns
  have X0 : Stand p l e ({ frames := 0, cells := 0, slots := 0, locals := 0 } : Room) s m #[(.ref wL)] below meth c s₁ [] 0 0 := Stand.of_body Bd
  have e0 : s₁.heap = h0 := by rw [← hh, Bd.state]; rfl
  have N0 := Fr.nil n0
  refine own_in ({ frames := 0, cells := 0, slots := 0, locals := 0 } : Room).cells ({ frames := 0, cells := 0, slots := 0, locals := 0 } : Room).slots (Q_lcN Z wL h0 n0) (ef_lcN m wL) ?_
  show own_G p.tables e below _ (s₁.setTop (mkF m 0 #[.val (.ref wL), .unset] []))
  refine own_st (fun _ kS => XS.aloadN X0.here hx rfl (hb hby d9_0) rfl rfl kS) ?_
  show own_G p.tables e below _ (s₁.setTop (mkF m 1 #[.val (.ref wL), .unset] [(.ref wL)]))
  rcases hJ with hJ | hJ
  · skip
    show own_G p.tables e below _ (s₁.setTop (mkF m 1 #[.val (.ref wL), .unset] [(.ref wL)]))
    obtain ⟨T1, X1, e1, st1⟩ := instY X0 hx hZ hown (own_w hw 59 rfl) e0 (own_ins (Exa.ext O0.2 E_L) hJ) (g := (mkF m 1 #[.val (.ref wL), .unset] [(.ref wL)])) rfl rfl (hb hby d9_1)
    refine own_st st1 ?_
    show own_G p.tables e below _ (T1.setTop (mkF m 4 #[.val (.ref wL), .unset] [(.int (1 : Int32))]))
    refine own_st (fun _ kS => XS.ifYes X1.here hx rfl (pc0 := 4) (pc' := 26) rfl (hb hby d9_4) rfl ((if0 _ _).trans (feq (by decide : ¬ ((1 : Int32) = (0 : Int32)))).2) (by decide) (by decide) kS) ?_
    show own_G p.tables e below _ (T1.setTop (mkF m 26 #[.val (.ref wL), .unset] []))
    refine own_st (fun _ kS => XS.aloadN X1.here hx rfl (hb hby d9_26) rfl rfl kS) ?_
    show own_G p.tables e below _ (T1.setTop (mkF m 27 #[.val (.ref wL), .unset] [(.ref wL)]))
    obtain ⟨T2, X2, e2, st2⟩ := castY X1 hx hZ hown (own_w hw 85 rfl) e1 (Ins.of_exa (Exa.ext O0.2 E_L) (own_w hw 86 rfl)) (g := (mkF m 27 #[.val (.ref wL), .unset] [(.ref wL)])) rfl rfl (hb hby d9_27)
    refine own_st st2 ?_
    show own_G p.tables e below _ (T2.setTop (mkF m 30 #[.val (.ref wL), .unset] [(.ref wL)]))
    exact own_retA X2 hx hlk hret rfl rfl (hb hby d9_30) (by decide) (by decide) (by rw [e2]; exact ⟨rfl, N0, rfl⟩)
  · skip
    show own_G p.tables e below _ (s₁.setTop (mkF m 1 #[.val (.ref wL), .unset] [(.ref wL)]))
    obtain ⟨T3, X3, e3, st3⟩ := instNo X0 hx hZ hown (own_w hw 59 rfl) e0 (Exa.ext O0.2 E_L) hJ (g := (mkF m 1 #[.val (.ref wL), .unset] [(.ref wL)])) rfl rfl (hb hby d9_1)
    refine own_st st3 ?_
    show own_G p.tables e below _ (T3.setTop (mkF m 4 #[.val (.ref wL), .unset] [(.int (0 : Int32))]))
    refine own_st (fun _ kS => XS.ifNo X3.here hx rfl (hb hby d9_4) rfl ((if0 _ _).trans (teq (by decide : (0 : Int32) = (0 : Int32))).2) kS) ?_
    show own_G p.tables e below _ (T3.setTop (mkF m 7 #[.val (.ref wL), .unset] []))
    refine own_st (fun _ kS => XS.aloadN X3.here hx rfl (hb hby d9_7) rfl rfl kS) ?_
    show own_G p.tables e below _ (T3.setTop (mkF m 8 #[.val (.ref wL), .unset] [(.ref wL)]))
    obtain ⟨T4, X4, e4, st4⟩ := instY X3 hx hZ hown (own_w hw 64 rfl) e3 (Ins.self (Exa.ext O0.2 E_L)) (g := (mkF m 8 #[.val (.ref wL), .unset] [(.ref wL)])) rfl rfl (hb hby d9_8)
    refine own_st st4 ?_
    show own_G p.tables e below _ (T4.setTop (mkF m 11 #[.val (.ref wL), .unset] [(.int (1 : Int32))]))
    refine own_st (fun _ kS => XS.ifNo X4.here hx rfl (hb hby d9_11) rfl ((if0 _ _).trans (feq (by decide : ¬ ((1 : Int32) = (0 : Int32)))).1) kS) ?_
    show own_G p.tables e below _ (T4.setTop (mkF m 14 #[.val (.ref wL), .unset] []))
    refine own_st (fun _ kS => XS.aloadN X4.here hx rfl (hb hby d9_14) rfl rfl kS) ?_
    show own_G p.tables e below _ (T4.setTop (mkF m 15 #[.val (.ref wL), .unset] [(.ref wL)]))
    obtain ⟨T5, X5, e5, st5⟩ := castY X4 hx hZ hown (own_w hw 64 rfl) e4 (Ins.self (Exa.ext O0.2 E_L)) (g := (mkF m 15 #[.val (.ref wL), .unset] [(.ref wL)])) rfl rfl (hb hby d9_15)
    refine own_st st5 ?_
    show own_G p.tables e below _ (T5.setTop (mkF m 18 #[.val (.ref wL), .unset] [(.ref wL)]))
    refine own_st (fun _ kS => XS.astoreN X5.here hx rfl (hb hby d9_18) rfl rfl (l' := #[.val (.ref wL), .val (.ref wL)]) rfl kS) ?_
    show own_G p.tables e below _ (T5.setTop (mkF m 19 #[.val (.ref wL), .val (.ref wL)] []))
    refine own_st (fun _ kS => XS.aloadN X5.here hx rfl (hb hby d9_19) rfl rfl kS) ?_
    show own_G p.tables e below _ (T5.setTop (mkF m 20 #[.val (.ref wL), .val (.ref wL)] [(.ref wL)]))
    obtain ⟨T6, X6, e6, st6⟩ := getF X5 hx hZ hown (Or.inr (own_w hw 83 rfl)) Via.refl e5 (Fld.ext O0.2 F_a) (g := (mkF m 20 #[.val (.ref wL), .val (.ref wL)] [(.ref wL)])) rfl rfl (hb hby d9_20)
    refine own_st st6 ?_
    show own_G p.tables e below _ (T6.setTop (mkF m 23 #[.val (.ref wL), .val (.ref wL)] [(.int (0 : Int32))]))
    refine own_st (fun _ kS => XS.ifNo X6.here hx rfl (hb hby d9_23) rfl ((if0 _ _).trans (teq (by decide : (0 : Int32) = (0 : Int32))).2) kS) ?_
    show own_G p.tables e below _ (T6.setTop (mkF m 26 #[.val (.ref wL), .val (.ref wL)] []))
    refine own_st (fun _ kS => XS.aloadN X6.here hx rfl (hb hby d9_26) rfl rfl kS) ?_
    show own_G p.tables e below _ (T6.setTop (mkF m 27 #[.val (.ref wL), .val (.ref wL)] [(.ref wL)]))
    obtain ⟨T7, X7, e7, st7⟩ := castY X6 hx hZ hown (own_w hw 85 rfl) e6 (Ins.of_exa (Exa.ext O0.2 E_L) (own_w hw 86 rfl)) (g := (mkF m 27 #[.val (.ref wL), .val (.ref wL)] [(.ref wL)])) rfl rfl (hb hby d9_27)
    refine own_st st7 ?_
    show own_G p.tables e below _ (T7.setTop (mkF m 30 #[.val (.ref wL), .val (.ref wL)] [(.ref wL)]))
    exact own_retA X7 hx hlk hret rfl rfl (hb hby d9_30) (by decide) (by decide) (by rw [e7]; exact ⟨rfl, N0, rfl⟩)
theorem d8_0 : decode jdk_40_method_48_code 0 = .ok (.aload_n 0, 1) := by decide +kernel
theorem d8_1 : decode jdk_40_method_48_code 1 = .ok (.invokestatic 112, 3) := by decide +kernel
theorem d8_4 : decode jdk_40_method_48_code 4 = .ok (.areturn, 1) := by decide +kernel
theorem pn_8 : plainName "java/util/List" = true := by first | (simp [plainName, overriddenIn]; done) | decide +kernel
theorem own_pd3 : parseMethodDescriptor "(Ljava/util/Collection;)Ljava/util/List;" = some ⟨[(.object "java/util/Collection")], some (.object "java/util/List")⟩ := by decide +kernel
theorem ef_cpA0 (m : MethodId) (x0 : Addr) : entryFrame m #[(.ref x0)] 1 = mkF m 0 #[.val (.ref x0)] [] := by first | (simp [entryFrame, mkF, argsToLocals, Value.category]; done) | rfl
def Q_cpA0 (Z : State) (a1 : Addr) (wL : Addr) (h0 : Heap) (n0 : Nat) (v : Option Value) (h : Heap) (L : List Loc) : Prop := v = some (.ref wL) ∧ Fr n0 L ∧ h = h0
set_option maxRecDepth 65536 in
set_option maxHeartbeats 40000000 in
theorem rm_cpA0 (l : Launch) (Z : State) (a0 : Array Value) (hw : ∀ d ∈ tables_1, d.before a0 Z = true) (ws : List Jvm.Cond) (a1 : Addr) (wL : Addr) (h0 : Heap) (n0 : Nat) (Z0 : n0 ≤ h0.size) (O0 : Old Z n0 h0) (E_1 : Exa Z h0 a1 "java/util/ArrayList") (F_s : Fld Z h0 a1 "java/util/ArrayList" "size" "I" (.int (0 : Int32))) (hI : ∃ c t, Z.vm.findClass "java/util/ArrayList" = some c ∧ Z.vm.findClass "java/util/ImmutableCollections$List12" = some t ∧ Z.vm.assignable c t = false) (hN : ∃ c t, Z.vm.findClass "java/util/ArrayList" = some c ∧ Z.vm.findClass "java/util/ImmutableCollections$ListN" = some t ∧ Z.vm.assignable c t = false) (S_L : Sta Z Z.heap "java/util/ImmutableCollections" "EMPTY_LIST" "Ljava/util/ImmutableCollections$ListN;" (.ref wL)) :
    MetFree l (⟨"java/util/List", "copyOf", "(Ljava/util/Collection;)Ljava/util/List;"⟩ : MethodName) (head1 (Jvm.Cond.code (⟨"java/util/List", "copyOf", "(Ljava/util/Collection;)Ljava/util/List;"⟩ : MethodName) jdk_40_method_48_code 1 (some (.object "java/util/List")) :: ws) ({ frames := 2, cells := 0, slots := 0, locals := 25 } : Room)) (fun a U => a = #[(.ref a1)] ∧ Z.Warmed39 U.vm ∧ U.heap = h0) (fun _ _ _ _ _ => True) (fun _ U o U' => ∃ v L, o = .returned v ∧ Q_cpA0 Z a1 wL h0 n0 v U'.heap L ∧ FrameEnd U o U' L ({ frames := 2, cells := 0, slots := 0, locals := 25 } : Room).cells ({ frames := 2, cells := 0, slots := 0, locals := 25 } : Room).slots) := by
  refine MetFree.of_bodySF (plainFor_of_name pn_8) hisR ?_
  intro p e s m args below meth c s₁ Bd hml0 hP hK
  obtain ⟨rfl, hZ, hh⟩ := hP
  have hx := Bd.exec
  have hby := Bd.bytes
  have hml : c.maxLocals = 1 := hml0
  have hown : s.vm.findClass "java/util/List" = some m.cls := findClass_of_methodNamed Bd.named
  have hnm := (name_of_methodNamed Bd.named Bd.method).1
  have hlk := Bd.notSynchronized
  have hret := Bd.returns
  have X0 : Stand p l e ({ frames := 2, cells := 0, slots := 0, locals := 25 } : Room) s m #[(.ref a1)] below meth c s₁ [] 0 0 := Stand.of_body Bd
  have e0 : s₁.heap = h0 := by rw [← hh, Bd.state]; rfl
  have N0 := Fr.nil n0
  refine own_in ({ frames := 2, cells := 0, slots := 0, locals := 25 } : Room).cells ({ frames := 2, cells := 0, slots := 0, locals := 25 } : Room).slots (Q_cpA0 Z a1 wL h0 n0) (ef_cpA0 m a1) ?_
  show own_G p.tables e below _ (s₁.setTop (mkF m 0 #[.val (.ref a1)] []))
  refine own_st (fun _ kS => XS.aloadN X0.here hx rfl (hb hby d8_0) rfl rfl kS) ?_
  show own_G p.tables e below _ (s₁.setTop (mkF m 1 #[.val (.ref a1)] [(.ref a1)]))
  obtain ⟨_, _, ⟨T1, L1, k1, n1⟩, -, X1, ⟨Lc1, hQ1, l1, y1, z1⟩, st1⟩ := Jvm.LawKit.callS X0 hx (y := (⟨"java/util/ImmutableCollections", "listCopy", "(Ljava/util/Collection;)Ljava/util/List;"⟩ : MethodName)) hown (mvT hZ (own_w hw 56 rfl)) (mvT hZ (own_w hw 57 rfl)) (mvT hZ (own_w hw 46 rfl)) (mvT hZ (own_w hw 58 rfl)) (by decide) (backOf (W := 0) (rm_lcA0 l Z a0 hw [] a1 wL h0 n0 Z0 O0 E_1 F_s hI hN S_L) hZ (own_w hw 58 rfl) (own_w hw 46 rfl) (by decide) (by decide)) (g := (mkF m 1 #[.val (.ref a1)] [(.ref a1)])) rfl (by rw [hml]; rfl) (argsL := [(.ref a1)]) (rest := []) (lenOf own_pd3 rfl) rfl (by show 2 * 0 + _ ≤ _; exact Nat.le_of_eq rfl) (hb hby d8_1) (fun _ _ => ⟨rfl, e0, (by decide : 0 + 0 ≤ _), (by decide : 0 + 0 ≤ _)⟩)
  dsimp only [Pt.U, Pt.locs, Pt.cells, Pt.slots] at X1 l1 y1 z1 st1 hQ1
  subst l1 y1 z1
  obtain ⟨rfl, Nq1, eq1⟩ := hQ1
  have N1 := Fr.app N0 Nq1
  refine own_st st1 ?_
  show own_G p.tables e below _ (T1.setTop (mkF m 4 #[.val (.ref a1)] [(.ref wL)]))
  exact own_retA X1 hx hlk hret rfl rfl (hb hby d8_4) (by decide) (by decide) (by rw [eq1]; exact ⟨rfl, N1, rfl⟩)
theorem ef_cpA1 (m : MethodId) (x0 : Addr) : entryFrame m #[(.ref x0)] 1 = mkF m 0 #[.val (.ref x0)] [] := by first | (simp [entryFrame, mkF, argsToLocals, Value.category]; done) | rfl
def Q_cpA1 (Z : State) (a1 : Addr) (h0 : Heap) (n0 : Nat) (v : Option Value) (h : Heap) (L : List Loc) : Prop := v = some (.ref a1) ∧ Fr n0 L ∧ h = h0
set_option maxRecDepth 65536 in
set_option maxHeartbeats 40000000 in
theorem rm_cpA1 (l : Launch) (Z : State) (a0 : Array Value) (hw : ∀ d ∈ tables_1, d.before a0 Z = true) (ws : List Jvm.Cond) (a1 : Addr) (h0 : Heap) (n0 : Nat) (Z0 : n0 ≤ h0.size) (O0 : Old Z n0 h0) (E_1 : Exa Z h0 a1 "java/util/ArrayList") (F_s : Fld Z h0 a1 "java/util/ArrayList" "size" "I" (.int (0 : Int32))) (hI : ∃ c t, Z.vm.findClass "java/util/ArrayList" = some c ∧ Z.vm.findClass "java/util/ImmutableCollections$List12" = some t ∧ Z.vm.assignable c t = true) :
    MetFree l (⟨"java/util/List", "copyOf", "(Ljava/util/Collection;)Ljava/util/List;"⟩ : MethodName) (head1 (Jvm.Cond.code (⟨"java/util/List", "copyOf", "(Ljava/util/Collection;)Ljava/util/List;"⟩ : MethodName) jdk_40_method_48_code 1 (some (.object "java/util/List")) :: ws) ({ frames := 1, cells := 0, slots := 0, locals := 13 } : Room)) (fun a U => a = #[(.ref a1)] ∧ Z.Warmed39 U.vm ∧ U.heap = h0) (fun _ _ _ _ _ => True) (fun _ U o U' => ∃ v L, o = .returned v ∧ Q_cpA1 Z a1 h0 n0 v U'.heap L ∧ FrameEnd U o U' L ({ frames := 1, cells := 0, slots := 0, locals := 13 } : Room).cells ({ frames := 1, cells := 0, slots := 0, locals := 13 } : Room).slots) := by
  refine MetFree.of_bodySF (plainFor_of_name pn_8) hisR ?_
  intro p e s m args below meth c s₁ Bd hml0 hP hK
  obtain ⟨rfl, hZ, hh⟩ := hP
  have hx := Bd.exec
  have hby := Bd.bytes
  have hml : c.maxLocals = 1 := hml0
  have hown : s.vm.findClass "java/util/List" = some m.cls := findClass_of_methodNamed Bd.named
  have hnm := (name_of_methodNamed Bd.named Bd.method).1
  have hlk := Bd.notSynchronized
  have hret := Bd.returns
  have X0 : Stand p l e ({ frames := 1, cells := 0, slots := 0, locals := 13 } : Room) s m #[(.ref a1)] below meth c s₁ [] 0 0 := Stand.of_body Bd
  have e0 : s₁.heap = h0 := by rw [← hh, Bd.state]; rfl
  have N0 := Fr.nil n0
  refine own_in ({ frames := 1, cells := 0, slots := 0, locals := 13 } : Room).cells ({ frames := 1, cells := 0, slots := 0, locals := 13 } : Room).slots (Q_cpA1 Z a1 h0 n0) (ef_cpA1 m a1) ?_
  show own_G p.tables e below _ (s₁.setTop (mkF m 0 #[.val (.ref a1)] []))
  refine own_st (fun _ kS => XS.aloadN X0.here hx rfl (hb hby d8_0) rfl rfl kS) ?_
  show own_G p.tables e below _ (s₁.setTop (mkF m 1 #[.val (.ref a1)] [(.ref a1)]))
  obtain ⟨_, _, ⟨T1, L1, k1, n1⟩, -, X1, ⟨Lc1, hQ1, l1, y1, z1⟩, st1⟩ := Jvm.LawKit.callS X0 hx (y := (⟨"java/util/ImmutableCollections", "listCopy", "(Ljava/util/Collection;)Ljava/util/List;"⟩ : MethodName)) hown (mvT hZ (own_w hw 56 rfl)) (mvT hZ (own_w hw 57 rfl)) (mvT hZ (own_w hw 46 rfl)) (mvT hZ (own_w hw 58 rfl)) (by decide) (backOf (W := 0) (rm_lcA1 l Z a0 hw [] a1 h0 n0 Z0 O0 E_1 F_s hI) hZ (own_w hw 58 rfl) (own_w hw 46 rfl) (by decide) (by decide)) (g := (mkF m 1 #[.val (.ref a1)] [(.ref a1)])) rfl (by rw [hml]; rfl) (argsL := [(.ref a1)]) (rest := []) (lenOf own_pd3 rfl) rfl (by show 2 * 0 + _ ≤ _; exact Nat.le_of_eq rfl) (hb hby d8_1) (fun _ _ => ⟨rfl, e0, (by decide : 0 + 0 ≤ _), (by decide : 0 + 0 ≤ _)⟩)
  dsimp only [Pt.U, Pt.locs, Pt.cells, Pt.slots] at X1 l1 y1 z1 st1 hQ1
  subst l1 y1 z1
  obtain ⟨rfl, Nq1, eq1⟩ := hQ1
  have N1 := Fr.app N0 Nq1
  refine own_st st1 ?_
  show own_G p.tables e below _ (T1.setTop (mkF m 4 #[.val (.ref a1)] [(.ref a1)]))
  exact own_retA X1 hx hlk hret rfl rfl (hb hby d8_4) (by decide) (by decide) (by rw [eq1]; exact ⟨rfl, N1, rfl⟩)
theorem ef_cpN (m : MethodId) (x0 : Addr) : entryFrame m #[(.ref x0)] 1 = mkF m 0 #[.val (.ref x0)] [] := by first | (simp [entryFrame, mkF, argsToLocals, Value.category]; done) | rfl
def Q_cpN (Z : State) (wL : Addr) (h0 : Heap) (n0 : Nat) (v : Option Value) (h : Heap) (L : List Loc) : Prop := v = some (.ref wL) ∧ Fr n0 L ∧ h = h0
set_option maxRecDepth 65536 in
set_option maxHeartbeats 40000000 in
theorem rm_cpN (l : Launch) (Z : State) (a0 : Array Value) (hw : ∀ d ∈ tables_1, d.before a0 Z = true) (ws : List Jvm.Cond) (wL : Addr) (h0 : Heap) (n0 : Nat) (Z0 : n0 ≤ h0.size) (O0 : Old Z n0 h0) (E_L : Exa Z Z.heap wL "java/util/ImmutableCollections$ListN") (F_a : Fld Z Z.heap wL "java/util/ImmutableCollections$ListN" "allowNulls" "Z" (.int (0 : Int32))) (hJ : (∃ c t, Z.vm.findClass "java/util/ImmutableCollections$ListN" = some c ∧ Z.vm.findClass "java/util/ImmutableCollections$List12" = some t ∧ Z.vm.assignable c t = true) ∨ (∃ c t, Z.vm.findClass "java/util/ImmutableCollections$ListN" = some c ∧ Z.vm.findClass "java/util/ImmutableCollections$List12" = some t ∧ Z.vm.assignable c t = false)) :
    MetFree l (⟨"java/util/List", "copyOf", "(Ljava/util/Collection;)Ljava/util/List;"⟩ : MethodName) (head1 (Jvm.Cond.code (⟨"java/util/List", "copyOf", "(Ljava/util/Collection;)Ljava/util/List;"⟩ : MethodName) jdk_40_method_48_code 1 (some (.object "java/util/List")) :: ws) ({ frames := 1, cells := 0, slots := 0, locals := 13 } : Room)) (fun a U => a = #[(.ref wL)] ∧ Z.Warmed39 U.vm ∧ U.heap = h0) (fun _ _ _ _ _ => True) (fun _ U o U' => ∃ v L, o = .returned v ∧ Q_cpN Z wL h0 n0 v U'.heap L ∧ FrameEnd U o U' L ({ frames := 1, cells := 0, slots := 0, locals := 13 } : Room).cells ({ frames := 1, cells := 0, slots := 0, locals := 13 } : Room).slots) := by
  refine MetFree.of_bodySF (plainFor_of_name pn_8) hisR ?_
  intro p e s m args below meth c s₁ Bd hml0 hP hK
  obtain ⟨rfl, hZ, hh⟩ := hP
  have hx := Bd.exec
  have hby := Bd.bytes
  have hml : c.maxLocals = 1 := hml0
  have hown : s.vm.findClass "java/util/List" = some m.cls := findClass_of_methodNamed Bd.named
  have hnm := (name_of_methodNamed Bd.named Bd.method).1
  have hlk := Bd.notSynchronized
  have hret := Bd.returns
  have X0 : Stand p l e ({ frames := 1, cells := 0, slots := 0, locals := 13 } : Room) s m #[(.ref wL)] below meth c s₁ [] 0 0 := Stand.of_body Bd
  have e0 : s₁.heap = h0 := by rw [← hh, Bd.state]; rfl
  have N0 := Fr.nil n0
  refine own_in ({ frames := 1, cells := 0, slots := 0, locals := 13 } : Room).cells ({ frames := 1, cells := 0, slots := 0, locals := 13 } : Room).slots (Q_cpN Z wL h0 n0) (ef_cpN m wL) ?_
  show own_G p.tables e below _ (s₁.setTop (mkF m 0 #[.val (.ref wL)] []))
  refine own_st (fun _ kS => XS.aloadN X0.here hx rfl (hb hby d8_0) rfl rfl kS) ?_
  show own_G p.tables e below _ (s₁.setTop (mkF m 1 #[.val (.ref wL)] [(.ref wL)]))
  obtain ⟨_, _, ⟨T1, L1, k1, n1⟩, -, X1, ⟨Lc1, hQ1, l1, y1, z1⟩, st1⟩ := Jvm.LawKit.callS X0 hx (y := (⟨"java/util/ImmutableCollections", "listCopy", "(Ljava/util/Collection;)Ljava/util/List;"⟩ : MethodName)) hown (mvT hZ (own_w hw 56 rfl)) (mvT hZ (own_w hw 57 rfl)) (mvT hZ (own_w hw 46 rfl)) (mvT hZ (own_w hw 58 rfl)) (by decide) (backOf (W := 0) (rm_lcN l Z a0 hw [] wL h0 n0 Z0 O0 E_L F_a hJ) hZ (own_w hw 58 rfl) (own_w hw 46 rfl) (by decide) (by decide)) (g := (mkF m 1 #[.val (.ref wL)] [(.ref wL)])) rfl (by rw [hml]; rfl) (argsL := [(.ref wL)]) (rest := []) (lenOf own_pd3 rfl) rfl (by show 2 * 0 + _ ≤ _; exact Nat.le_of_eq rfl) (hb hby d8_1) (fun _ _ => ⟨rfl, e0, (by decide : 0 + 0 ≤ _), (by decide : 0 + 0 ≤ _)⟩)
  dsimp only [Pt.U, Pt.locs, Pt.cells, Pt.slots] at X1 l1 y1 z1 st1 hQ1
  subst l1 y1 z1
  obtain ⟨rfl, Nq1, eq1⟩ := hQ1
  have N1 := Fr.app N0 Nq1
  refine own_st st1 ?_
  show own_G p.tables e below _ (T1.setTop (mkF m 4 #[.val (.ref wL)] [(.ref wL)]))
  exact own_retA X1 hx hlk hret rfl rfl (hb hby d8_4) (by decide) (by decide) (by rw [eq1]; exact ⟨rfl, N1, rfl⟩)
theorem d7_0 : decode prog_19_method_2_code 0 = .ok (.aload_n 0, 1) := by decide +kernel
theorem d7_1 : decode prog_19_method_2_code 1 = .ok (.invokespecial 13, 3) := by decide +kernel
theorem d7_4 : decode prog_19_method_2_code 4 = .ok (.aload_n 0, 1) := by decide +kernel
theorem d7_5 : decode prog_19_method_2_code 5 = .ok (.aload_n 1, 1) := by decide +kernel
theorem d7_6 : decode prog_19_method_2_code 6 = .ok (.putfield 18, 3) := by decide +kernel
theorem d7_9 : decode prog_19_method_2_code 9 = .ok (.aload_n 0, 1) := by decide +kernel
theorem d7_10 : decode prog_19_method_2_code 10 = .ok (.aload_n 2, 1) := by decide +kernel
theorem d7_11 : decode prog_19_method_2_code 11 = .ok (.invokestatic 22, 3) := by decide +kernel
theorem d7_14 : decode prog_19_method_2_code 14 = .ok (.putfield 26, 3) := by decide +kernel
theorem d7_17 : decode prog_19_method_2_code 17 = .ok (.aload_n 0, 1) := by decide +kernel
theorem d7_18 : decode prog_19_method_2_code 18 = .ok (.aload_n 3, 1) := by decide +kernel
theorem d7_19 : decode prog_19_method_2_code 19 = .ok (.invokestatic 22, 3) := by decide +kernel
theorem d7_22 : decode prog_19_method_2_code 22 = .ok (.putfield 30, 3) := by decide +kernel
theorem d7_25 : decode prog_19_method_2_code 25 = .ok (.return_, 1) := by decide +kernel
theorem pn_7 : plainName "com/example/cartouche/cartouche/checking/Profile" = true := by first | (simp [plainName, overriddenIn]; done) | decide +kernel
theorem ef_prof3_0 (m : MethodId) (x0 : Addr) (x1 : Addr) (x2 : Addr) (x3 : Addr) : entryFrame m #[(.ref x0), (.ref x1), (.ref x2), (.ref x3)] 4 = mkF m 0 #[.val (.ref x0), .val (.ref x1), .val (.ref x2), .val (.ref x3)] [] := by first | (simp [entryFrame, mkF, argsToLocals, Value.category]; done) | rfl
def Q_prof3_0 (Z : State) (a1 : Addr) (a2 : Addr) (a3 : Addr) (wL : Addr) (h0 : Heap) (n0 : Nat) (v : Option Value) (h : Heap) (L : List Loc) : Prop := v = none ∧ Fr n0 L ∧ Keep h0 h [a1] ∧ Exa Z h a1 "com/example/cartouche/cartouche/checking/Profile" ∧ Fld Z h a1 "com/example/cartouche/cartouche/checking/Profile" "rules" "Ljava/util/List;" (.ref wL)
set_option maxRecDepth 65536 in
set_option maxHeartbeats 40000000 in
theorem rm_prof3_0 (l : Launch) (Z : State) (a0 : Array Value) (hw : ∀ d ∈ tables_1, d.before a0 Z = true) (ws : List Jvm.Cond) (a1 : Addr) (a2 : Addr) (a3 : Addr) (wL : Addr) (h0 : Heap) (n0 : Nat) (Z0 : n0 ≤ h0.size) (O0 : Old Z n0 h0) (E_1 : Exa Z h0 a1 "com/example/cartouche/cartouche/checking/Profile") (g_1 : n0 ≤ a1) (ne13 : a1 ≠ a3) (E_3 : Exa Z h0 a3 "java/util/ArrayList") (F_s3 : Fld Z h0 a3 "java/util/ArrayList" "size" "I" (.int (0 : Int32))) (F_m3 : Fld Z h0 a3 "java/util/AbstractList" "modCount" "I" (.int (0 : Int32))) (F_name : Fld Z h0 a1 "com/example/cartouche/cartouche/checking/Profile" "name" "Ljava/lang/String;" .null) (F_rules : Fld Z h0 a1 "com/example/cartouche/cartouche/checking/Profile" "rules" "Ljava/util/List;" .null) (F_schemas : Fld Z h0 a1 "com/example/cartouche/cartouche/checking/Profile" "schemas" "Ljava/util/List;" .null) (hI : ∃ c t, Z.vm.findClass "java/util/ArrayList" = some c ∧ Z.vm.findClass "java/util/ImmutableCollections$List12" = some t ∧ Z.vm.assignable c t = false) (hJ : (∃ c t, Z.vm.findClass "java/util/ImmutableCollections$ListN" = some c ∧ Z.vm.findClass "java/util/ImmutableCollections$List12" = some t ∧ Z.vm.assignable c t = true) ∨ (∃ c t, Z.vm.findClass "java/util/ImmutableCollections$ListN" = some c ∧ Z.vm.findClass "java/util/ImmutableCollections$List12" = some t ∧ Z.vm.assignable c t = false)) (E_L : Exa Z Z.heap wL "java/util/ImmutableCollections$ListN") (F_a : Fld Z Z.heap wL "java/util/ImmutableCollections$ListN" "allowNulls" "Z" (.int (0 : Int32))) (S_L : Sta Z Z.heap "java/util/ImmutableCollections" "EMPTY_LIST" "Ljava/util/ImmutableCollections$ListN;" (.ref wL)) (hN : ∃ c t, Z.vm.findClass "java/util/ArrayList" = some c ∧ Z.vm.findClass "java/util/ImmutableCollections$ListN" = some t ∧ Z.vm.assignable c t = false) :
    MetFree l (⟨"com/example/cartouche/cartouche/checking/Profile", "<init>", "(Ljava/lang/String;Ljava/util/List;Ljava/util/List;)V"⟩ : MethodName) (head1 (Jvm.Cond.code (⟨"com/example/cartouche/cartouche/checking/Profile", "<init>", "(Ljava/lang/String;Ljava/util/List;Ljava/util/List;)V"⟩ : MethodName) prog_19_method_2_code 4 none :: ws) ({ frames := 3, cells := 0, slots := 0, locals := 38 } : Room)) (fun a U => a = #[(.ref a1), (.ref a2), (.ref a3), (.ref wL)] ∧ Z.Warmed39 U.vm ∧ U.heap = h0) (fun _ _ _ _ _ => True) (fun _ U o U' => ∃ v L, o = .returned v ∧ Q_prof3_0 Z a1 a2 a3 wL h0 n0 v U'.heap L ∧ FrameEnd U o U' L ({ frames := 3, cells := 0, slots := 0, locals := 38 } : Room).cells ({ frames := 3, cells := 0, slots := 0, locals := 38 } : Room).slots) := by
  refine MetFree.of_bodySF (plainFor_of_name pn_7) hisR ?_
  intro p e s m args below meth c s₁ Bd hml0 hP hK
  obtain ⟨rfl, hZ, hh⟩ := hP
  have hx := Bd.exec
  have hby := Bd.bytes
  have hml : c.maxLocals = 4 := hml0
  have hown : s.vm.findClass "com/example/cartouche/cartouche/checking/Profile" = some m.cls := findClass_of_methodNamed Bd.named
  have hnm := (name_of_methodNamed Bd.named Bd.method).1
  have hlk := Bd.notSynchronized
  have hret := Bd.returns
  have X0 : Stand p l e ({ frames := 3, cells := 0, slots := 0, locals := 38 } : Room) s m #[(.ref a1), (.ref a2), (.ref a3), (.ref wL)] below meth c s₁ [] 0 0 := Stand.of_body Bd
  have e0 : s₁.heap = h0 := by rw [← hh, Bd.state]; rfl
  have N0 := Fr.nil n0
  have K0 := Keep.refl h0 [a1]
  refine own_in ({ frames := 3, cells := 0, slots := 0, locals := 38 } : Room).cells ({ frames := 3, cells := 0, slots := 0, locals := 38 } : Room).slots (Q_prof3_0 Z a1 a2 a3 wL h0 n0) (ef_prof3_0 m a1 a2 a3 wL) ?_
  show own_G p.tables e below _ (s₁.setTop (mkF m 0 #[.val (.ref a1), .val (.ref a2), .val (.ref a3), .val (.ref wL)] []))
  refine own_st (fun _ kS => XS.aloadN X0.here hx rfl (hb hby d7_0) rfl rfl kS) ?_
  show own_G p.tables e below _ (s₁.setTop (mkF m 1 #[.val (.ref a1), .val (.ref a2), .val (.ref a3), .val (.ref wL)] [(.ref a1)]))
  obtain ⟨T1, X1, e1, st1⟩ := initO X0 hx hZ hown (own_w hw 50 rfl) (own_w hw 31 rfl) (own_w hw 32 rfl) e0 (g := (mkF m 1 #[.val (.ref a1), .val (.ref a2), .val (.ref a3), .val (.ref wL)] [(.ref a1)])) rfl (by rw [hml]; rfl) rfl (hb hby d7_1) (by decide) (W := 0) (by show 2 * 0 + _ ≤ _; exact Nat.le_of_eq rfl) (by decide)
  refine own_st st1 ?_
  show own_G p.tables e below _ (T1.setTop (mkF m 4 #[.val (.ref a1), .val (.ref a2), .val (.ref a3), .val (.ref wL)] []))
  refine own_st (fun _ kS => XS.aloadN X1.here hx rfl (hb hby d7_4) rfl rfl kS) ?_
  refine own_st (fun _ kS => XS.aloadN X1.here hx rfl (hb hby d7_5) rfl rfl kS) ?_
  show own_G p.tables e below _ (T1.setTop (mkF m 6 #[.val (.ref a1), .val (.ref a2), .val (.ref a3), .val (.ref wL)] [(.ref a2), (.ref a1)]))
  obtain ⟨T2, h2, X2, e2, W2, st2⟩ := putF X1 hx hZ hown (host := "") (Or.inl (own_w hw 51 rfl)) Via.refl e1 F_name E_1 (Or.inr ⟨(own_w hw 52 rfl), rfl, hnm⟩) (own_w hw 2 rfl) (ty := (.object "java/lang/String")) (by decide) rfl rfl (g := (mkF m 6 #[.val (.ref a1), .val (.ref a2), .val (.ref a3), .val (.ref wL)] [(.ref a2), (.ref a1)])) rfl rfl (hb hby d7_6)
  refine own_st st2 ?_
  have N2 := Fr.snoc X2 N0 g_1
  have K2 := K0.wr W2 (Or.inl (List.mem_of_getElem? (i := 0) rfl))
  have O2 := O0.wr W2 g_1
  have Fw2 := Fld.same W2 F_name
  show own_G p.tables e below _ (T2.setTop (mkF m 9 #[.val (.ref a1), .val (.ref a2), .val (.ref a3), .val (.ref wL)] []))
  refine own_st (fun _ kS => XS.aloadN X2.here hx rfl (hb hby d7_9) rfl rfl kS) ?_
  refine own_st (fun _ kS => XS.aloadN X2.here hx rfl (hb hby d7_10) rfl rfl kS) ?_
  show own_G p.tables e below _ (T2.setTop (mkF m 11 #[.val (.ref a1), .val (.ref a2), .val (.ref a3), .val (.ref wL)] [(.ref a3), (.ref a1)]))
  obtain ⟨_, _, ⟨T3, L3, k3, n3⟩, -, X3, ⟨Lc3, hQ3, l3, y3, z3⟩, st3⟩ := Jvm.LawKit.callS X2 hx (y := (⟨"java/util/List", "copyOf", "(Ljava/util/Collection;)Ljava/util/List;"⟩ : MethodName)) hown (mvT hZ (own_w hw 53 rfl)) (mvT hZ (own_w hw 54 rfl)) (mvT hZ (own_w hw 43 rfl)) (mvT hZ (own_w hw 55 rfl)) (by decide) (backOf (W := 1) (rm_cpA0 l Z a0 hw [] a3 wL h2 n0 (Nat.le_trans Z0 (Keep.of_wr W2).1) O2 (Exa.wr W2 E_3) (Fld.other W2 F_s3 (Or.inl (Ne.symm ne13))) hI hN S_L) hZ (own_w hw 55 rfl) (own_w hw 43 rfl) (by decide) (by decide)) (g := (mkF m 11 #[.val (.ref a1), .val (.ref a2), .val (.ref a3), .val (.ref wL)] [(.ref a3), (.ref a1)])) rfl (by rw [hml]; rfl) (argsL := [(.ref a3)]) (rest := [(.ref a1)]) (lenOf own_pd3 rfl) rfl (by show 2 * 0 + _ ≤ _; exact Nat.le_of_eq rfl) (hb hby d7_11) (fun _ _ => ⟨rfl, e2, (by decide : 0 + 0 ≤ _), (by decide : 0 + 0 ≤ _)⟩)
  dsimp only [Pt.U, Pt.locs, Pt.cells, Pt.slots] at X3 l3 y3 z3 st3 hQ3
  subst l3 y3 z3
  obtain ⟨rfl, Nq3, eq3⟩ := hQ3
  have N3 := Fr.app N2 Nq3
  refine own_st st3 ?_
  show own_G p.tables e below _ (T3.setTop (mkF m 14 #[.val (.ref a1), .val (.ref a2), .val (.ref a3), .val (.ref wL)] [(.ref wL), (.ref a1)]))
  obtain ⟨T4, h4, X4, e4, W4, st4⟩ := putF X3 hx hZ hown (host := "") (Or.inl (own_w hw 77 rfl)) Via.refl eq3 (Fld.other W2 F_rules (Or.inr (slot_ne (Or.inr (own_w hw 78 rfl)) (Or.inr (own_w hw 52 rfl)) (by decide) (t := (.object "java/util/List")) (t' := (.object "java/lang/String")) (by decide) (by decide)))) (Exa.wr W2 E_1) (Or.inr ⟨(own_w hw 78 rfl), rfl, hnm⟩) (own_w hw 2 rfl) (ty := (.object "java/util/List")) (by decide) rfl rfl (g := (mkF m 14 #[.val (.ref a1), .val (.ref a2), .val (.ref a3), .val (.ref wL)] [(.ref wL), (.ref a1)])) rfl rfl (hb hby d7_14)
  refine own_st st4 ?_
  have N4 := Fr.snoc X4 N3 g_1
  have K4 := K2.wr W4 (Or.inl (List.mem_of_getElem? (i := 0) rfl))
  have O4 := O2.wr W4 g_1
  have Fw4 := Fld.same W4 (Fld.other W2 F_rules (Or.inr (slot_ne (Or.inr (own_w hw 78 rfl)) (Or.inr (own_w hw 52 rfl)) (by decide) (t := (.object "java/util/List")) (t' := (.object "java/lang/String")) (by decide) (by decide))))
  show own_G p.tables e below _ (T4.setTop (mkF m 17 #[.val (.ref a1), .val (.ref a2), .val (.ref a3), .val (.ref wL)] []))
  refine own_st (fun _ kS => XS.aloadN X4.here hx rfl (hb hby d7_17) rfl rfl kS) ?_
  refine own_st (fun _ kS => XS.aloadN X4.here hx rfl (hb hby d7_18) rfl rfl kS) ?_
  show own_G p.tables e below _ (T4.setTop (mkF m 19 #[.val (.ref a1), .val (.ref a2), .val (.ref a3), .val (.ref wL)] [(.ref wL), (.ref a1)]))
  obtain ⟨_, _, ⟨T5, L5, k5, n5⟩, -, X5, ⟨Lc5, hQ5, l5, y5, z5⟩, st5⟩ := Jvm.LawKit.callS X4 hx (y := (⟨"java/util/List", "copyOf", "(Ljava/util/Collection;)Ljava/util/List;"⟩ : MethodName)) hown (mvT hZ (own_w hw 53 rfl)) (mvT hZ (own_w hw 54 rfl)) (mvT hZ (own_w hw 43 rfl)) (mvT hZ (own_w hw 55 rfl)) (by decide) (backOf (W := 1) (rm_cpN l Z a0 hw [] wL h4 n0 (Nat.le_trans (Nat.le_trans Z0 (Keep.of_wr W2).1) (Keep.of_wr W4).1) O4 E_L F_a hJ) hZ (own_w hw 55 rfl) (own_w hw 43 rfl) (by decide) (by decide)) (g := (mkF m 19 #[.val (.ref a1), .val (.ref a2), .val (.ref a3), .val (.ref wL)] [(.ref wL), (.ref a1)])) rfl (by rw [hml]; rfl) (argsL := [(.ref wL)]) (rest := [(.ref a1)]) (lenOf own_pd3 rfl) rfl (by show 2 * 0 + _ ≤ _; exact Nat.le_of_eq rfl) (hb hby d7_19) (fun _ _ => ⟨rfl, e4, (by decide : 0 + 0 ≤ _), (by decide : 0 + 0 ≤ _)⟩)
  dsimp only [Pt.U, Pt.locs, Pt.cells, Pt.slots] at X5 l5 y5 z5 st5 hQ5
  subst l5 y5 z5
  obtain ⟨rfl, Nq5, eq5⟩ := hQ5
  have N5 := Fr.app N4 Nq5
  refine own_st st5 ?_
  show own_G p.tables e below _ (T5.setTop (mkF m 22 #[.val (.ref a1), .val (.ref a2), .val (.ref a3), .val (.ref wL)] [(.ref wL), (.ref a1)]))
  obtain ⟨T6, h6, X6, e6, W6, st6⟩ := putF X5 hx hZ hown (host := "") (Or.inl (own_w hw 87 rfl)) Via.refl eq5 (Fld.other W4 (Fld.other W2 F_schemas (Or.inr (slot_ne (Or.inr (own_w hw 88 rfl)) (Or.inr (own_w hw 52 rfl)) (by decide) (t := (.object "java/util/List")) (t' := (.object "java/lang/String")) (by decide) (by decide)))) (Or.inr (slot_ne (Or.inr (own_w hw 88 rfl)) (Or.inr (own_w hw 78 rfl)) (by decide) (t := (.object "java/util/List")) (t' := (.object "java/util/List")) (by decide) (by decide)))) (Exa.wr W4 (Exa.wr W2 E_1)) (Or.inr ⟨(own_w hw 88 rfl), rfl, hnm⟩) (own_w hw 2 rfl) (ty := (.object "java/util/List")) (by decide) rfl rfl (g := (mkF m 22 #[.val (.ref a1), .val (.ref a2), .val (.ref a3), .val (.ref wL)] [(.ref wL), (.ref a1)])) rfl rfl (hb hby d7_22)
  refine own_st st6 ?_
  have N6 := Fr.snoc X6 N5 g_1
  have K6 := K4.wr W6 (Or.inl (List.mem_of_getElem? (i := 0) rfl))
  have O6 := O4.wr W6 g_1
  have Fw6 := Fld.same W6 (Fld.other W4 (Fld.other W2 F_schemas (Or.inr (slot_ne (Or.inr (own_w hw 88 rfl)) (Or.inr (own_w hw 52 rfl)) (by decide) (t := (.object "java/util/List")) (t' := (.object "java/lang/String")) (by decide) (by decide)))) (Or.inr (slot_ne (Or.inr (own_w hw 88 rfl)) (Or.inr (own_w hw 78 rfl)) (by decide) (t := (.object "java/util/List")) (t' := (.object "java/util/List")) (by decide) (by decide))))
  show own_G p.tables e below _ (T6.setTop (mkF m 25 #[.val (.ref a1), .val (.ref a2), .val (.ref a3), .val (.ref wL)] []))
  exact own_retV X6 hx hlk hret (hb hby d7_25) (by decide) (by decide) (by rw [e6]; exact ⟨rfl, N6, K6, (Exa.wr W6 (Exa.wr W4 (Exa.wr W2 E_1))), (Fld.other W6 Fw4 (Or.inr (slot_ne (Or.inr (own_w hw 78 rfl)) (Or.inr (own_w hw 88 rfl)) (by decide) (t := (.object "java/util/List")) (t' := (.object "java/util/List")) (by decide) (by decide))))⟩)
theorem ef_prof3_1 (m : MethodId) (x0 : Addr) (x1 : Addr) (x2 : Addr) (x3 : Addr) : entryFrame m #[(.ref x0), (.ref x1), (.ref x2), (.ref x3)] 4 = mkF m 0 #[.val (.ref x0), .val (.ref x1), .val (.ref x2), .val (.ref x3)] [] := by first | (simp [entryFrame, mkF, argsToLocals, Value.category]; done) | rfl
def Q_prof3_1 (Z : State) (a1 : Addr) (a2 : Addr) (a3 : Addr) (wL : Addr) (h0 : Heap) (n0 : Nat) (v : Option Value) (h : Heap) (L : List Loc) : Prop := v = none ∧ Fr n0 L ∧ Keep h0 h [a1] ∧ Exa Z h a1 "com/example/cartouche/cartouche/checking/Profile" ∧ Fld Z h a1 "com/example/cartouche/cartouche/checking/Profile" "rules" "Ljava/util/List;" (.ref a3)
set_option maxRecDepth 65536 in
set_option maxHeartbeats 40000000 in
theorem rm_prof3_1 (l : Launch) (Z : State) (a0 : Array Value) (hw : ∀ d ∈ tables_1, d.before a0 Z = true) (ws : List Jvm.Cond) (a1 : Addr) (a2 : Addr) (a3 : Addr) (wL : Addr) (h0 : Heap) (n0 : Nat) (Z0 : n0 ≤ h0.size) (O0 : Old Z n0 h0) (E_1 : Exa Z h0 a1 "com/example/cartouche/cartouche/checking/Profile") (g_1 : n0 ≤ a1) (ne13 : a1 ≠ a3) (E_3 : Exa Z h0 a3 "java/util/ArrayList") (F_s3 : Fld Z h0 a3 "java/util/ArrayList" "size" "I" (.int (0 : Int32))) (F_m3 : Fld Z h0 a3 "java/util/AbstractList" "modCount" "I" (.int (0 : Int32))) (F_name : Fld Z h0 a1 "com/example/cartouche/cartouche/checking/Profile" "name" "Ljava/lang/String;" .null) (F_rules : Fld Z h0 a1 "com/example/cartouche/cartouche/checking/Profile" "rules" "Ljava/util/List;" .null) (F_schemas : Fld Z h0 a1 "com/example/cartouche/cartouche/checking/Profile" "schemas" "Ljava/util/List;" .null) (hI : ∃ c t, Z.vm.findClass "java/util/ArrayList" = some c ∧ Z.vm.findClass "java/util/ImmutableCollections$List12" = some t ∧ Z.vm.assignable c t = true) (hJ : (∃ c t, Z.vm.findClass "java/util/ImmutableCollections$ListN" = some c ∧ Z.vm.findClass "java/util/ImmutableCollections$List12" = some t ∧ Z.vm.assignable c t = true) ∨ (∃ c t, Z.vm.findClass "java/util/ImmutableCollections$ListN" = some c ∧ Z.vm.findClass "java/util/ImmutableCollections$List12" = some t ∧ Z.vm.assignable c t = false)) (E_L : Exa Z Z.heap wL "java/util/ImmutableCollections$ListN") (F_a : Fld Z Z.heap wL "java/util/ImmutableCollections$ListN" "allowNulls" "Z" (.int (0 : Int32))) (S_L : Sta Z Z.heap "java/util/ImmutableCollections" "EMPTY_LIST" "Ljava/util/ImmutableCollections$ListN;" (.ref wL)) :
    MetFree l (⟨"com/example/cartouche/cartouche/checking/Profile", "<init>", "(Ljava/lang/String;Ljava/util/List;Ljava/util/List;)V"⟩ : MethodName) (head1 (Jvm.Cond.code (⟨"com/example/cartouche/cartouche/checking/Profile", "<init>", "(Ljava/lang/String;Ljava/util/List;Ljava/util/List;)V"⟩ : MethodName) prog_19_method_2_code 4 none :: ws) ({ frames := 2, cells := 0, slots := 0, locals := 26 } : Room)) (fun a U => a = #[(.ref a1), (.ref a2), (.ref a3), (.ref wL)] ∧ Z.Warmed39 U.vm ∧ U.heap = h0) (fun _ _ _ _ _ => True) (fun _ U o U' => ∃ v L, o = .returned v ∧ Q_prof3_1 Z a1 a2 a3 wL h0 n0 v U'.heap L ∧ FrameEnd U o U' L ({ frames := 2, cells := 0, slots := 0, locals := 26 } : Room).cells ({ frames := 2, cells := 0, slots := 0, locals := 26 } : Room).slots) := by
  refine MetFree.of_bodySF (plainFor_of_name pn_7) hisR ?_
  intro p e s m args below meth c s₁ Bd hml0 hP hK
  obtain ⟨rfl, hZ, hh⟩ := hP
  have hx := Bd.exec
  have hby := Bd.bytes
  have hml : c.maxLocals = 4 := hml0
  have hown : s.vm.findClass "com/example/cartouche/cartouche/checking/Profile" = some m.cls := findClass_of_methodNamed Bd.named
  have hnm := (name_of_methodNamed Bd.named Bd.method).1
  have hlk := Bd.notSynchronized
  have hret := Bd.returns
  have X0 : Stand p l e ({ frames := 2, cells := 0, slots := 0, locals := 26 } : Room) s m #[(.ref a1), (.ref a2), (.ref a3), (.ref wL)] below meth c s₁ [] 0 0 := Stand.of_body Bd
  have e0 : s₁.heap = h0 := by rw [← hh, Bd.state]; rfl
  have N0 := Fr.nil n0
  have K0 := Keep.refl h0 [a1]
  refine own_in ({ frames := 2, cells := 0, slots := 0, locals := 26 } : Room).cells ({ frames := 2, cells := 0, slots := 0, locals := 26 } : Room).slots (Q_prof3_1 Z a1 a2 a3 wL h0 n0) (ef_prof3_1 m a1 a2 a3 wL) ?_
  show own_G p.tables e below _ (s₁.setTop (mkF m 0 #[.val (.ref a1), .val (.ref a2), .val (.ref a3), .val (.ref wL)] []))
  refine own_st (fun _ kS => XS.aloadN X0.here hx rfl (hb hby d7_0) rfl rfl kS) ?_
  show own_G p.tables e below _ (s₁.setTop (mkF m 1 #[.val (.ref a1), .val (.ref a2), .val (.ref a3), .val (.ref wL)] [(.ref a1)]))
  obtain ⟨T1, X1, e1, st1⟩ := initO X0 hx hZ hown (own_w hw 50 rfl) (own_w hw 31 rfl) (own_w hw 32 rfl) e0 (g := (mkF m 1 #[.val (.ref a1), .val (.ref a2), .val (.ref a3), .val (.ref wL)] [(.ref a1)])) rfl (by rw [hml]; rfl) rfl (hb hby d7_1) (by decide) (W := 0) (by show 2 * 0 + _ ≤ _; exact Nat.le_of_eq rfl) (by decide)
  refine own_st st1 ?_
  show own_G p.tables e below _ (T1.setTop (mkF m 4 #[.val (.ref a1), .val (.ref a2), .val (.ref a3), .val (.ref wL)] []))
  refine own_st (fun _ kS => XS.aloadN X1.here hx rfl (hb hby d7_4) rfl rfl kS) ?_
  refine own_st (fun _ kS => XS.aloadN X1.here hx rfl (hb hby d7_5) rfl rfl kS) ?_
  show own_G p.tables e below _ (T1.setTop (mkF m 6 #[.val (.ref a1), .val (.ref a2), .val (.ref a3), .val (.ref wL)] [(.ref a2), (.ref a1)]))
  obtain ⟨T2, h2, X2, e2, W2, st2⟩ := putF X1 hx hZ hown (host := "") (Or.inl (own_w hw 51 rfl)) Via.refl e1 F_name E_1 (Or.inr ⟨(own_w hw 52 rfl), rfl, hnm⟩) (own_w hw 2 rfl) (ty := (.object "java/lang/String")) (by decide) rfl rfl (g := (mkF m 6 #[.val (.ref a1), .val (.ref a2), .val (.ref a3), .val (.ref wL)] [(.ref a2), (.ref a1)])) rfl rfl (hb hby d7_6)
  refine own_st st2 ?_
  have N2 := Fr.snoc X2 N0 g_1
  have K2 := K0.wr W2 (Or.inl (List.mem_of_getElem? (i := 0) rfl))
  have O2 := O0.wr W2 g_1
  have Fw2 := Fld.same W2 F_name
  show own_G p.tables e below _ (T2.setTop (mkF m 9 #[.val (.ref a1), .val (.ref a2), .val (.ref a3), .val (.ref wL)] []))
  refine own_st (fun _ kS => XS.aloadN X2.here hx rfl (hb hby d7_9) rfl rfl kS) ?_
  refine own_st (fun _ kS => XS.aloadN X2.here hx rfl (hb hby d7_10) rfl rfl kS) ?_
  show own_G p.tables e below _ (T2.setTop (mkF m 11 #[.val (.ref a1), .val (.ref a2), .val (.ref a3), .val (.ref wL)] [(.ref a3), (.ref a1)]))
  obtain ⟨_, _, ⟨T3, L3, k3, n3⟩, -, X3, ⟨Lc3, hQ3, l3, y3, z3⟩, st3⟩ := Jvm.LawKit.callS X2 hx (y := (⟨"java/util/List", "copyOf", "(Ljava/util/Collection;)Ljava/util/List;"⟩ : MethodName)) hown (mvT hZ (own_w hw 53 rfl)) (mvT hZ (own_w hw 54 rfl)) (mvT hZ (own_w hw 43 rfl)) (mvT hZ (own_w hw 55 rfl)) (by decide) (backOf (W := 1) (rm_cpA1 l Z a0 hw [] a3 h2 n0 (Nat.le_trans Z0 (Keep.of_wr W2).1) O2 (Exa.wr W2 E_3) (Fld.other W2 F_s3 (Or.inl (Ne.symm ne13))) hI) hZ (own_w hw 55 rfl) (own_w hw 43 rfl) (by decide) (by decide)) (g := (mkF m 11 #[.val (.ref a1), .val (.ref a2), .val (.ref a3), .val (.ref wL)] [(.ref a3), (.ref a1)])) rfl (by rw [hml]; rfl) (argsL := [(.ref a3)]) (rest := [(.ref a1)]) (lenOf own_pd3 rfl) rfl (by show 2 * 0 + _ ≤ _; exact Nat.le_of_eq rfl) (hb hby d7_11) (fun _ _ => ⟨rfl, e2, (by decide : 0 + 0 ≤ _), (by decide : 0 + 0 ≤ _)⟩)
  dsimp only [Pt.U, Pt.locs, Pt.cells, Pt.slots] at X3 l3 y3 z3 st3 hQ3
  subst l3 y3 z3
  obtain ⟨rfl, Nq3, eq3⟩ := hQ3
  have N3 := Fr.app N2 Nq3
  refine own_st st3 ?_
  show own_G p.tables e below _ (T3.setTop (mkF m 14 #[.val (.ref a1), .val (.ref a2), .val (.ref a3), .val (.ref wL)] [(.ref a3), (.ref a1)]))
  obtain ⟨T4, h4, X4, e4, W4, st4⟩ := putF X3 hx hZ hown (host := "") (Or.inl (own_w hw 77 rfl)) Via.refl eq3 (Fld.other W2 F_rules (Or.inr (slot_ne (Or.inr (own_w hw 78 rfl)) (Or.inr (own_w hw 52 rfl)) (by decide) (t := (.object "java/util/List")) (t' := (.object "java/lang/String")) (by decide) (by decide)))) (Exa.wr W2 E_1) (Or.inr ⟨(own_w hw 78 rfl), rfl, hnm⟩) (own_w hw 2 rfl) (ty := (.object "java/util/List")) (by decide) rfl rfl (g := (mkF m 14 #[.val (.ref a1), .val (.ref a2), .val (.ref a3), .val (.ref wL)] [(.ref a3), (.ref a1)])) rfl rfl (hb hby d7_14)
  refine own_st st4 ?_
  have N4 := Fr.snoc X4 N3 g_1
  have K4 := K2.wr W4 (Or.inl (List.mem_of_getElem? (i := 0) rfl))
  have O4 := O2.wr W4 g_1
  have Fw4 := Fld.same W4 (Fld.other W2 F_rules (Or.inr (slot_ne (Or.inr (own_w hw 78 rfl)) (Or.inr (own_w hw 52 rfl)) (by decide) (t := (.object "java/util/List")) (t' := (.object "java/lang/String")) (by decide) (by decide))))
  show own_G p.tables e below _ (T4.setTop (mkF m 17 #[.val (.ref a1), .val (.ref a2), .val (.ref a3), .val (.ref wL)] []))
  refine own_st (fun _ kS => XS.aloadN X4.here hx rfl (hb hby d7_17) rfl rfl kS) ?_
  refine own_st (fun _ kS => XS.aloadN X4.here hx rfl (hb hby d7_18) rfl rfl kS) ?_
  show own_G p.tables e below _ (T4.setTop (mkF m 19 #[.val (.ref a1), .val (.ref a2), .val (.ref a3), .val (.ref wL)] [(.ref wL), (.ref a1)]))
  obtain ⟨_, _, ⟨T5, L5, k5, n5⟩, -, X5, ⟨Lc5, hQ5, l5, y5, z5⟩, st5⟩ := Jvm.LawKit.callS X4 hx (y := (⟨"java/util/List", "copyOf", "(Ljava/util/Collection;)Ljava/util/List;"⟩ : MethodName)) hown (mvT hZ (own_w hw 53 rfl)) (mvT hZ (own_w hw 54 rfl)) (mvT hZ (own_w hw 43 rfl)) (mvT hZ (own_w hw 55 rfl)) (by decide) (backOf (W := 1) (rm_cpN l Z a0 hw [] wL h4 n0 (Nat.le_trans (Nat.le_trans Z0 (Keep.of_wr W2).1) (Keep.of_wr W4).1) O4 E_L F_a hJ) hZ (own_w hw 55 rfl) (own_w hw 43 rfl) (by decide) (by decide)) (g := (mkF m 19 #[.val (.ref a1), .val (.ref a2), .val (.ref a3), .val (.ref wL)] [(.ref wL), (.ref a1)])) rfl (by rw [hml]; rfl) (argsL := [(.ref wL)]) (rest := [(.ref a1)]) (lenOf own_pd3 rfl) rfl (by show 2 * 0 + _ ≤ _; exact Nat.le_of_eq rfl) (hb hby d7_19) (fun _ _ => ⟨rfl, e4, (by decide : 0 + 0 ≤ _), (by decide : 0 + 0 ≤ _)⟩)
  dsimp only [Pt.U, Pt.locs, Pt.cells, Pt.slots] at X5 l5 y5 z5 st5 hQ5
  subst l5 y5 z5
  obtain ⟨rfl, Nq5, eq5⟩ := hQ5
  have N5 := Fr.app N4 Nq5
  refine own_st st5 ?_
  show own_G p.tables e below _ (T5.setTop (mkF m 22 #[.val (.ref a1), .val (.ref a2), .val (.ref a3), .val (.ref wL)] [(.ref wL), (.ref a1)]))
  obtain ⟨T6, h6, X6, e6, W6, st6⟩ := putF X5 hx hZ hown (host := "") (Or.inl (own_w hw 87 rfl)) Via.refl eq5 (Fld.other W4 (Fld.other W2 F_schemas (Or.inr (slot_ne (Or.inr (own_w hw 88 rfl)) (Or.inr (own_w hw 52 rfl)) (by decide) (t := (.object "java/util/List")) (t' := (.object "java/lang/String")) (by decide) (by decide)))) (Or.inr (slot_ne (Or.inr (own_w hw 88 rfl)) (Or.inr (own_w hw 78 rfl)) (by decide) (t := (.object "java/util/List")) (t' := (.object "java/util/List")) (by decide) (by decide)))) (Exa.wr W4 (Exa.wr W2 E_1)) (Or.inr ⟨(own_w hw 88 rfl), rfl, hnm⟩) (own_w hw 2 rfl) (ty := (.object "java/util/List")) (by decide) rfl rfl (g := (mkF m 22 #[.val (.ref a1), .val (.ref a2), .val (.ref a3), .val (.ref wL)] [(.ref wL), (.ref a1)])) rfl rfl (hb hby d7_22)
  refine own_st st6 ?_
  have N6 := Fr.snoc X6 N5 g_1
  have K6 := K4.wr W6 (Or.inl (List.mem_of_getElem? (i := 0) rfl))
  have O6 := O4.wr W6 g_1
  have Fw6 := Fld.same W6 (Fld.other W4 (Fld.other W2 F_schemas (Or.inr (slot_ne (Or.inr (own_w hw 88 rfl)) (Or.inr (own_w hw 52 rfl)) (by decide) (t := (.object "java/util/List")) (t' := (.object "java/lang/String")) (by decide) (by decide)))) (Or.inr (slot_ne (Or.inr (own_w hw 88 rfl)) (Or.inr (own_w hw 78 rfl)) (by decide) (t := (.object "java/util/List")) (t' := (.object "java/util/List")) (by decide) (by decide))))
  show own_G p.tables e below _ (T6.setTop (mkF m 25 #[.val (.ref a1), .val (.ref a2), .val (.ref a3), .val (.ref wL)] []))
  exact own_retV X6 hx hlk hret (hb hby d7_25) (by decide) (by decide) (by rw [e6]; exact ⟨rfl, N6, K6, (Exa.wr W6 (Exa.wr W4 (Exa.wr W2 E_1))), (Fld.other W6 Fw4 (Or.inr (slot_ne (Or.inr (own_w hw 78 rfl)) (Or.inr (own_w hw 88 rfl)) (by decide) (t := (.object "java/util/List")) (t' := (.object "java/util/List")) (by decide) (by decide))))⟩)
theorem d5_0 : decode prog_19_method_1_code 0 = .ok (.aload_n 0, 1) := by decide +kernel
theorem d5_1 : decode prog_19_method_1_code 1 = .ok (.aload_n 1, 1) := by decide +kernel
theorem d5_2 : decode prog_19_method_1_code 2 = .ok (.aload_n 2, 1) := by decide +kernel
theorem d5_3 : decode prog_19_method_1_code 3 = .ok (.invokestatic 1, 3) := by decide +kernel
theorem d5_6 : decode prog_19_method_1_code 6 = .ok (.invokespecial 7, 3) := by decide +kernel
theorem d5_9 : decode prog_19_method_1_code 9 = .ok (.return_, 1) := by decide +kernel
theorem pn_5 : plainName "com/example/cartouche/cartouche/checking/Profile" = true := by first | (simp [plainName, overriddenIn]; done) | decide +kernel
theorem own_pd4 : parseMethodDescriptor "(Ljava/lang/String;Ljava/util/List;Ljava/util/List;)V" = some ⟨[(.object "java/lang/String"), (.object "java/util/List"), (.object "java/util/List")], none⟩ := by decide +kernel
theorem ef_prof2_0 (m : MethodId) (x0 : Addr) (x1 : Addr) (x2 : Addr) : entryFrame m #[(.ref x0), (.ref x1), (.ref x2)] 3 = mkF m 0 #[.val (.ref x0), .val (.ref x1), .val (.ref x2)] [] := by first | (simp [entryFrame, mkF, argsToLocals, Value.category]; done) | rfl
def Q_prof2_0 (Z : State) (a1 : Addr) (a2 : Addr) (a3 : Addr) (wL : Addr) (h0 : Heap) (n0 : Nat) (v : Option Value) (h : Heap) (L : List Loc) : Prop := v = none ∧ Fr n0 L ∧ Keep h0 h [a1] ∧ Exa Z h a1 "com/example/cartouche/cartouche/checking/Profile" ∧ Fld Z h a1 "com/example/cartouche/cartouche/checking/Profile" "rules" "Ljava/util/List;" (.ref wL)
set_option maxRecDepth 65536 in
set_option maxHeartbeats 40000000 in
theorem rm_prof2_0 (l : Launch) (Z : State) (a0 : Array Value) (hw : ∀ d ∈ tables_1, d.before a0 Z = true) (ws : List Jvm.Cond) (a1 : Addr) (a2 : Addr) (a3 : Addr) (wL : Addr) (h0 : Heap) (n0 : Nat) (Z0 : n0 ≤ h0.size) (O0 : Old Z n0 h0) (E_1 : Exa Z h0 a1 "com/example/cartouche/cartouche/checking/Profile") (g_1 : n0 ≤ a1) (ne13 : a1 ≠ a3) (E_3 : Exa Z h0 a3 "java/util/ArrayList") (F_s3 : Fld Z h0 a3 "java/util/ArrayList" "size" "I" (.int (0 : Int32))) (F_m3 : Fld Z h0 a3 "java/util/AbstractList" "modCount" "I" (.int (0 : Int32))) (F_name : Fld Z h0 a1 "com/example/cartouche/cartouche/checking/Profile" "name" "Ljava/lang/String;" .null) (F_rules : Fld Z h0 a1 "com/example/cartouche/cartouche/checking/Profile" "rules" "Ljava/util/List;" .null) (F_schemas : Fld Z h0 a1 "com/example/cartouche/cartouche/checking/Profile" "schemas" "Ljava/util/List;" .null) (hI : ∃ c t, Z.vm.findClass "java/util/ArrayList" = some c ∧ Z.vm.findClass "java/util/ImmutableCollections$List12" = some t ∧ Z.vm.assignable c t = false) (hJ : (∃ c t, Z.vm.findClass "java/util/ImmutableCollections$ListN" = some c ∧ Z.vm.findClass "java/util/ImmutableCollections$List12" = some t ∧ Z.vm.assignable c t = true) ∨ (∃ c t, Z.vm.findClass "java/util/ImmutableCollections$ListN" = some c ∧ Z.vm.findClass "java/util/ImmutableCollections$List12" = some t ∧ Z.vm.assignable c t = false)) (E_L : Exa Z Z.heap wL "java/util/ImmutableCollections$ListN") (F_a : Fld Z Z.heap wL "java/util/ImmutableCollections$ListN" "allowNulls" "Z" (.int (0 : Int32))) (S_L : Sta Z Z.heap "java/util/ImmutableCollections" "EMPTY_LIST" "Ljava/util/ImmutableCollections$ListN;" (.ref wL)) (hN : ∃ c t, Z.vm.findClass "java/util/ArrayList" = some c ∧ Z.vm.findClass "java/util/ImmutableCollections$ListN" = some t ∧ Z.vm.assignable c t = false) :
    MetFree l (⟨"com/example/cartouche/cartouche/checking/Profile", "<init>", "(Ljava/lang/String;Ljava/util/List;)V"⟩ : MethodName) (head1 (Jvm.Cond.code (⟨"com/example/cartouche/cartouche/checking/Profile", "<init>", "(Ljava/lang/String;Ljava/util/List;)V"⟩ : MethodName) prog_19_method_1_code 3 none :: ws) ({ frames := 4, cells := 0, slots := 0, locals := 53 } : Room)) (fun a U => a = #[(.ref a1), (.ref a2), (.ref a3)] ∧ Z.Warmed39 U.vm ∧ U.heap = h0) (fun _ _ _ _ _ => True) (fun _ U o U' => ∃ v L, o = .returned v ∧ Q_prof2_0 Z a1 a2 a3 wL h0 n0 v U'.heap L ∧ FrameEnd U o U' L ({ frames := 4, cells := 0, slots := 0, locals := 53 } : Room).cells ({ frames := 4, cells := 0, slots := 0, locals := 53 } : Room).slots) := by
  refine MetFree.of_bodySF (plainFor_of_name pn_5) hisR ?_
  intro p e s m args below meth c s₁ Bd hml0 hP hK
  obtain ⟨rfl, hZ, hh⟩ := hP
  have hx := Bd.exec
  have hby := Bd.bytes
  have hml : c.maxLocals = 3 := hml0
  have hown : s.vm.findClass "com/example/cartouche/cartouche/checking/Profile" = some m.cls := findClass_of_methodNamed Bd.named
  have hnm := (name_of_methodNamed Bd.named Bd.method).1
  have hlk := Bd.notSynchronized
  have hret := Bd.returns
  have X0 : Stand p l e ({ frames := 4, cells := 0, slots := 0, locals := 53 } : Room) s m #[(.ref a1), (.ref a2), (.ref a3)] below meth c s₁ [] 0 0 := Stand.of_body Bd
  have e0 : s₁.heap = h0 := by rw [← hh, Bd.state]; rfl
  have N0 := Fr.nil n0
  have K0 := Keep.refl h0 [a1]
  refine own_in ({ frames := 4, cells := 0, slots := 0, locals := 53 } : Room).cells ({ frames := 4, cells := 0, slots := 0, locals := 53 } : Room).slots (Q_prof2_0 Z a1 a2 a3 wL h0 n0) (ef_prof2_0 m a1 a2 a3) ?_
  show own_G p.tables e below _ (s₁.setTop (mkF m 0 #[.val (.ref a1), .val (.ref a2), .val (.ref a3)] []))
  refine own_st (fun _ kS => XS.aloadN X0.here hx rfl (hb hby d5_0) rfl rfl kS) ?_
  refine own_st (fun _ kS => XS.aloadN X0.here hx rfl (hb hby d5_1) rfl rfl kS) ?_
  refine own_st (fun _ kS => XS.aloadN X0.here hx rfl (hb hby d5_2) rfl rfl kS) ?_
  show own_G p.tables e below _ (s₁.setTop (mkF m 3 #[.val (.ref a1), .val (.ref a2), .val (.ref a3)] [(.ref a3), (.ref a2), (.ref a1)]))
  obtain ⟨_, _, ⟨T1, L1, k1, n1⟩, -, X1, ⟨Lc1, hQ1, l1, y1, z1⟩, st1⟩ := Jvm.LawKit.callS X0 hx (y := (⟨"java/util/List", "of", "()Ljava/util/List;"⟩ : MethodName)) hown (mvT hZ (own_w hw 41 rfl)) (mvT hZ (own_w hw 42 rfl)) (mvT hZ (own_w hw 43 rfl)) (mvT hZ (own_w hw 44 rfl)) (by decide) (backOf (W := 3) (rm_listOf l Z a0 hw [] wL h0 n0 Z0 O0 S_L) hZ (own_w hw 44 rfl) (own_w hw 43 rfl) (by decide) (by decide)) (g := (mkF m 3 #[.val (.ref a1), .val (.ref a2), .val (.ref a3)] [(.ref a3), (.ref a2), (.ref a1)])) rfl (by rw [hml]; rfl) (argsL := []) (rest := [(.ref a3), (.ref a2), (.ref a1)]) (lenOf own_pd2 rfl) rfl (by show 2 * 0 + _ ≤ _; exact Nat.le_of_eq rfl) (hb hby d5_3) (fun _ _ => ⟨rfl, e0, (by decide : 0 + 0 ≤ _), (by decide : 0 + 0 ≤ _)⟩)
  dsimp only [Pt.U, Pt.locs, Pt.cells, Pt.slots] at X1 l1 y1 z1 st1 hQ1
  subst l1 y1 z1
  obtain ⟨rfl, Nq1, eq1⟩ := hQ1
  have N1 := Fr.app N0 Nq1
  refine own_st st1 ?_
  show own_G p.tables e below _ (T1.setTop (mkF m 6 #[.val (.ref a1), .val (.ref a2), .val (.ref a3)] [(.ref wL), (.ref a3), (.ref a2), (.ref a1)]))
  obtain ⟨_, _, ⟨T2, L2, k2, n2⟩, -, X2, ⟨Lc2, hQ2, l2, y2, z2⟩, st2⟩ := X1.specialBack hx (y := (⟨"com/example/cartouche/cartouche/checking/Profile", "<init>", "(Ljava/lang/String;Ljava/util/List;Ljava/util/List;)V"⟩ : MethodName)) rfl hown (mvT hZ (own_w hw 47 rfl)) (mvT hZ (own_w hw 48 rfl)) (mvT hZ (own_w hw 49 rfl)) (by decide) (backOf (W := 0) (rm_prof3_0 l Z a0 hw [] a1 a2 a3 wL h0 n0 Z0 O0 E_1 g_1 ne13 E_3 F_s3 F_m3 F_name F_rules F_schemas hI hJ E_L F_a S_L hN) hZ (own_w hw 49 rfl) (own_w hw 3 rfl) (by decide) (by decide)) (g := (mkF m 6 #[.val (.ref a1), .val (.ref a2), .val (.ref a3)] [(.ref wL), (.ref a3), (.ref a2), (.ref a1)])) rfl (by rw [hml]; rfl) (Steps.refl _) (a := a1) (argsL := [(.ref a2), (.ref a3), (.ref wL)]) (rest := []) (lenOf own_pd4 rfl) rfl (by show 2 * 0 + _ ≤ _; exact Nat.le_of_eq rfl) (hb hby d5_6) (fun _ _ => ⟨rfl, eq1, (by decide : 0 + 0 ≤ _), (by decide : 0 + 0 ≤ _)⟩)
  dsimp only [Pt.U, Pt.locs, Pt.cells, Pt.slots] at X2 l2 y2 z2 st2 hQ2
  subst l2 y2 z2
  obtain ⟨rfl, Nq2, Kc2, P2_0, P2_1⟩ := hQ2
  have N2 := Fr.app N1 Nq2
  have K2 := K0.trans Kc2 (allS (Or.inl (List.mem_of_getElem? (i := 0) rfl)) all0)
  have O2 := O0.keep Kc2 (allS g_1 all0)
  refine own_tr st2 ?_
  show own_G p.tables e below _ (T2.setTop (mkF m 9 #[.val (.ref a1), .val (.ref a2), .val (.ref a3)] []))
  exact own_retV X2 hx hlk hret (hb hby d5_9) (by decide) (by decide) (show Q_prof2_0 Z a1 a2 a3 wL h0 n0 _ _ _ from ⟨rfl, N2, K2, P2_0, P2_1⟩)
theorem ef_prof2_1 (m : MethodId) (x0 : Addr) (x1 : Addr) (x2 : Addr) : entryFrame m #[(.ref x0), (.ref x1), (.ref x2)] 3 = mkF m 0 #[.val (.ref x0), .val (.ref x1), .val (.ref x2)] [] := by first | (simp [entryFrame, mkF, argsToLocals, Value.category]; done) | rfl
def Q_prof2_1 (Z : State) (a1 : Addr) (a2 : Addr) (a3 : Addr) (wL : Addr) (h0 : Heap) (n0 : Nat) (v : Option Value) (h : Heap) (L : List Loc) : Prop := v = none ∧ Fr n0 L ∧ Keep h0 h [a1] ∧ Exa Z h a1 "com/example/cartouche/cartouche/checking/Profile" ∧ Fld Z h a1 "com/example/cartouche/cartouche/checking/Profile" "rules" "Ljava/util/List;" (.ref a3)
set_option maxRecDepth 65536 in
set_option maxHeartbeats 40000000 in
theorem rm_prof2_1 (l : Launch) (Z : State) (a0 : Array Value) (hw : ∀ d ∈ tables_1, d.before a0 Z = true) (ws : List Jvm.Cond) (a1 : Addr) (a2 : Addr) (a3 : Addr) (wL : Addr) (h0 : Heap) (n0 : Nat) (Z0 : n0 ≤ h0.size) (O0 : Old Z n0 h0) (E_1 : Exa Z h0 a1 "com/example/cartouche/cartouche/checking/Profile") (g_1 : n0 ≤ a1) (ne13 : a1 ≠ a3) (E_3 : Exa Z h0 a3 "java/util/ArrayList") (F_s3 : Fld Z h0 a3 "java/util/ArrayList" "size" "I" (.int (0 : Int32))) (F_m3 : Fld Z h0 a3 "java/util/AbstractList" "modCount" "I" (.int (0 : Int32))) (F_name : Fld Z h0 a1 "com/example/cartouche/cartouche/checking/Profile" "name" "Ljava/lang/String;" .null) (F_rules : Fld Z h0 a1 "com/example/cartouche/cartouche/checking/Profile" "rules" "Ljava/util/List;" .null) (F_schemas : Fld Z h0 a1 "com/example/cartouche/cartouche/checking/Profile" "schemas" "Ljava/util/List;" .null) (hI : ∃ c t, Z.vm.findClass "java/util/ArrayList" = some c ∧ Z.vm.findClass "java/util/ImmutableCollections$List12" = some t ∧ Z.vm.assignable c t = true) (hJ : (∃ c t, Z.vm.findClass "java/util/ImmutableCollections$ListN" = some c ∧ Z.vm.findClass "java/util/ImmutableCollections$List12" = some t ∧ Z.vm.assignable c t = true) ∨ (∃ c t, Z.vm.findClass "java/util/ImmutableCollections$ListN" = some c ∧ Z.vm.findClass "java/util/ImmutableCollections$List12" = some t ∧ Z.vm.assignable c t = false)) (E_L : Exa Z Z.heap wL "java/util/ImmutableCollections$ListN") (F_a : Fld Z Z.heap wL "java/util/ImmutableCollections$ListN" "allowNulls" "Z" (.int (0 : Int32))) (S_L : Sta Z Z.heap "java/util/ImmutableCollections" "EMPTY_LIST" "Ljava/util/ImmutableCollections$ListN;" (.ref wL)) :
    MetFree l (⟨"com/example/cartouche/cartouche/checking/Profile", "<init>", "(Ljava/lang/String;Ljava/util/List;)V"⟩ : MethodName) (head1 (Jvm.Cond.code (⟨"com/example/cartouche/cartouche/checking/Profile", "<init>", "(Ljava/lang/String;Ljava/util/List;)V"⟩ : MethodName) prog_19_method_1_code 3 none :: ws) ({ frames := 3, cells := 0, slots := 0, locals := 41 } : Room)) (fun a U => a = #[(.ref a1), (.ref a2), (.ref a3)] ∧ Z.Warmed39 U.vm ∧ U.heap = h0) (fun _ _ _ _ _ => True) (fun _ U o U' => ∃ v L, o = .returned v ∧ Q_prof2_1 Z a1 a2 a3 wL h0 n0 v U'.heap L ∧ FrameEnd U o U' L ({ frames := 3, cells := 0, slots := 0, locals := 41 } : Room).cells ({ frames := 3, cells := 0, slots := 0, locals := 41 } : Room).slots) := by
  refine MetFree.of_bodySF (plainFor_of_name pn_5) hisR ?_
  intro p e s m args below meth c s₁ Bd hml0 hP hK
  obtain ⟨rfl, hZ, hh⟩ := hP
  have hx := Bd.exec
  have hby := Bd.bytes
  have hml : c.maxLocals = 3 := hml0
  have hown : s.vm.findClass "com/example/cartouche/cartouche/checking/Profile" = some m.cls := findClass_of_methodNamed Bd.named
  have hnm := (name_of_methodNamed Bd.named Bd.method).1
  have hlk := Bd.notSynchronized
  have hret := Bd.returns
  have X0 : Stand p l e ({ frames := 3, cells := 0, slots := 0, locals := 41 } : Room) s m #[(.ref a1), (.ref a2), (.ref a3)] below meth c s₁ [] 0 0 := Stand.of_body Bd
  have e0 : s₁.heap = h0 := by rw [← hh, Bd.state]; rfl
  have N0 := Fr.nil n0
  have K0 := Keep.refl h0 [a1]
  refine own_in ({ frames := 3, cells := 0, slots := 0, locals := 41 } : Room).cells ({ frames := 3, cells := 0, slots := 0, locals := 41 } : Room).slots (Q_prof2_1 Z a1 a2 a3 wL h0 n0) (ef_prof2_1 m a1 a2 a3) ?_
  show own_G p.tables e below _ (s₁.setTop (mkF m 0 #[.val (.ref a1), .val (.ref a2), .val (.ref a3)] []))
  refine own_st (fun _ kS => XS.aloadN X0.here hx rfl (hb hby d5_0) rfl rfl kS) ?_
  refine own_st (fun _ kS => XS.aloadN X0.here hx rfl (hb hby d5_1) rfl rfl kS) ?_
  refine own_st (fun _ kS => XS.aloadN X0.here hx rfl (hb hby d5_2) rfl rfl kS) ?_
  show own_G p.tables e below _ (s₁.setTop (mkF m 3 #[.val (.ref a1), .val (.ref a2), .val (.ref a3)] [(.ref a3), (.ref a2), (.ref a1)]))
  obtain ⟨_, _, ⟨T1, L1, k1, n1⟩, -, X1, ⟨Lc1, hQ1, l1, y1, z1⟩, st1⟩ := Jvm.LawKit.callS X0 hx (y := (⟨"java/util/List", "of", "()Ljava/util/List;"⟩ : MethodName)) hown (mvT hZ (own_w hw 41 rfl)) (mvT hZ (own_w hw 42 rfl)) (mvT hZ (own_w hw 43 rfl)) (mvT hZ (own_w hw 44 rfl)) (by decide) (backOf (W := 3) (rm_listOf l Z a0 hw [] wL h0 n0 Z0 O0 S_L) hZ (own_w hw 44 rfl) (own_w hw 43 rfl) (by decide) (by decide)) (g := (mkF m 3 #[.val (.ref a1), .val (.ref a2), .val (.ref a3)] [(.ref a3), (.ref a2), (.ref a1)])) rfl (by rw [hml]; rfl) (argsL := []) (rest := [(.ref a3), (.ref a2), (.ref a1)]) (lenOf own_pd2 rfl) rfl (by show 2 * 0 + _ ≤ _; exact Nat.le_of_eq rfl) (hb hby d5_3) (fun _ _ => ⟨rfl, e0, (by decide : 0 + 0 ≤ _), (by decide : 0 + 0 ≤ _)⟩)
  dsimp only [Pt.U, Pt.locs, Pt.cells, Pt.slots] at X1 l1 y1 z1 st1 hQ1
  subst l1 y1 z1
  obtain ⟨rfl, Nq1, eq1⟩ := hQ1
  have N1 := Fr.app N0 Nq1
  refine own_st st1 ?_
  show own_G p.tables e below _ (T1.setTop (mkF m 6 #[.val (.ref a1), .val (.ref a2), .val (.ref a3)] [(.ref wL), (.ref a3), (.ref a2), (.ref a1)]))
  obtain ⟨_, _, ⟨T2, L2, k2, n2⟩, -, X2, ⟨Lc2, hQ2, l2, y2, z2⟩, st2⟩ := X1.specialBack hx (y := (⟨"com/example/cartouche/cartouche/checking/Profile", "<init>", "(Ljava/lang/String;Ljava/util/List;Ljava/util/List;)V"⟩ : MethodName)) rfl hown (mvT hZ (own_w hw 47 rfl)) (mvT hZ (own_w hw 48 rfl)) (mvT hZ (own_w hw 49 rfl)) (by decide) (backOf (W := 0) (rm_prof3_1 l Z a0 hw [] a1 a2 a3 wL h0 n0 Z0 O0 E_1 g_1 ne13 E_3 F_s3 F_m3 F_name F_rules F_schemas hI hJ E_L F_a S_L) hZ (own_w hw 49 rfl) (own_w hw 3 rfl) (by decide) (by decide)) (g := (mkF m 6 #[.val (.ref a1), .val (.ref a2), .val (.ref a3)] [(.ref wL), (.ref a3), (.ref a2), (.ref a1)])) rfl (by rw [hml]; rfl) (Steps.refl _) (a := a1) (argsL := [(.ref a2), (.ref a3), (.ref wL)]) (rest := []) (lenOf own_pd4 rfl) rfl (by show 2 * 0 + _ ≤ _; exact Nat.le_of_eq rfl) (hb hby d5_6) (fun _ _ => ⟨rfl, eq1, (by decide : 0 + 0 ≤ _), (by decide : 0 + 0 ≤ _)⟩)
  dsimp only [Pt.U, Pt.locs, Pt.cells, Pt.slots] at X2 l2 y2 z2 st2 hQ2
  subst l2 y2 z2
  obtain ⟨rfl, Nq2, Kc2, P2_0, P2_1⟩ := hQ2
  have N2 := Fr.app N1 Nq2
  have K2 := K0.trans Kc2 (allS (Or.inl (List.mem_of_getElem? (i := 0) rfl)) all0)
  have O2 := O0.keep Kc2 (allS g_1 all0)
  refine own_tr st2 ?_
  show own_G p.tables e below _ (T2.setTop (mkF m 9 #[.val (.ref a1), .val (.ref a2), .val (.ref a3)] []))
  exact own_retV X2 hx hlk hret (hb hby d5_9) (by decide) (by decide) (show Q_prof2_1 Z a1 a2 a3 wL h0 n0 _ _ _ from ⟨rfl, N2, K2, P2_0, P2_1⟩)
theorem d11_0 : decode prog_34_method_1_code 0 = .ok (.aload_n 0, 1) := by decide +kernel
theorem d11_1 : decode prog_34_method_1_code 1 = .ok (.invokespecial 1, 3) := by decide +kernel
theorem d11_4 : decode prog_34_method_1_code 4 = .ok (.aload_n 0, 1) := by decide +kernel
theorem d11_5 : decode prog_34_method_1_code 5 = .ok (.aload_n 1, 1) := by decide +kernel
theorem d11_6 : decode prog_34_method_1_code 6 = .ok (.putfield 7, 3) := by decide +kernel
theorem d11_9 : decode prog_34_method_1_code 9 = .ok (.aload_n 0, 1) := by decide +kernel
theorem d11_10 : decode prog_34_method_1_code 10 = .ok (.aload_n 2, 1) := by decide +kernel
theorem d11_11 : decode prog_34_method_1_code 11 = .ok (.invokestatic 13, 3) := by decide +kernel
theorem d11_14 : decode prog_34_method_1_code 14 = .ok (.putfield 19, 3) := by decide +kernel
theorem d11_17 : decode prog_34_method_1_code 17 = .ok (.return_, 1) := by decide +kernel
theorem pn_11 : plainName "com/example/cartouche/cartouche/checking/Verdict" = true := by first | (simp [plainName, overriddenIn]; done) | decide +kernel
theorem ef_ver_0 (m : MethodId) (x0 : Addr) (x1 : Addr) : entryFrame m #[(.ref x0), .null, (.ref x1)] 3 = mkF m 0 #[.val (.ref x0), .val .null, .val (.ref x1)] [] := by first | (simp [entryFrame, mkF, argsToLocals, Value.category]; done) | rfl
def Q_ver_0 (Z : State) (a1 : Addr) (a3 : Addr) (wL : Addr) (h0 : Heap) (n0 : Nat) (v : Option Value) (h : Heap) (L : List Loc) : Prop := v = none ∧ Fr n0 L ∧ Keep h0 h [a1] ∧ Exa Z h a1 "com/example/cartouche/cartouche/checking/Verdict" ∧ Fld Z h a1 "com/example/cartouche/cartouche/checking/Verdict" "failures" "Ljava/util/List;" (.ref wL)
set_option maxRecDepth 65536 in
set_option maxHeartbeats 40000000 in
theorem rm_ver_0 (l : Launch) (Z : State) (a0 : Array Value) (hw : ∀ d ∈ tables_1, d.before a0 Z = true) (ws : List Jvm.Cond) (a1 : Addr) (a3 : Addr) (wL : Addr) (h0 : Heap) (n0 : Nat) (Z0 : n0 ≤ h0.size) (O0 : Old Z n0 h0) (E_1 : Exa Z h0 a1 "com/example/cartouche/cartouche/checking/Verdict") (g_1 : n0 ≤ a1) (ne13 : a1 ≠ a3) (E_3 : Exa Z h0 a3 "java/util/ArrayList") (F_s3 : Fld Z h0 a3 "java/util/ArrayList" "size" "I" (.int (0 : Int32))) (F_m3 : Fld Z h0 a3 "java/util/AbstractList" "modCount" "I" (.int (0 : Int32))) (F_p : Fld Z h0 a1 "com/example/cartouche/cartouche/checking/Verdict" "position" "Ljava/util/OptionalInt;" .null) (F_f : Fld Z h0 a1 "com/example/cartouche/cartouche/checking/Verdict" "failures" "Ljava/util/List;" .null) (hI : ∃ c t, Z.vm.findClass "java/util/ArrayList" = some c ∧ Z.vm.findClass "java/util/ImmutableCollections$List12" = some t ∧ Z.vm.assignable c t = false) (hJ : (∃ c t, Z.vm.findClass "java/util/ImmutableCollections$ListN" = some c ∧ Z.vm.findClass "java/util/ImmutableCollections$List12" = some t ∧ Z.vm.assignable c t = true) ∨ (∃ c t, Z.vm.findClass "java/util/ImmutableCollections$ListN" = some c ∧ Z.vm.findClass "java/util/ImmutableCollections$List12" = some t ∧ Z.vm.assignable c t = false)) (E_L : Exa Z Z.heap wL "java/util/ImmutableCollections$ListN") (F_a : Fld Z Z.heap wL "java/util/ImmutableCollections$ListN" "allowNulls" "Z" (.int (0 : Int32))) (S_L : Sta Z Z.heap "java/util/ImmutableCollections" "EMPTY_LIST" "Ljava/util/ImmutableCollections$ListN;" (.ref wL)) (hN : ∃ c t, Z.vm.findClass "java/util/ArrayList" = some c ∧ Z.vm.findClass "java/util/ImmutableCollections$ListN" = some t ∧ Z.vm.assignable c t = false) :
    MetFree l (⟨"com/example/cartouche/cartouche/checking/Verdict", "<init>", "(Ljava/util/OptionalInt;Ljava/util/List;)V"⟩ : MethodName) (head1 (Jvm.Cond.code (⟨"com/example/cartouche/cartouche/checking/Verdict", "<init>", "(Ljava/util/OptionalInt;Ljava/util/List;)V"⟩ : MethodName) prog_34_method_1_code 3 none :: ws) ({ frames := 3, cells := 0, slots := 0, locals := 38 } : Room)) (fun a U => a = #[(.ref a1), .null, (.ref a3)] ∧ Z.Warmed39 U.vm ∧ U.heap = h0) (fun _ _ _ _ _ => True) (fun _ U o U' => ∃ v L, o = .returned v ∧ Q_ver_0 Z a1 a3 wL h0 n0 v U'.heap L ∧ FrameEnd U o U' L ({ frames := 3, cells := 0, slots := 0, locals := 38 } : Room).cells ({ frames := 3, cells := 0, slots := 0, locals := 38 } : Room).slots) := by
  refine MetFree.of_bodySF (plainFor_of_name pn_11) hisR ?_
  intro p e s m args below meth c s₁ Bd hml0 hP hK
  obtain ⟨rfl, hZ, hh⟩ := hP
  have hx := Bd.exec
  have hby := Bd.bytes
  have hml : c.maxLocals = 3 := hml0
  have hown : s.vm.findClass "com/example/cartouche/cartouche/checking/Verdict" = some m.cls := findClass_of_methodNamed Bd.named
  have hnm := (name_of_methodNamed Bd.named Bd.method).1
  have hlk := Bd.notSynchronized
  have hret := Bd.returns
  have X0 : Stand p l e ({ frames := 3, cells := 0, slots := 0, locals := 38 } : Room) s m #[(.ref a1), .null, (.ref a3)] below meth c s₁ [] 0 0 := Stand.of_body Bd
  have e0 : s₁.heap = h0 := by rw [← hh, Bd.state]; rfl
  have N0 := Fr.nil n0
  have K0 := Keep.refl h0 [a1]
  refine own_in ({ frames := 3, cells := 0, slots := 0, locals := 38 } : Room).cells ({ frames := 3, cells := 0, slots := 0, locals := 38 } : Room).slots (Q_ver_0 Z a1 a3 wL h0 n0) (ef_ver_0 m a1 a3) ?_
  show own_G p.tables e below _ (s₁.setTop (mkF m 0 #[.val (.ref a1), .val .null, .val (.ref a3)] []))
  refine own_st (fun _ kS => XS.aloadN X0.here hx rfl (hb hby d11_0) rfl rfl kS) ?_
  show own_G p.tables e below _ (s₁.setTop (mkF m 1 #[.val (.ref a1), .val .null, .val (.ref a3)] [(.ref a1)]))
  obtain ⟨T1, X1, e1, st1⟩ := initO X0 hx hZ hown (own_w hw 95 rfl) (own_w hw 31 rfl) (own_w hw 32 rfl) e0 (g := (mkF m 1 #[.val (.ref a1), .val .null, .val (.ref a3)] [(.ref a1)])) rfl (by rw [hml]; rfl) rfl (hb hby d11_1) (by decide) (W := 0) (by show 2 * 0 + _ ≤ _; exact Nat.le_of_eq rfl) (by decide)
  refine own_st st1 ?_
  show own_G p.tables e below _ (T1.setTop (mkF m 4 #[.val (.ref a1), .val .null, .val (.ref a3)] []))
  refine own_st (fun _ kS => XS.aloadN X1.here hx rfl (hb hby d11_4) rfl rfl kS) ?_
  refine own_st (fun _ kS => XS.aloadN X1.here hx rfl (hb hby d11_5) rfl rfl kS) ?_
  show own_G p.tables e below _ (T1.setTop (mkF m 6 #[.val (.ref a1), .val .null, .val (.ref a3)] [.null, (.ref a1)]))
  obtain ⟨T2, h2, X2, e2, W2, st2⟩ := putF X1 hx hZ hown (host := "") (Or.inl (own_w hw 96 rfl)) Via.refl e1 F_p E_1 (Or.inr ⟨(own_w hw 97 rfl), rfl, hnm⟩) (own_w hw 90 rfl) (ty := (.object "java/util/OptionalInt")) (by decide) rfl rfl (g := (mkF m 6 #[.val (.ref a1), .val .null, .val (.ref a3)] [.null, (.ref a1)])) rfl rfl (hb hby d11_6)
  refine own_st st2 ?_
  have N2 := Fr.snoc X2 N0 g_1
  have K2 := K0.wr W2 (Or.inl (List.mem_of_getElem? (i := 0) rfl))
  have O2 := O0.wr W2 g_1
  have Fw2 := Fld.same W2 F_p
  show own_G p.tables e below _ (T2.setTop (mkF m 9 #[.val (.ref a1), .val .null, .val (.ref a3)] []))
  refine own_st (fun _ kS => XS.aloadN X2.here hx rfl (hb hby d11_9) rfl rfl kS) ?_
  refine own_st (fun _ kS => XS.aloadN X2.here hx rfl (hb hby d11_10) rfl rfl kS) ?_
  show own_G p.tables e below _ (T2.setTop (mkF m 11 #[.val (.ref a1), .val .null, .val (.ref a3)] [(.ref a3), (.ref a1)]))
  obtain ⟨_, _, ⟨T3, L3, k3, n3⟩, -, X3, ⟨Lc3, hQ3, l3, y3, z3⟩, st3⟩ := Jvm.LawKit.callS X2 hx (y := (⟨"java/util/List", "copyOf", "(Ljava/util/Collection;)Ljava/util/List;"⟩ : MethodName)) hown (mvT hZ (own_w hw 98 rfl)) (mvT hZ (own_w hw 54 rfl)) (mvT hZ (own_w hw 43 rfl)) (mvT hZ (own_w hw 55 rfl)) (by decide) (backOf (W := 1) (rm_cpA0 l Z a0 hw [] a3 wL h2 n0 (Nat.le_trans Z0 (Keep.of_wr W2).1) O2 (Exa.wr W2 E_3) (Fld.other W2 F_s3 (Or.inl (Ne.symm ne13))) hI hN S_L) hZ (own_w hw 55 rfl) (own_w hw 43 rfl) (by decide) (by decide)) (g := (mkF m 11 #[.val (.ref a1), .val .null, .val (.ref a3)] [(.ref a3), (.ref a1)])) rfl (by rw [hml]; rfl) (argsL := [(.ref a3)]) (rest := [(.ref a1)]) (lenOf own_pd3 rfl) rfl (by show 2 * 0 + _ ≤ _; exact Nat.le_of_eq rfl) (hb hby d11_11) (fun _ _ => ⟨rfl, e2, (by decide : 0 + 0 ≤ _), (by decide : 0 + 0 ≤ _)⟩)
  dsimp only [Pt.U, Pt.locs, Pt.cells, Pt.slots] at X3 l3 y3 z3 st3 hQ3
  subst l3 y3 z3
  obtain ⟨rfl, Nq3, eq3⟩ := hQ3
  have N3 := Fr.app N2 Nq3
  refine own_st st3 ?_
  show own_G p.tables e below _ (T3.setTop (mkF m 14 #[.val (.ref a1), .val .null, .val (.ref a3)] [(.ref wL), (.ref a1)]))
  obtain ⟨T4, h4, X4, e4, W4, st4⟩ := putF X3 hx hZ hown (host := "") (Or.inl (own_w hw 99 rfl)) Via.refl eq3 (Fld.other W2 F_f (Or.inr (slot_ne (Or.inr (own_w hw 100 rfl)) (Or.inr (own_w hw 97 rfl)) (by decide) (t := (.object "java/util/List")) (t' := (.object "java/util/OptionalInt")) (by decide) (by decide)))) (Exa.wr W2 E_1) (Or.inr ⟨(own_w hw 100 rfl), rfl, hnm⟩) (own_w hw 90 rfl) (ty := (.object "java/util/List")) (by decide) rfl rfl (g := (mkF m 14 #[.val (.ref a1), .val .null, .val (.ref a3)] [(.ref wL), (.ref a1)])) rfl rfl (hb hby d11_14)
  refine own_st st4 ?_
  have N4 := Fr.snoc X4 N3 g_1
  have K4 := K2.wr W4 (Or.inl (List.mem_of_getElem? (i := 0) rfl))
  have O4 := O2.wr W4 g_1
  have Fw4 := Fld.same W4 (Fld.other W2 F_f (Or.inr (slot_ne (Or.inr (own_w hw 100 rfl)) (Or.inr (own_w hw 97 rfl)) (by decide) (t := (.object "java/util/List")) (t' := (.object "java/util/OptionalInt")) (by decide) (by decide))))
  show own_G p.tables e below _ (T4.setTop (mkF m 17 #[.val (.ref a1), .val .null, .val (.ref a3)] []))
  exact own_retV X4 hx hlk hret (hb hby d11_17) (by decide) (by decide) (by rw [e4]; exact ⟨rfl, N4, K4, (Exa.wr W4 (Exa.wr W2 E_1)), Fw4⟩)
theorem ef_ver_1 (m : MethodId) (x0 : Addr) (x1 : Addr) : entryFrame m #[(.ref x0), .null, (.ref x1)] 3 = mkF m 0 #[.val (.ref x0), .val .null, .val (.ref x1)] [] := by first | (simp [entryFrame, mkF, argsToLocals, Value.category]; done) | rfl
def Q_ver_1 (Z : State) (a1 : Addr) (a3 : Addr) (wL : Addr) (h0 : Heap) (n0 : Nat) (v : Option Value) (h : Heap) (L : List Loc) : Prop := v = none ∧ Fr n0 L ∧ Keep h0 h [a1] ∧ Exa Z h a1 "com/example/cartouche/cartouche/checking/Verdict" ∧ Fld Z h a1 "com/example/cartouche/cartouche/checking/Verdict" "failures" "Ljava/util/List;" (.ref a3)
set_option maxRecDepth 65536 in
set_option maxHeartbeats 40000000 in
theorem rm_ver_1 (l : Launch) (Z : State) (a0 : Array Value) (hw : ∀ d ∈ tables_1, d.before a0 Z = true) (ws : List Jvm.Cond) (a1 : Addr) (a3 : Addr) (wL : Addr) (h0 : Heap) (n0 : Nat) (Z0 : n0 ≤ h0.size) (O0 : Old Z n0 h0) (E_1 : Exa Z h0 a1 "com/example/cartouche/cartouche/checking/Verdict") (g_1 : n0 ≤ a1) (ne13 : a1 ≠ a3) (E_3 : Exa Z h0 a3 "java/util/ArrayList") (F_s3 : Fld Z h0 a3 "java/util/ArrayList" "size" "I" (.int (0 : Int32))) (F_m3 : Fld Z h0 a3 "java/util/AbstractList" "modCount" "I" (.int (0 : Int32))) (F_p : Fld Z h0 a1 "com/example/cartouche/cartouche/checking/Verdict" "position" "Ljava/util/OptionalInt;" .null) (F_f : Fld Z h0 a1 "com/example/cartouche/cartouche/checking/Verdict" "failures" "Ljava/util/List;" .null) (hI : ∃ c t, Z.vm.findClass "java/util/ArrayList" = some c ∧ Z.vm.findClass "java/util/ImmutableCollections$List12" = some t ∧ Z.vm.assignable c t = true) (hJ : (∃ c t, Z.vm.findClass "java/util/ImmutableCollections$ListN" = some c ∧ Z.vm.findClass "java/util/ImmutableCollections$List12" = some t ∧ Z.vm.assignable c t = true) ∨ (∃ c t, Z.vm.findClass "java/util/ImmutableCollections$ListN" = some c ∧ Z.vm.findClass "java/util/ImmutableCollections$List12" = some t ∧ Z.vm.assignable c t = false)) (E_L : Exa Z Z.heap wL "java/util/ImmutableCollections$ListN") (F_a : Fld Z Z.heap wL "java/util/ImmutableCollections$ListN" "allowNulls" "Z" (.int (0 : Int32))) (S_L : Sta Z Z.heap "java/util/ImmutableCollections" "EMPTY_LIST" "Ljava/util/ImmutableCollections$ListN;" (.ref wL)) :
    MetFree l (⟨"com/example/cartouche/cartouche/checking/Verdict", "<init>", "(Ljava/util/OptionalInt;Ljava/util/List;)V"⟩ : MethodName) (head1 (Jvm.Cond.code (⟨"com/example/cartouche/cartouche/checking/Verdict", "<init>", "(Ljava/util/OptionalInt;Ljava/util/List;)V"⟩ : MethodName) prog_34_method_1_code 3 none :: ws) ({ frames := 2, cells := 0, slots := 0, locals := 26 } : Room)) (fun a U => a = #[(.ref a1), .null, (.ref a3)] ∧ Z.Warmed39 U.vm ∧ U.heap = h0) (fun _ _ _ _ _ => True) (fun _ U o U' => ∃ v L, o = .returned v ∧ Q_ver_1 Z a1 a3 wL h0 n0 v U'.heap L ∧ FrameEnd U o U' L ({ frames := 2, cells := 0, slots := 0, locals := 26 } : Room).cells ({ frames := 2, cells := 0, slots := 0, locals := 26 } : Room).slots) := by
  refine MetFree.of_bodySF (plainFor_of_name pn_11) hisR ?_
  intro p e s m args below meth c s₁ Bd hml0 hP hK
  obtain ⟨rfl, hZ, hh⟩ := hP
  have hx := Bd.exec
  have hby := Bd.bytes
  have hml : c.maxLocals = 3 := hml0
  have hown : s.vm.findClass "com/example/cartouche/cartouche/checking/Verdict" = some m.cls := findClass_of_methodNamed Bd.named
  have hnm := (name_of_methodNamed Bd.named Bd.method).1
  have hlk := Bd.notSynchronized
  have hret := Bd.returns
  have X0 : Stand p l e ({ frames := 2, cells := 0, slots := 0, locals := 26 } : Room) s m #[(.ref a1), .null, (.ref a3)] below meth c s₁ [] 0 0 := Stand.of_body Bd
  have e0 : s₁.heap = h0 := by rw [← hh, Bd.state]; rfl
  have N0 := Fr.nil n0
  have K0 := Keep.refl h0 [a1]
  refine own_in ({ frames := 2, cells := 0, slots := 0, locals := 26 } : Room).cells ({ frames := 2, cells := 0, slots := 0, locals := 26 } : Room).slots (Q_ver_1 Z a1 a3 wL h0 n0) (ef_ver_1 m a1 a3) ?_
  show own_G p.tables e below _ (s₁.setTop (mkF m 0 #[.val (.ref a1), .val .null, .val (.ref a3)] []))
  refine own_st (fun _ kS => XS.aloadN X0.here hx rfl (hb hby d11_0) rfl rfl kS) ?_
  show own_G p.tables e below _ (s₁.setTop (mkF m 1 #[.val (.ref a1), .val .null, .val (.ref a3)] [(.ref a1)]))
  obtain ⟨T1, X1, e1, st1⟩ := initO X0 hx hZ hown (own_w hw 95 rfl) (own_w hw 31 rfl) (own_w hw 32 rfl) e0 (g := (mkF m 1 #[.val (.ref a1), .val .null, .val (.ref a3)] [(.ref a1)])) rfl (by rw [hml]; rfl) rfl (hb hby d11_1) (by decide) (W := 0) (by show 2 * 0 + _ ≤ _; exact Nat.le_of_eq rfl) (by decide)
  refine own_st st1 ?_
  show own_G p.tables e below _ (T1.setTop (mkF m 4 #[.val (.ref a1), .val .null, .val (.ref a3)] []))
  refine own_st (fun _ kS => XS.aloadN X1.here hx rfl (hb hby d11_4) rfl rfl kS) ?_
  refine own_st (fun _ kS => XS.aloadN X1.here hx rfl (hb hby d11_5) rfl rfl kS) ?_
  show own_G p.tables e below _ (T1.setTop (mkF m 6 #[.val (.ref a1), .val .null, .val (.ref a3)] [.null, (.ref a1)]))
  obtain ⟨T2, h2, X2, e2, W2, st2⟩ := putF X1 hx hZ hown (host := "") (Or.inl (own_w hw 96 rfl)) Via.refl e1 F_p E_1 (Or.inr ⟨(own_w hw 97 rfl), rfl, hnm⟩) (own_w hw 90 rfl) (ty := (.object "java/util/OptionalInt")) (by decide) rfl rfl (g := (mkF m 6 #[.val (.ref a1), .val .null, .val (.ref a3)] [.null, (.ref a1)])) rfl rfl (hb hby d11_6)
  refine own_st st2 ?_
  have N2 := Fr.snoc X2 N0 g_1
  have K2 := K0.wr W2 (Or.inl (List.mem_of_getElem? (i := 0) rfl))
  have O2 := O0.wr W2 g_1
  have Fw2 := Fld.same W2 F_p
  show own_G p.tables e below _ (T2.setTop (mkF m 9 #[.val (.ref a1), .val .null, .val (.ref a3)] []))
  refine own_st (fun _ kS => XS.aloadN X2.here hx rfl (hb hby d11_9) rfl rfl kS) ?_
  refine own_st (fun _ kS => XS.aloadN X2.here hx rfl (hb hby d11_10) rfl rfl kS) ?_
  show own_G p.tables e below _ (T2.setTop (mkF m 11 #[.val (.ref a1), .val .null, .val (.ref a3)] [(.ref a3), (.ref a1)]))
  obtain ⟨_, _, ⟨T3, L3, k3, n3⟩, -, X3, ⟨Lc3, hQ3, l3, y3, z3⟩, st3⟩ := Jvm.LawKit.callS X2 hx (y := (⟨"java/util/List", "copyOf", "(Ljava/util/Collection;)Ljava/util/List;"⟩ : MethodName)) hown (mvT hZ (own_w hw 98 rfl)) (mvT hZ (own_w hw 54 rfl)) (mvT hZ (own_w hw 43 rfl)) (mvT hZ (own_w hw 55 rfl)) (by decide) (backOf (W := 1) (rm_cpA1 l Z a0 hw [] a3 h2 n0 (Nat.le_trans Z0 (Keep.of_wr W2).1) O2 (Exa.wr W2 E_3) (Fld.other W2 F_s3 (Or.inl (Ne.symm ne13))) hI) hZ (own_w hw 55 rfl) (own_w hw 43 rfl) (by decide) (by decide)) (g := (mkF m 11 #[.val (.ref a1), .val .null, .val (.ref a3)] [(.ref a3), (.ref a1)])) rfl (by rw [hml]; rfl) (argsL := [(.ref a3)]) (rest := [(.ref a1)]) (lenOf own_pd3 rfl) rfl (by show 2 * 0 + _ ≤ _; exact Nat.le_of_eq rfl) (hb hby d11_11) (fun _ _ => ⟨rfl, e2, (by decide : 0 + 0 ≤ _), (by decide : 0 + 0 ≤ _)⟩)
  dsimp only [Pt.U, Pt.locs, Pt.cells, Pt.slots] at X3 l3 y3 z3 st3 hQ3
  subst l3 y3 z3
  obtain ⟨rfl, Nq3, eq3⟩ := hQ3
  have N3 := Fr.app N2 Nq3
  refine own_st st3 ?_
  show own_G p.tables e below _ (T3.setTop (mkF m 14 #[.val (.ref a1), .val .null, .val (.ref a3)] [(.ref a3), (.ref a1)]))
  obtain ⟨T4, h4, X4, e4, W4, st4⟩ := putF X3 hx hZ hown (host := "") (Or.inl (own_w hw 99 rfl)) Via.refl eq3 (Fld.other W2 F_f (Or.inr (slot_ne (Or.inr (own_w hw 100 rfl)) (Or.inr (own_w hw 97 rfl)) (by decide) (t := (.object "java/util/List")) (t' := (.object "java/util/OptionalInt")) (by decide) (by decide)))) (Exa.wr W2 E_1) (Or.inr ⟨(own_w hw 100 rfl), rfl, hnm⟩) (own_w hw 90 rfl) (ty := (.object "java/util/List")) (by decide) rfl rfl (g := (mkF m 14 #[.val (.ref a1), .val .null, .val (.ref a3)] [(.ref a3), (.ref a1)])) rfl rfl (hb hby d11_14)
  refine own_st st4 ?_
  have N4 := Fr.snoc X4 N3 g_1
  have K4 := K2.wr W4 (Or.inl (List.mem_of_getElem? (i := 0) rfl))
  have O4 := O2.wr W4 g_1
  have Fw4 := Fld.same W4 (Fld.other W2 F_f (Or.inr (slot_ne (Or.inr (own_w hw 100 rfl)) (Or.inr (own_w hw 97 rfl)) (by decide) (t := (.object "java/util/List")) (t' := (.object "java/util/OptionalInt")) (by decide) (by decide))))
  show own_G p.tables e below _ (T4.setTop (mkF m 17 #[.val (.ref a1), .val .null, .val (.ref a3)] []))
  exact own_retV X4 hx hlk hret (hb hby d11_17) (by decide) (by decide) (by rw [e4]; exact ⟨rfl, N4, K4, (Exa.wr W4 (Exa.wr W2 E_1)), Fw4⟩)
theorem d18_0 : decode jdk_45_method_3_code 0 = .ok (.aload_n 0, 1) := by decide +kernel
theorem d18_1 : decode jdk_45_method_3_code 1 = .ok (.getfield 7, 3) := by decide +kernel
theorem d18_4 : decode jdk_45_method_3_code 4 = .ok (.arraylength, 1) := by decide +kernel
theorem d18_5 : decode jdk_45_method_3_code 5 = .ok (.ireturn, 1) := by decide +kernel
theorem pn_18 : plainName "java/util/ImmutableCollections$ListN" = true := by first | (simp [plainName, overriddenIn]; done) | decide +kernel
theorem ef_lnSize (m : MethodId) (x0 : Addr) : entryFrame m #[(.ref x0)] 1 = mkF m 0 #[.val (.ref x0)] [] := by first | (simp [entryFrame, mkF, argsToLocals, Value.category]; done) | rfl
def Q_lnSize (Z : State) (wL : Addr) (wE : Addr) (kE : ClassId) (h0 : Heap) (n0 : Nat) (v : Option Value) (h : Heap) (L : List Loc) : Prop := v = some (.int (0 : Int32)) ∧ Fr n0 L ∧ h = h0
set_option maxRecDepth 65536 in
set_option maxHeartbeats 40000000 in
theorem rm_lnSize (l : Launch) (Z : State) (a0 : Array Value) (hw : ∀ d ∈ tables_1, d.before a0 Z = true) (ws : List Jvm.Cond) (wL : Addr) (wE : Addr) (kE : ClassId) (h0 : Heap) (n0 : Nat) (Z0 : n0 ≤ h0.size) (O0 : Old Z n0 h0) (F_el : Fld Z Z.heap wL "java/util/ImmutableCollections$ListN" "elements" "[Ljava/lang/Object;" (.ref wE)) (R_E : Arv Z Z.heap wE kE (.object "java/lang/Object") (0 : Int32) [] .null) :
    MetFree l (⟨"java/util/ImmutableCollections$ListN", "size", "()I"⟩ : MethodName) (head1 (Jvm.Cond.code (⟨"java/util/ImmutableCollections$ListN", "size", "()I"⟩ : MethodName) jdk_45_method_3_code 1 (some .int) :: ws) ({ frames := 0, cells := 0, slots := 0, locals := 0 } : Room)) (fun a U => a = #[(.ref wL)] ∧ Z.Warmed39 U.vm ∧ U.heap = h0) (fun _ _ _ _ _ => True) (fun _ U o U' => ∃ v L, o = .returned v ∧ Q_lnSize Z wL wE kE h0 n0 v U'.heap L ∧ FrameEnd U o U' L ({ frames := 0, cells := 0, slots := 0, locals := 0 } : Room).cells ({ frames := 0, cells := 0, slots := 0, locals := 0 } : Room).slots) := by
  refine MetFree.of_bodySF (plainFor_of_name pn_18) hisR ?_
  intro p e s m args below meth c s₁ Bd hml0 hP hK
  obtain ⟨rfl, hZ, hh⟩ := hP
  have hx := Bd.exec
  have hby := Bd.bytes
  have hml : c.maxLocals = 1 := hml0
  have hown : s.vm.findClass "java/util/ImmutableCollections$ListN" = some m.cls := findClass_of_methodNamed Bd.named
  have hnm := (name_of_methodNamed Bd.named Bd.method).1
  have hlk := Bd.notSynchronized
  have hret := Bd.returns
  have X0 : Stand p l e ({ frames := 0, cells := 0, slots := 0, locals := 0 } : Room) s m #[(.ref wL)] below meth c s₁ [] 0 0 := Stand.of_body Bd
  have e0 : s₁.heap = h0 := by rw [← hh, Bd.state]; rfl
  have N0 := Fr.nil n0
  refine own_in ({ frames := 0, cells := 0, slots := 0, locals := 0 } : Room).cells ({ frames := 0, cells := 0, slots := 0, locals := 0 } : Room).slots (Q_lnSize Z wL wE kE h0 n0) (ef_lnSize m wL) ?_
  show own_G p.tables e below _ (s₁.setTop (mkF m 0 #[.val (.ref wL)] []))
  refine own_st (fun _ kS => XS.aloadN X0.here hx rfl (hb hby d18_0) rfl rfl kS) ?_
  show own_G p.tables e below _ (s₁.setTop (mkF m 1 #[.val (.ref wL)] [(.ref wL)]))
  obtain ⟨T1, X1, e1, st1⟩ := getF X0 hx hZ hown (host := "") (Or.inl (own_w hw 167 rfl)) Via.refl e0 (Fld.ext O0.2 F_el) (g := (mkF m 1 #[.val (.ref wL)] [(.ref wL)])) rfl rfl (hb hby d18_1)
  refine own_st st1 ?_
  show own_G p.tables e below _ (T1.setTop (mkF m 4 #[.val (.ref wL)] [(.ref wE)]))
  obtain ⟨cl2, Ar2, qa2, qs2, qn2, qh2, qg2⟩ := id (Arv.ext R_E O0.2)
  refine own_st (fun _ kS => X1.arraylength hx (by rw [e1]; exact Ar2.1) (State.isArrayOf_alike hZ.alike Ar2.2.1) (g := (mkF m 4 #[.val (.ref wL)] [(.ref wE)])) rfl rfl (hb hby d18_4) _ kS) ?_
  rw [len_of qs2 qn2]
  show own_G p.tables e below _ (T1.setTop (mkF m 5 #[.val (.ref wL)] [(.int (0 : Int32))]))
  exact own_retI X1 hx hlk hret (hb hby d18_5) (by decide) (by decide) (by rw [e1]; exact ⟨rfl, N0, rfl⟩)
theorem d19_0 : decode jdk_53_method_1_code 0 = .ok (.aload_n 0, 1) := by decide +kernel
theorem d19_1 : decode jdk_53_method_1_code 1 = .ok (.invokespecial 1, 3) := by decide +kernel
theorem d19_4 : decode jdk_53_method_1_code 4 = .ok (.aload_n 0, 1) := by decide +kernel
theorem d19_5 : decode jdk_53_method_1_code 5 = .ok (.aload_n 1, 1) := by decide +kernel
theorem d19_6 : decode jdk_53_method_1_code 6 = .ok (.putfield 7, 3) := by decide +kernel
theorem d19_9 : decode jdk_53_method_1_code 9 = .ok (.aload_n 0, 1) := by decide +kernel
theorem d19_10 : decode jdk_53_method_1_code 10 = .ok (.iload_n 2, 1) := by decide +kernel
theorem d19_11 : decode jdk_53_method_1_code 11 = .ok (.putfield 13, 3) := by decide +kernel
theorem d19_14 : decode jdk_53_method_1_code 14 = .ok (.aload_n 0, 1) := by decide +kernel
theorem d19_15 : decode jdk_53_method_1_code 15 = .ok (.iconst 0, 1) := by decide +kernel
theorem d19_16 : decode jdk_53_method_1_code 16 = .ok (.putfield 17, 3) := by decide +kernel
theorem d19_19 : decode jdk_53_method_1_code 19 = .ok (.aload_n 0, 1) := by decide +kernel
theorem d19_20 : decode jdk_53_method_1_code 20 = .ok (.iconst 0, 1) := by decide +kernel
theorem d19_21 : decode jdk_53_method_1_code 21 = .ok (.putfield 20, 3) := by decide +kernel
theorem d19_24 : decode jdk_53_method_1_code 24 = .ok (.return_, 1) := by decide +kernel
theorem pn_19 : plainName "java/util/ImmutableCollections$ListItr" = true := by first | (simp [plainName, overriddenIn]; done) | decide +kernel
theorem ef_litInit (m : MethodId) (x0 : Addr) (x1 : Addr) : entryFrame m #[(.ref x0), (.ref x1), (.int (0 : Int32))] 3 = mkF m 0 #[.val (.ref x0), .val (.ref x1), .val (.int (0 : Int32))] [] := by first | (simp [entryFrame, mkF, argsToLocals, Value.category]; done) | rfl
def Q_litInit (Z : State) (a1 : Addr) (a2 : Addr) (h0 : Heap) (n0 : Nat) (v : Option Value) (h : Heap) (L : List Loc) : Prop := v = none ∧ Fr n0 L ∧ Keep h0 h [a1] ∧ Exa Z h a1 "java/util/ImmutableCollections$ListItr" ∧ Fld Z h a1 "java/util/ImmutableCollections$ListItr" "cursor" "I" (.int (0 : Int32)) ∧ Fld Z h a1 "java/util/ImmutableCollections$ListItr" "size" "I" (.int (0 : Int32))
set_option maxRecDepth 65536 in
set_option maxHeartbeats 40000000 in
theorem rm_litInit (l : Launch) (Z : State) (a0 : Array Value) (hw : ∀ d ∈ tables_1, d.before a0 Z = true) (ws : List Jvm.Cond) (a1 : Addr) (a2 : Addr) (h0 : Heap) (n0 : Nat) (Z0 : n0 ≤ h0.size) (E_1 : Exa Z h0 a1 "java/util/ImmutableCollections$ListItr") (g_1 : n0 ≤ a1) (F_list : Fld Z h0 a1 "java/util/ImmutableCollections$ListItr" "list" "Ljava/util/List;" .null) (F_size : Fld Z h0 a1 "java/util/ImmutableCollections$ListItr" "size" "I" (.int (0 : Int32))) (F_cursor : Fld Z h0 a1 "java/util/ImmutableCollections$ListItr" "cursor" "I" (.int (0 : Int32))) (F_isListIterator : Fld Z h0 a1 "java/util/ImmutableCollections$ListItr" "isListIterator" "Z" (.int (0 : Int32))) :
    MetFree l (⟨"java/util/ImmutableCollections$ListItr", "<init>", "(Ljava/util/List;I)V"⟩ : MethodName) (head1 (Jvm.Cond.code (⟨"java/util/ImmutableCollections$ListItr", "<init>", "(Ljava/util/List;I)V"⟩ : MethodName) jdk_53_method_1_code 3 none :: ws) ({ frames := 1, cells := 0, slots := 0, locals := 12 } : Room)) (fun a U => a = #[(.ref a1), (.ref a2), (.int (0 : Int32))] ∧ Z.Warmed39 U.vm ∧ U.heap = h0) (fun _ _ _ _ _ => True) (fun _ U o U' => ∃ v L, o = .returned v ∧ Q_litInit Z a1 a2 h0 n0 v U'.heap L ∧ FrameEnd U o U' L ({ frames := 1, cells := 0, slots := 0, locals := 12 } : Room).cells ({ frames := 1, cells := 0, slots := 0, locals := 12 } : Room).slots) := by
  refine MetFree.of_bodySF (plainFor_of_name pn_19) hisR ?_
  intro p e s m args below meth c s₁ Bd hml0 hP hK
  obtain ⟨rfl, hZ, hh⟩ := hP
  have hx := Bd.exec
  have hby := Bd.bytes
  have hml : c.maxLocals = 3 := hml0
  have hown : s.vm.findClass "java/util/ImmutableCollections$ListItr" = some m.cls := findClass_of_methodNamed Bd.named
  have hnm := (name_of_methodNamed Bd.named Bd.method).1
  have hlk := Bd.notSynchronized
  have hret := Bd.returns
  have X0 : Stand p l e ({ frames := 1, cells := 0, slots := 0, locals := 12 } : Room) s m #[(.ref a1), (.ref a2), (.int (0 : Int32))] below meth c s₁ [] 0 0 := Stand.of_body Bd
  have e0 : s₁.heap = h0 := by rw [← hh, Bd.state]; rfl
  have N0 := Fr.nil n0
  have K0 := Keep.refl h0 [a1]
  refine own_in ({ frames := 1, cells := 0, slots := 0, locals := 12 } : Room).cells ({ frames := 1, cells := 0, slots := 0, locals := 12 } : Room).slots (Q_litInit Z a1 a2 h0 n0) (ef_litInit m a1 a2) ?_
  show own_G p.tables e below _ (s₁.setTop (mkF m 0 #[.val (.ref a1), .val (.ref a2), .val (.int (0 : Int32))] []))
  refine own_st (fun _ kS => XS.aloadN X0.here hx rfl (hb hby d19_0) rfl rfl kS) ?_
  show own_G p.tables e below _ (s₁.setTop (mkF m 1 #[.val (.ref a1), .val (.ref a2), .val (.int (0 : Int32))] [(.ref a1)]))
  obtain ⟨T1, X1, e1, st1⟩ := initO X0 hx hZ hown (own_w hw 173 rfl) (own_w hw 31 rfl) (own_w hw 32 rfl) e0 (g := (mkF m 1 #[.val (.ref a1), .val (.ref a2), .val (.int (0 : Int32))] [(.ref a1)])) rfl (by rw [hml]; rfl) rfl (hb hby d19_1) (by decide) (W := 0) (by show 2 * 0 + _ ≤ _; exact Nat.le_of_eq rfl) (by decide)
  refine own_st st1 ?_
  show own_G p.tables e below _ (T1.setTop (mkF m 4 #[.val (.ref a1), .val (.ref a2), .val (.int (0 : Int32))] []))
  refine own_st (fun _ kS => XS.aloadN X1.here hx rfl (hb hby d19_4) rfl rfl kS) ?_
  refine own_st (fun _ kS => XS.aloadN X1.here hx rfl (hb hby d19_5) rfl rfl kS) ?_
  show own_G p.tables e below _ (T1.setTop (mkF m 6 #[.val (.ref a1), .val (.ref a2), .val (.int (0 : Int32))] [(.ref a2), (.ref a1)]))
  obtain ⟨T2, h2, X2, e2, W2, st2⟩ := putF X1 hx hZ hown (host := "") (Or.inl (own_w hw 174 rfl)) Via.refl e1 F_list E_1 (Or.inr ⟨(own_w hw 175 rfl), rfl, hnm⟩) (own_w hw 158 rfl) (ty := (.object "java/util/List")) (by decide) rfl rfl (g := (mkF m 6 #[.val (.ref a1), .val (.ref a2), .val (.int (0 : Int32))] [(.ref a2), (.ref a1)])) rfl rfl (hb hby d19_6)
  refine own_st st2 ?_
  have N2 := Fr.snoc X2 N0 g_1
  have K2 := K0.wr W2 (Or.inl (List.mem_of_getElem? (i := 0) rfl))
  have Fw2 := Fld.same W2 F_list
  show own_G p.tables e below _ (T2.setTop (mkF m 9 #[.val (.ref a1), .val (.ref a2), .val (.int (0 : Int32))] []))
  refine own_st (fun _ kS => XS.aloadN X2.here hx rfl (hb hby d19_9) rfl rfl kS) ?_
  refine own_st (fun _ kS => XS.iloadN X2.here hx rfl (hb hby d19_10) rfl kS) ?_
  show own_G p.tables e below _ (T2.setTop (mkF m 11 #[.val (.ref a1), .val (.ref a2), .val (.int (0 : Int32))] [(.int (0 : Int32)), (.ref a1)]))
  obtain ⟨T3, h3, X3, e3, W3, st3⟩ := putF X2 hx hZ hown (host := "") (Or.inl (own_w hw 176 rfl)) Via.refl e2 (Fld.other W2 F_size (Or.inr (slot_ne (Or.inr (own_w hw 177 rfl)) (Or.inr (own_w hw 175 rfl)) (by decide) (t := .int) (t' := (.object "java/util/List")) (by decide) (by decide)))) (Exa.wr W2 E_1) (Or.inr ⟨(own_w hw 177 rfl), rfl, hnm⟩) (own_w hw 158 rfl) (ty := .int) (by decide) rfl rfl (g := (mkF m 11 #[.val (.ref a1), .val (.ref a2), .val (.int (0 : Int32))] [(.int (0 : Int32)), (.ref a1)])) rfl rfl (hb hby d19_11)
  refine own_st st3 ?_
  have N3 := Fr.snoc X3 N2 g_1
  have K3 := K2.wr W3 (Or.inl (List.mem_of_getElem? (i := 0) rfl))
  have Fw3 := Fld.same W3 (Fld.other W2 F_size (Or.inr (slot_ne (Or.inr (own_w hw 177 rfl)) (Or.inr (own_w hw 175 rfl)) (by decide) (t := .int) (t' := (.object "java/util/List")) (by decide) (by decide))))
  show own_G p.tables e below _ (T3.setTop (mkF m 14 #[.val (.ref a1), .val (.ref a2), .val (.int (0 : Int32))] []))
  refine own_st (fun _ kS => XS.aloadN X3.here hx rfl (hb hby d19_14) rfl rfl kS) ?_
  refine own_st (fun _ kS => XS.iconst X3.here hx rfl (hb hby d19_15) kS) ?_
  show own_G p.tables e below _ (T3.setTop (mkF m 16 #[.val (.ref a1), .val (.ref a2), .val (.int (0 : Int32))] [(.int (0 : Int32)), (.ref a1)]))
  obtain ⟨T4, h4, X4, e4, W4, st4⟩ := putF X3 hx hZ hown (host := "") (Or.inl (own_w hw 178 rfl)) Via.refl e3 (Fld.other W3 (Fld.other W2 F_cursor (Or.inr (slot_ne (Or.inl (own_w hw 179 rfl)) (Or.inr (own_w hw 175 rfl)) (by decide) (t := .int) (t' := (.object "java/util/List")) (by decide) (by decide)))) (Or.inr (slot_ne (Or.inl (own_w hw 179 rfl)) (Or.inr (own_w hw 177 rfl)) (by decide) (t := .int) (t' := .int) (by decide) (by decide)))) (Exa.wr W3 (Exa.wr W2 E_1)) (Or.inl (own_w hw 179 rfl)) (own_w hw 158 rfl) (ty := .int) (by decide) rfl rfl (g := (mkF m 16 #[.val (.ref a1), .val (.ref a2), .val (.int (0 : Int32))] [(.int (0 : Int32)), (.ref a1)])) rfl rfl (hb hby d19_16)
  refine own_st st4 ?_
  have N4 := Fr.snoc X4 N3 g_1
  have K4 := K3.wr W4 (Or.inl (List.mem_of_getElem? (i := 0) rfl))
  have Fw4 := Fld.same W4 (Fld.other W3 (Fld.other W2 F_cursor (Or.inr (slot_ne (Or.inl (own_w hw 179 rfl)) (Or.inr (own_w hw 175 rfl)) (by decide) (t := .int) (t' := (.object "java/util/List")) (by decide) (by decide)))) (Or.inr (slot_ne (Or.inl (own_w hw 179 rfl)) (Or.inr (own_w hw 177 rfl)) (by decide) (t := .int) (t' := .int) (by decide) (by decide))))
  show own_G p.tables e below _ (T4.setTop (mkF m 19 #[.val (.ref a1), .val (.ref a2), .val (.int (0 : Int32))] []))
  refine own_st (fun _ kS => XS.aloadN X4.here hx rfl (hb hby d19_19) rfl rfl kS) ?_
  refine own_st (fun _ kS => XS.iconst X4.here hx rfl (hb hby d19_20) kS) ?_
  show own_G p.tables e below _ (T4.setTop (mkF m 21 #[.val (.ref a1), .val (.ref a2), .val (.int (0 : Int32))] [(.int (0 : Int32)), (.ref a1)]))
  obtain ⟨T5, h5, X5, e5, W5, st5⟩ := putFN X4 hx hZ hown (own_w hw 180 rfl) Via.refl e4 (Fld.other W4 (Fld.other W3 (Fld.other W2 F_isListIterator (Or.inr (slot_ne (Or.inr (own_w hw 181 rfl)) (Or.inr (own_w hw 175 rfl)) (by decide) (t := .boolean) (t' := (.object "java/util/List")) (by decide) (by decide)))) (Or.inr (slot_ne (Or.inr (own_w hw 181 rfl)) (Or.inr (own_w hw 177 rfl)) (by decide) (t := .boolean) (t' := .int) (by decide) (by decide)))) (Or.inr (slot_ne (Or.inr (own_w hw 181 rfl)) (Or.inl (own_w hw 179 rfl)) (by decide) (t := .boolean) (t' := .int) (by decide) (by decide)))) (Exa.wr W4 (Exa.wr W3 (Exa.wr W2 E_1))) (Or.inr ⟨(own_w hw 181 rfl), rfl, hnm⟩) (own_w hw 158 rfl) (ty := .boolean) (v' := (.int (0 : Int32))) (by decide) rfl (by decide) (g := (mkF m 21 #[.val (.ref a1), .val (.ref a2), .val (.int (0 : Int32))] [(.int (0 : Int32)), (.ref a1)])) rfl rfl (hb hby d19_21)
  refine own_st st5 ?_
  have N5 := Fr.snoc X5 N4 g_1
  have K5 := K4.wr W5 (Or.inl (List.mem_of_getElem? (i := 0) rfl))
  have Fw5 := Fld.same W5 (Fld.other W4 (Fld.other W3 (Fld.other W2 F_isListIterator (Or.inr (slot_ne (Or.inr (own_w hw 181 rfl)) (Or.inr (own_w hw 175 rfl)) (by decide) (t := .boolean) (t' := (.object "java/util/List")) (by decide) (by decide)))) (Or.inr (slot_ne (Or.inr (own_w hw 181 rfl)) (Or.inr (own_w hw 177 rfl)) (by decide) (t := .boolean) (t' := .int) (by decide) (by decide)))) (Or.inr (slot_ne (Or.inr (own_w hw 181 rfl)) (Or.inl (own_w hw 179 rfl)) (by decide) (t := .boolean) (t' := .int) (by decide) (by decide))))
  show own_G p.tables e below _ (T5.setTop (mkF m 24 #[.val (.ref a1), .val (.ref a2), .val (.int (0 : Int32))] []))
  exact own_retV X5 hx hlk hret (hb hby d19_24) (by decide) (by decide) (by rw [e5]; exact ⟨rfl, N5, K5, (Exa.wr W5 (Exa.wr W4 (Exa.wr W3 (Exa.wr W2 E_1)))), (Fld.other W5 Fw4 (Or.inr (slot_ne (Or.inl (own_w hw 179 rfl)) (Or.inr (own_w hw 181 rfl)) (by decide) (t := .int) (t' := .boolean) (by decide) (by decide)))), (Fld.other W5 (Fld.other W4 Fw3 (Or.inr (slot_ne (Or.inr (own_w hw 177 rfl)) (Or.inl (own_w hw 179 rfl)) (by decide) (t := .int) (t' := .int) (by decide) (by decide)))) (Or.inr (slot_ne (Or.inr (own_w hw 177 rfl)) (Or.inr (own_w hw 181 rfl)) (by decide) (t := .int) (t' := .boolean) (by decide) (by decide))))⟩)
theorem d17_0 : decode jdk_46_method_10_code 0 = .ok (.new 61, 3) := by decide +kernel
theorem d17_3 : decode jdk_46_method_10_code 3 = .ok (.dup, 1) := by decide +kernel
theorem d17_4 : decode jdk_46_method_10_code 4 = .ok (.aload_n 0, 1) := by decide +kernel
theorem d17_5 : decode jdk_46_method_10_code 5 = .ok (.aload_n 0, 1) := by decide +kernel
theorem d17_6 : decode jdk_46_method_10_code 6 = .ok (.invokevirtual 13, 3) := by decide +kernel
theorem d17_9 : decode jdk_46_method_10_code 9 = .ok (.invokespecial 63, 3) := by decide +kernel
theorem d17_12 : decode jdk_46_method_10_code 12 = .ok (.areturn, 1) := by decide +kernel
theorem pn_17 : plainName "java/util/ImmutableCollections$AbstractImmutableList" = true := by first | (simp [plainName, overriddenIn]; done) | decide +kernel
theorem own_pd5 : parseMethodDescriptor "()I" = some ⟨[], some .int⟩ := by decide +kernel
theorem own_pd6 : parseMethodDescriptor "(Ljava/util/List;I)V" = some ⟨[(.object "java/util/List"), .int], none⟩ := by decide +kernel
theorem ef_itL (m : MethodId) (x0 : Addr) : entryFrame m #[(.ref x0)] 1 = mkF m 0 #[.val (.ref x0)] [] := by first | (simp [entryFrame, mkF, argsToLocals, Value.category]; done) | rfl
def Q_itL (Z : State) (wL : Addr) (wE : Addr) (kE : ClassId) (h0 : Heap) (n0 : Nat) (v : Option Value) (h : Heap) (L : List Loc) : Prop := ∃ b : Addr, v = some (.ref b) ∧ Fr n0 L ∧ Keep h0 h [] ∧ h0.size ≤ b ∧ Exa Z h b "java/util/ImmutableCollections$ListItr" ∧ Fld Z h b "java/util/ImmutableCollections$ListItr" "cursor" "I" (.int (0 : Int32)) ∧ Fld Z h b "java/util/ImmutableCollections$ListItr" "size" "I" (.int (0 : Int32))
set_option maxRecDepth 65536 in
set_option maxHeartbeats 40000000 in
theorem rm_itL (l : Launch) (Z : State) (a0 : Array Value) (hw : ∀ d ∈ tables_1, d.before a0 Z = true) (ws : List Jvm.Cond) (wL : Addr) (wE : Addr) (kE : ClassId) (h0 : Heap) (n0 : Nat) (Z0 : n0 ≤ h0.size) (O0 : Old Z n0 h0) (E_L : Exa Z Z.heap wL "java/util/ImmutableCollections$ListN") (F_el : Fld Z Z.heap wL "java/util/ImmutableCollections$ListN" "elements" "[Ljava/lang/Object;" (.ref wE)) (R_E : Arv Z Z.heap wE kE (.object "java/lang/Object") (0 : Int32) [] .null) :
    MetFree l (⟨"java/util/ImmutableCollections$AbstractImmutableList", "iterator", "()Ljava/util/Iterator;"⟩ : MethodName) (head1 (Jvm.Cond.code (⟨"java/util/ImmutableCollections$AbstractImmutableList", "iterator", "()Ljava/util/Iterator;"⟩ : MethodName) jdk_46_method_10_code 1 (some (.object "java/util/Iterator")) :: ws) ({ frames := 2, cells := 1, slots := 4, locals := 27 } : Room)) (fun a U => a = #[(.ref wL)] ∧ Z.Warmed39 U.vm ∧ U.heap = h0) (fun _ _ _ _ _ => True) (fun _ U o U' => ∃ v L, o = .returned v ∧ Q_itL Z wL wE kE h0 n0 v U'.heap L ∧ FrameEnd U o U' L ({ frames := 2, cells := 1, slots := 4, locals := 27 } : Room).cells ({ frames := 2, cells := 1, slots := 4, locals := 27 } : Room).slots) := by
  refine MetFree.of_bodySF (plainFor_of_name pn_17) hisR ?_
  intro p e s m args below meth c s₁ Bd hml0 hP hK
  obtain ⟨rfl, hZ, hh⟩ := hP
  have hx := Bd.exec
  have hby := Bd.bytes
  have hml : c.maxLocals = 1 := hml0
  have hown : s.vm.findClass "java/util/ImmutableCollections$AbstractImmutableList" = some m.cls := findClass_of_methodNamed Bd.named
  have hnm := (name_of_methodNamed Bd.named Bd.method).1
  have hlk := Bd.notSynchronized
  have hret := Bd.returns
  have X0 : Stand p l e ({ frames := 2, cells := 1, slots := 4, locals := 27 } : Room) s m #[(.ref wL)] below meth c s₁ [] 0 0 := Stand.of_body Bd
  have e0 : s₁.heap = h0 := by rw [← hh, Bd.state]; rfl
  have N0 := Fr.nil n0
  have K0 := Keep.refl h0 []
  refine own_in ({ frames := 2, cells := 1, slots := 4, locals := 27 } : Room).cells ({ frames := 2, cells := 1, slots := 4, locals := 27 } : Room).slots (Q_itL Z wL wE kE h0 n0) (ef_itL m wL) ?_
  show own_G p.tables e below _ (s₁.setTop (mkF m 0 #[.val (.ref wL)] []))
  obtain ⟨T1, h1, X1, e1, E1, A1, D1, -, st1⟩ := newO X0 hx hZ hown (own_w hw 157 rfl) (own_w hw 158 rfl) (own_w hw 159 rfl) e0 (g := (mkF m 0 #[.val (.ref wL)] [])) rfl (hb hby d17_0) (by decide) (by decide)
  obtain ⟨b1, g1⟩ : ∃ z, z = h0.size := ⟨_, rfl⟩
  have ge_b1 : n0 ≤ b1 := Nat.le_trans Z0 (Nat.le_of_eq g1.symm)
  have sz_b1 : h0.size ≤ b1 := Nat.le_trans K0.1 (Nat.le_of_eq g1.symm)
  rw [← g1] at A1 D1 st1
  have K1 := K0.ext E1
  have O1 := O0.ext E1
  have F1_list : Fld Z h1 b1 "java/util/ImmutableCollections$ListItr" "list" "Ljava/util/List;" .null := D1 (Or.inr (own_w hw 175 rfl)) (ty := (.object "java/util/List")) (by decide)
  have F1_size : Fld Z h1 b1 "java/util/ImmutableCollections$ListItr" "size" "I" (.int (0 : Int32)) := D1 (Or.inr (own_w hw 177 rfl)) (ty := .int) (by decide)
  have F1_cursor : Fld Z h1 b1 "java/util/ImmutableCollections$ListItr" "cursor" "I" (.int (0 : Int32)) := D1 (Or.inl (own_w hw 179 rfl)) (ty := .int) (by decide)
  have F1_isListIterator : Fld Z h1 b1 "java/util/ImmutableCollections$ListItr" "isListIterator" "Z" (.int (0 : Int32)) := D1 (Or.inr (own_w hw 181 rfl)) (ty := .boolean) (by decide)
  refine own_st st1 ?_
  show own_G p.tables e below _ (T1.setTop (mkF m 3 #[.val (.ref wL)] [(.ref b1)]))
  refine own_st (fun _ kS => XS.dup X1.here hx rfl (hb hby d17_3) rfl rfl kS) ?_
  refine own_st (fun _ kS => XS.aloadN X1.here hx rfl (hb hby d17_4) rfl rfl kS) ?_
  refine own_st (fun _ kS => XS.aloadN X1.here hx rfl (hb hby d17_5) rfl rfl kS) ?_
  show own_G p.tables e below _ (T1.setTop (mkF m 6 #[.val (.ref wL)] [(.ref wL), (.ref wL), (.ref b1), (.ref b1)]))
  obtain ⟨cq2, kq2, q2a, q2b, q2c⟩ := isOf hZ e1 (Exa.ext O1.2 E_L)
  obtain ⟨_, _, ⟨T2, L2, k2, n2⟩, -, X2, ⟨Lc2, hQ2, l2, y2, z2⟩, st2⟩ := X1.virtualBackUp hx (x := (⟨"java/util/ImmutableCollections$AbstractImmutableList", "size", "()I"⟩ : MethodName)) (y := (⟨"java/util/ImmutableCollections$ListN", "size", "()I"⟩ : MethodName)) (owner := "java/util/AbstractCollection") hown (mvT hZ (own_w hw 160 rfl)) (mvT hZ (own_w hw 161 rfl)) (mvT hZ (own_w hw 162 rfl)) (by decide) (mvT hZ (own_w hw 163 rfl)) (mvT hZ (own_w hw 164 rfl)) (backOf (W := 3) (rm_lnSize l Z a0 hw [] wL wE kE h1 n0 (Nat.le_trans Z0 E1.1) O1 F_el R_E) hZ (own_w hw 166 rfl) (own_w hw 165 rfl) (by decide) (by decide)) q2a q2c (g := (mkF m 6 #[.val (.ref wL)] [(.ref wL), (.ref wL), (.ref b1), (.ref b1)])) rfl (by rw [hml]; rfl) (Steps.refl _) (argsL := []) (rest := [(.ref wL), (.ref b1), (.ref b1)]) (lenOf own_pd5 rfl) rfl (by show 2 * 0 + _ ≤ _; exact Nat.le_of_eq rfl) (hb hby d17_6) (fun _ _ => ⟨rfl, e1, (by decide : 1 + 0 ≤ _), (by decide : 4 + 0 ≤ _)⟩)
  dsimp only [Pt.U, Pt.locs, Pt.cells, Pt.slots] at X2 l2 y2 z2 st2 hQ2
  subst l2 y2 z2
  obtain ⟨rfl, Nq2, eq2⟩ := hQ2
  have N2 := Fr.app N0 Nq2
  refine own_tr st2 ?_
  show own_G p.tables e below _ (T2.setTop (mkF m 9 #[.val (.ref wL)] [(.int (0 : Int32)), (.ref wL), (.ref b1), (.ref b1)]))
  obtain ⟨_, _, ⟨T3, L3, k3, n3⟩, -, X3, ⟨Lc3, hQ3, l3, y3, z3⟩, st3⟩ := X2.specialBack hx (y := (⟨"java/util/ImmutableCollections$ListItr", "<init>", "(Ljava/util/List;I)V"⟩ : MethodName)) rfl hown (mvT hZ (own_w hw 169 rfl)) (mvT hZ (own_w hw 170 rfl)) (mvT hZ (own_w hw 172 rfl)) (by decide) (backOf (W := 1) (rm_litInit l Z a0 hw [] b1 wL h1 n0 (Nat.le_trans Z0 E1.1)  A1 ge_b1 F1_list F1_size F1_cursor F1_isListIterator) hZ (own_w hw 172 rfl) (own_w hw 159 rfl) (by decide) (by decide)) (g := (mkF m 9 #[.val (.ref wL)] [(.int (0 : Int32)), (.ref wL), (.ref b1), (.ref b1)])) rfl (by rw [hml]; rfl) (Steps.refl _) (a := b1) (argsL := [(.ref wL), (.int (0 : Int32))]) (rest := [(.ref b1)]) (lenOf own_pd6 rfl) rfl (by show 2 * 0 + _ ≤ _; exact Nat.le_of_eq rfl) (hb hby d17_9) (fun _ _ => ⟨rfl, eq2, (by decide : 1 + 0 ≤ _), (by decide : 4 + 0 ≤ _)⟩)
  dsimp only [Pt.U, Pt.locs, Pt.cells, Pt.slots] at X3 l3 y3 z3 st3 hQ3
  subst l3 y3 z3
  obtain ⟨rfl, Nq3, Kc3, P3_0, P3_1, P3_2⟩ := hQ3
  have N3 := Fr.app N2 Nq3
  have K3 := K1.trans Kc3 (allS (Or.inr sz_b1) all0)
  have O3 := O1.keep Kc3 (allS ge_b1 all0)
  refine own_tr st3 ?_
  show own_G p.tables e below _ (T3.setTop (mkF m 12 #[.val (.ref wL)] [(.ref b1)]))
  exact own_retA X3 hx hlk hret rfl rfl (hb hby d17_12) (by decide) (by decide) (show Q_itL Z wL wE kE h0 n0 _ _ _ from ⟨b1, ⟨rfl, N3, K3, sz_b1, P3_0, P3_1, P3_2⟩⟩)
theorem d20_0 : decode jdk_53_method_3_code 0 = .ok (.aload_n 0, 1) := by decide +kernel
theorem d20_1 : decode jdk_53_method_3_code 1 = .ok (.getfield 17, 3) := by decide +kernel
theorem d20_4 : decode jdk_53_method_3_code 4 = .ok (.aload_n 0, 1) := by decide +kernel
theorem d20_5 : decode jdk_53_method_3_code 5 = .ok (.getfield 13, 3) := by decide +kernel
theorem d20_8 : decode jdk_53_method_3_code 8 = .ok (.if_icmp .eq 7, 3) := by decide +kernel
theorem d20_11 : decode jdk_53_method_3_code 11 = .ok (.iconst 1, 1) := by decide +kernel
theorem d20_12 : decode jdk_53_method_3_code 12 = .ok (.goto 4, 3) := by decide +kernel
theorem d20_15 : decode jdk_53_method_3_code 15 = .ok (.iconst 0, 1) := by decide +kernel
theorem d20_16 : decode jdk_53_method_3_code 16 = .ok (.ireturn, 1) := by decide +kernel
theorem pn_20 : plainName "java/util/ImmutableCollections$ListItr" = true := by first | (simp [plainName, overriddenIn]; done) | decide +kernel
theorem ef_hnL (m : MethodId) (x0 : Addr) : entryFrame m #[(.ref x0)] 1 = mkF m 0 #[.val (.ref x0)] [] := by first | (simp [entryFrame, mkF, argsToLocals, Value.category]; done) | rfl
def Q_hnL (Z : State) (a1 : Addr) (h0 : Heap) (n0 : Nat) (v : Option Value) (h : Heap) (L : List Loc) : Prop := v = some (.int (0 : Int32)) ∧ Fr n0 L ∧ h = h0
set_option maxRecDepth 65536 in
set_option maxHeartbeats 40000000 in
theorem rm_hnL (l : Launch) (Z : State) (a0 : Array Value) (hw : ∀ d ∈ tables_1, d.before a0 Z = true) (ws : List Jvm.Cond) (a1 : Addr) (h0 : Heap) (n0 : Nat) (Z0 : n0 ≤ h0.size) (Fc : Fld Z h0 a1 "java/util/ImmutableCollections$ListItr" "cursor" "I" (.int (0 : Int32))) (Fs : Fld Z h0 a1 "java/util/ImmutableCollections$ListItr" "size" "I" (.int (0 : Int32))) :
    MetFree l (⟨"java/util/ImmutableCollections$ListItr", "hasNext", "()Z"⟩ : MethodName) (head1 (Jvm.Cond.code (⟨"java/util/ImmutableCollections$ListItr", "hasNext", "()Z"⟩ : MethodName) jdk_53_method_3_code 1 (some .boolean) :: ws) ({ frames := 0, cells := 0, slots := 0, locals := 0 } : Room)) (fun a U => a = #[(.ref a1)] ∧ Z.Warmed39 U.vm ∧ U.heap = h0) (fun _ _ _ _ _ => True) (fun _ U o U' => ∃ v L, o = .returned v ∧ Q_hnL Z a1 h0 n0 v U'.heap L ∧ FrameEnd U o U' L ({ frames := 0, cells := 0, slots := 0, locals := 0 } : Room).cells ({ frames := 0, cells := 0, slots := 0, locals := 0 } : Room).slots) := by
  refine MetFree.of_bodySF (plainFor_of_name pn_20) hisR ?_
  intro p e s m args below meth c s₁ Bd hml0 hP hK
  obtain ⟨rfl, hZ, hh⟩ := hP
  have hx := Bd.exec
  have hby := Bd.bytes
  have hml : c.maxLocals = 1 := hml0
  have hown : s.vm.findClass "java/util/ImmutableCollections$ListItr" = some m.cls := findClass_of_methodNamed Bd.named
  have hnm := (name_of_methodNamed Bd.named Bd.method).1
  have hlk := Bd.notSynchronized
  have hret := Bd.returns
  have X0 : Stand p l e ({ frames := 0, cells := 0, slots := 0, locals := 0 } : Room) s m #[(.ref a1)] below meth c s₁ [] 0 0 := Stand.of_body Bd
  have e0 : s₁.heap = h0 := by rw [← hh, Bd.state]; rfl
  have N0 := Fr.nil n0
  refine own_in ({ frames := 0, cells := 0, slots := 0, locals := 0 } : Room).cells ({ frames := 0, cells := 0, slots := 0, locals := 0 } : Room).slots (Q_hnL Z a1 h0 n0) (ef_hnL m a1) ?_
  show own_G p.tables e below _ (s₁.setTop (mkF m 0 #[.val (.ref a1)] []))
  refine own_st (fun _ kS => XS.aloadN X0.here hx rfl (hb hby d20_0) rfl rfl kS) ?_
  show own_G p.tables e below _ (s₁.setTop (mkF m 1 #[.val (.ref a1)] [(.ref a1)]))
  obtain ⟨T1, X1, e1, st1⟩ := getF X0 hx hZ hown (host := "") (Or.inl (own_w hw 178 rfl)) Via.refl e0 Fc (g := (mkF m 1 #[.val (.ref a1)] [(.ref a1)])) rfl rfl (hb hby d20_1)
  refine own_st st1 ?_
  show own_G p.tables e below _ (T1.setTop (mkF m 4 #[.val (.ref a1)] [(.int (0 : Int32))]))
  refine own_st (fun _ kS => XS.aloadN X1.here hx rfl (hb hby d20_4) rfl rfl kS) ?_
  show own_G p.tables e below _ (T1.setTop (mkF m 5 #[.val (.ref a1)] [(.ref a1), (.int (0 : Int32))]))
  obtain ⟨T2, X2, e2, st2⟩ := getF X1 hx hZ hown (host := "") (Or.inl (own_w hw 176 rfl)) Via.refl e1 Fs (g := (mkF m 5 #[.val (.ref a1)] [(.ref a1), (.int (0 : Int32))])) rfl rfl (hb hby d20_5)
  refine own_st st2 ?_
  show own_G p.tables e below _ (T2.setTop (mkF m 8 #[.val (.ref a1)] [(.int (0 : Int32)), (.int (0 : Int32))]))
  refine own_st (fun _ kS => XS.icmpYes X2.here hx rfl (pc0 := 8) (pc' := 15) rfl (hb hby d20_8) rfl (teq (by decide : (0 : Int32) = (0 : Int32))).1 (by decide) (by decide) kS) ?_
  show own_G p.tables e below _ (T2.setTop (mkF m 15 #[.val (.ref a1)] []))
  refine own_st (fun _ kS => XS.iconst X2.here hx rfl (hb hby d20_15) kS) ?_
  show own_G p.tables e below _ (T2.setTop (mkF m 16 #[.val (.ref a1)] [(.int (0 : Int32))]))
  exact own_retN X2 hx hlk (t := .boolean) hret (by simp) (hb hby d20_16) (by decide) (by decide) (v' := (0 : Int32)) rfl (by rw [e2]; exact ⟨rfl, N0, rfl⟩)
theorem d22_0 : decode jdk_49_method_1_code 0 = .ok (.aload_n 0, 1) := by decide +kernel
theorem d22_1 : decode jdk_49_method_1_code 1 = .ok (.aload_n 1, 1) := by decide +kernel
theorem d22_2 : decode jdk_49_method_1_code 2 = .ok (.putfield 1, 3) := by decide +kernel
theorem d22_5 : decode jdk_49_method_1_code 5 = .ok (.aload_n 0, 1) := by decide +kernel
theorem d22_6 : decode jdk_49_method_1_code 6 = .ok (.invokespecial 7, 3) := by decide +kernel
theorem d22_9 : decode jdk_49_method_1_code 9 = .ok (.aload_n 0, 1) := by decide +kernel
theorem d22_10 : decode jdk_49_method_1_code 10 = .ok (.iconst (-1), 1) := by decide +kernel
theorem d22_11 : decode jdk_49_method_1_code 11 = .ok (.putfield 13, 3) := by decide +kernel
theorem d22_14 : decode jdk_49_method_1_code 14 = .ok (.aload_n 0, 1) := by decide +kernel
theorem d22_15 : decode jdk_49_method_1_code 15 = .ok (.aload_n 0, 1) := by decide +kernel
theorem d22_16 : decode jdk_49_method_1_code 16 = .ok (.getfield 1, 3) := by decide +kernel
theorem d22_19 : decode jdk_49_method_1_code 19 = .ok (.getfield 17, 3) := by decide +kernel
theorem d22_22 : decode jdk_49_method_1_code 22 = .ok (.putfield 22, 3) := by decide +kernel
theorem d22_25 : decode jdk_49_method_1_code 25 = .ok (.return_, 1) := by decide +kernel
theorem pn_22 : plainName "java/util/ArrayList$Itr" = true := by first | (simp [plainName, overriddenIn]; done) | decide +kernel
theorem ef_aitInit (m : MethodId) (x0 : Addr) (x1 : Addr) : entryFrame m #[(.ref x0), (.ref x1)] 2 = mkF m 0 #[.val (.ref x0), .val (.ref x1)] [] := by first | (simp [entryFrame, mkF, argsToLocals, Value.category]; done) | rfl
def Q_aitInit (Z : State) (a1 : Addr) (a2 : Addr) (h0 : Heap) (n0 : Nat) (v : Option Value) (h : Heap) (L : List Loc) : Prop := v = none ∧ Fr n0 L ∧ Keep h0 h [a1] ∧ Exa Z h a1 "java/util/ArrayList$Itr" ∧ Fld Z h a1 "java/util/ArrayList$Itr" "cursor" "I" (.int (0 : Int32)) ∧ Fld Z h a1 "java/util/ArrayList$Itr" "this$0" "Ljava/util/ArrayList;" (.ref a2)
set_option maxRecDepth 65536 in
set_option maxHeartbeats 40000000 in
theorem rm_aitInit (l : Launch) (Z : State) (a0 : Array Value) (hw : ∀ d ∈ tables_1, d.before a0 Z = true) (ws : List Jvm.Cond) (a1 : Addr) (a2 : Addr) (h0 : Heap) (n0 : Nat) (Z0 : n0 ≤ h0.size) (E_1 : Exa Z h0 a1 "java/util/ArrayList$Itr") (g_1 : n0 ≤ a1) (ne12 : a1 ≠ a2) (E_2 : Exa Z h0 a2 "java/util/ArrayList") (F_m2 : Fld Z h0 a2 "java/util/AbstractList" "modCount" "I" (.int (0 : Int32))) (F_this_0 : Fld Z h0 a1 "java/util/ArrayList$Itr" "this$0" "Ljava/util/ArrayList;" .null) (F_lastRet : Fld Z h0 a1 "java/util/ArrayList$Itr" "lastRet" "I" (.int (0 : Int32))) (F_expectedModCount : Fld Z h0 a1 "java/util/ArrayList$Itr" "expectedModCount" "I" (.int (0 : Int32))) (F_cursor : Fld Z h0 a1 "java/util/ArrayList$Itr" "cursor" "I" (.int (0 : Int32))) :
    MetFree l (⟨"java/util/ArrayList$Itr", "<init>", "(Ljava/util/ArrayList;)V"⟩ : MethodName) (head1 (Jvm.Cond.code (⟨"java/util/ArrayList$Itr", "<init>", "(Ljava/util/ArrayList;)V"⟩ : MethodName) jdk_49_method_1_code 2 none :: ws) ({ frames := 1, cells := 0, slots := 0, locals := 12 } : Room)) (fun a U => a = #[(.ref a1), (.ref a2)] ∧ Z.Warmed39 U.vm ∧ U.heap = h0) (fun _ _ _ _ _ => True) (fun _ U o U' => ∃ v L, o = .returned v ∧ Q_aitInit Z a1 a2 h0 n0 v U'.heap L ∧ FrameEnd U o U' L ({ frames := 1, cells := 0, slots := 0, locals := 12 } : Room).cells ({ frames := 1, cells := 0, slots := 0, locals := 12 } : Room).slots) := by
  refine MetFree.of_bodySF (plainFor_of_name pn_22) hisR ?_
  intro p e s m args below meth c s₁ Bd hml0 hP hK
  obtain ⟨rfl, hZ, hh⟩ := hP
  have hx := Bd.exec
  have hby := Bd.bytes
  have hml : c.maxLocals = 2 := hml0
  have hown : s.vm.findClass "java/util/ArrayList$Itr" = some m.cls := findClass_of_methodNamed Bd.named
  have hnm := (name_of_methodNamed Bd.named Bd.method).1
  have hlk := Bd.notSynchronized
  have hret := Bd.returns
  have X0 : Stand p l e ({ frames := 1, cells := 0, slots := 0, locals := 12 } : Room) s m #[(.ref a1), (.ref a2)] below meth c s₁ [] 0 0 := Stand.of_body Bd
  have e0 : s₁.heap = h0 := by rw [← hh, Bd.state]; rfl
  have N0 := Fr.nil n0
  have K0 := Keep.refl h0 [a1]
  refine own_in ({ frames := 1, cells := 0, slots := 0, locals := 12 } : Room).cells ({ frames := 1, cells := 0, slots := 0, locals := 12 } : Room).slots (Q_aitInit Z a1 a2 h0 n0) (ef_aitInit m a1 a2) ?_
  show own_G p.tables e below _ (s₁.setTop (mkF m 0 #[.val (.ref a1), .val (.ref a2)] []))
  refine own_st (fun _ kS => XS.aloadN X0.here hx rfl (hb hby d22_0) rfl rfl kS) ?_
  refine own_st (fun _ kS => XS.aloadN X0.here hx rfl (hb hby d22_1) rfl rfl kS) ?_
  show own_G p.tables e below _ (s₁.setTop (mkF m 2 #[.val (.ref a1), .val (.ref a2)] [(.ref a2), (.ref a1)]))
  obtain ⟨T1, h1, X1, e1, W1, st1⟩ := putF X0 hx hZ hown (host := "") (Or.inl (own_w hw 205 rfl)) Via.refl e0 F_this_0 E_1 (Or.inr ⟨(own_w hw 206 rfl), rfl, hnm⟩) (own_w hw 199 rfl) (ty := (.object "java/util/ArrayList")) (by decide) rfl rfl (g := (mkF m 2 #[.val (.ref a1), .val (.ref a2)] [(.ref a2), (.ref a1)])) rfl rfl (hb hby d22_2)
  refine own_st st1 ?_
  have N1 := Fr.snoc X1 N0 g_1
  have K1 := K0.wr W1 (Or.inl (List.mem_of_getElem? (i := 0) rfl))
  have Fw1 := Fld.same W1 F_this_0
  show own_G p.tables e below _ (T1.setTop (mkF m 5 #[.val (.ref a1), .val (.ref a2)] []))
  refine own_st (fun _ kS => XS.aloadN X1.here hx rfl (hb hby d22_5) rfl rfl kS) ?_
  show own_G p.tables e below _ (T1.setTop (mkF m 6 #[.val (.ref a1), .val (.ref a2)] [(.ref a1)]))
  obtain ⟨T2, X2, e2, st2⟩ := initO X1 hx hZ hown (own_w hw 207 rfl) (own_w hw 31 rfl) (own_w hw 32 rfl) e1 (g := (mkF m 6 #[.val (.ref a1), .val (.ref a2)] [(.ref a1)])) rfl (by rw [hml]; rfl) rfl (hb hby d22_6) (by decide) (W := 0) (by show 2 * 0 + _ ≤ _; exact Nat.le_of_eq rfl) (by decide)
  refine own_st st2 ?_
  show own_G p.tables e below _ (T2.setTop (mkF m 9 #[.val (.ref a1), .val (.ref a2)] []))
  refine own_st (fun _ kS => XS.aloadN X2.here hx rfl (hb hby d22_9) rfl rfl kS) ?_
  refine own_st (fun _ kS => XS.iconst X2.here hx rfl (hb hby d22_10) kS) ?_
  show own_G p.tables e below _ (T2.setTop (mkF m 11 #[.val (.ref a1), .val (.ref a2)] [(.int (-1 : Int32)), (.ref a1)]))
  obtain ⟨T3, h3, X3, e3, W3, st3⟩ := putF X2 hx hZ hown (host := "") (Or.inl (own_w hw 208 rfl)) Via.refl e2 (Fld.other W1 F_lastRet (Or.inr (slot_ne (Or.inl (own_w hw 209 rfl)) (Or.inr (own_w hw 206 rfl)) (by decide) (t := .int) (t' := (.object "java/util/ArrayList")) (by decide) (by decide)))) (Exa.wr W1 E_1) (Or.inl (own_w hw 209 rfl)) (own_w hw 199 rfl) (ty := .int) (by decide) rfl rfl (g := (mkF m 11 #[.val (.ref a1), .val (.ref a2)] [(.int (-1 : Int32)), (.ref a1)])) rfl rfl (hb hby d22_11)
  refine own_st st3 ?_
  have N3 := Fr.snoc X3 N1 g_1
  have K3 := K1.wr W3 (Or.inl (List.mem_of_getElem? (i := 0) rfl))
  have Fw3 := Fld.same W3 (Fld.other W1 F_lastRet (Or.inr (slot_ne (Or.inl (own_w hw 209 rfl)) (Or.inr (own_w hw 206 rfl)) (by decide) (t := .int) (t' := (.object "java/util/ArrayList")) (by decide) (by decide))))
  show own_G p.tables e below _ (T3.setTop (mkF m 14 #[.val (.ref a1), .val (.ref a2)] []))
  refine own_st (fun _ kS => XS.aloadN X3.here hx rfl (hb hby d22_14) rfl rfl kS) ?_
  refine own_st (fun _ kS => XS.aloadN X3.here hx rfl (hb hby d22_15) rfl rfl kS) ?_
  show own_G p.tables e below _ (T3.setTop (mkF m 16 #[.val (.ref a1), .val (.ref a2)] [(.ref a1), (.ref a1)]))
  obtain ⟨T4, X4, e4, st4⟩ := getF X3 hx hZ hown (host := "") (Or.inl (own_w hw 205 rfl)) Via.refl e3 (Fld.other W3 Fw1 (Or.inr (slot_ne (Or.inr (own_w hw 206 rfl)) (Or.inl (own_w hw 209 rfl)) (by decide) (t := (.object "java/util/ArrayList")) (t' := .int) (by decide) (by decide)))) (g := (mkF m 16 #[.val (.ref a1), .val (.ref a2)] [(.ref a1), (.ref a1)])) rfl rfl (hb hby d22_16)
  refine own_st st4 ?_
  show own_G p.tables e below _ (T4.setTop (mkF m 19 #[.val (.ref a1), .val (.ref a2)] [(.ref a2), (.ref a1)]))
  obtain ⟨T5, X5, e5, st5⟩ := getF X4 hx hZ hown (host := "") (Or.inl (own_w hw 210 rfl)) (Via.of (own_w hw 211 rfl)) e4 (Fld.other W3 (Fld.other W1 F_m2 (Or.inl (Ne.symm ne12))) (Or.inl (Ne.symm ne12))) (g := (mkF m 19 #[.val (.ref a1), .val (.ref a2)] [(.ref a2), (.ref a1)])) rfl rfl (hb hby d22_19)
  refine own_st st5 ?_
  show own_G p.tables e below _ (T5.setTop (mkF m 22 #[.val (.ref a1), .val (.ref a2)] [(.int (0 : Int32)), (.ref a1)]))
  obtain ⟨T6, h6, X6, e6, W6, st6⟩ := putF X5 hx hZ hown (host := "") (Or.inl (own_w hw 212 rfl)) Via.refl e5 (Fld.other W3 (Fld.other W1 F_expectedModCount (Or.inr (slot_ne (Or.inl (own_w hw 213 rfl)) (Or.inr (own_w hw 206 rfl)) (by decide) (t := .int) (t' := (.object "java/util/ArrayList")) (by decide) (by decide)))) (Or.inr (slot_ne (Or.inl (own_w hw 213 rfl)) (Or.inl (own_w hw 209 rfl)) (by decide) (t := .int) (t' := .int) (by decide) (by decide)))) (Exa.wr W3 (Exa.wr W1 E_1)) (Or.inl (own_w hw 213 rfl)) (own_w hw 199 rfl) (ty := .int) (by decide) rfl rfl (g := (mkF m 22 #[.val (.ref a1), .val (.ref a2)] [(.int (0 : Int32)), (.ref a1)])) rfl rfl (hb hby d22_22)
  refine own_st st6 ?_
  have N6 := Fr.snoc X6 N3 g_1
  have K6 := K3.wr W6 (Or.inl (List.mem_of_getElem? (i := 0) rfl))
  have Fw6 := Fld.same W6 (Fld.other W3 (Fld.other W1 F_expectedModCount (Or.inr (slot_ne (Or.inl (own_w hw 213 rfl)) (Or.inr (own_w hw 206 rfl)) (by decide) (t := .int) (t' := (.object "java/util/ArrayList")) (by decide) (by decide)))) (Or.inr (slot_ne (Or.inl (own_w hw 213 rfl)) (Or.inl (own_w hw 209 rfl)) (by decide) (t := .int) (t' := .int) (by decide) (by decide))))
  show own_G p.tables e below _ (T6.setTop (mkF m 25 #[.val (.ref a1), .val (.ref a2)] []))
  exact own_retV X6 hx hlk hret (hb hby d22_25) (by decide) (by decide) (by rw [e6]; exact ⟨rfl, N6, K6, (Exa.wr W6 (Exa.wr W3 (Exa.wr W1 E_1))), (Fld.other W6 (Fld.other W3 (Fld.other W1 F_cursor (Or.inr (slot_ne (Or.inl (own_w hw 222 rfl)) (Or.inr (own_w hw 206 rfl)) (by decide) (t := .int) (t' := (.object "java/util/ArrayList")) (by decide) (by decide)))) (Or.inr (slot_ne (Or.inl (own_w hw 222 rfl)) (Or.inl (own_w hw 209 rfl)) (by decide) (t := .int) (t' := .int) (by decide) (by decide)))) (Or.inr (slot_ne (Or.inl (own_w hw 222 rfl)) (Or.inl (own_w hw 213 rfl)) (by decide) (t := .int) (t' := .int) (by decide) (by decide)))), (Fld.other W6 (Fld.other W3 Fw1 (Or.inr (slot_ne (Or.inr (own_w hw 206 rfl)) (Or.inl (own_w hw 209 rfl)) (by decide) (t := (.object "java/util/ArrayList")) (t' := .int) (by decide) (by decide)))) (Or.inr (slot_ne (Or.inr (own_w hw 206 rfl)) (Or.inl (own_w hw 213 rfl)) (by decide) (t := (.object "java/util/ArrayList")) (t' := .int) (by decide) (by decide))))⟩)
theorem d21_0 : decode jdk_38_method_55_code 0 = .ok (.new 267, 3) := by decide +kernel
theorem d21_3 : decode jdk_38_method_55_code 3 = .ok (.dup, 1) := by decide +kernel
theorem d21_4 : decode jdk_38_method_55_code 4 = .ok (.aload_n 0, 1) := by decide +kernel
theorem d21_5 : decode jdk_38_method_55_code 5 = .ok (.invokespecial 269, 3) := by decide +kernel
theorem d21_8 : decode jdk_38_method_55_code 8 = .ok (.areturn, 1) := by decide +kernel
theorem pn_21 : plainName "java/util/ArrayList" = true := by first | (simp [plainName, overriddenIn]; done) | decide +kernel
theorem own_pd7 : parseMethodDescriptor "(Ljava/util/ArrayList;)V" = some ⟨[(.object "java/util/ArrayList")], none⟩ := by decide +kernel
theorem ef_itA (m : MethodId) (x0 : Addr) : entryFrame m #[(.ref x0)] 1 = mkF m 0 #[.val (.ref x0)] [] := by first | (simp [entryFrame, mkF, argsToLocals, Value.category]; done) | rfl
def Q_itA (Z : State) (a2 : Addr) (h0 : Heap) (n0 : Nat) (v : Option Value) (h : Heap) (L : List Loc) : Prop := ∃ b : Addr, v = some (.ref b) ∧ Fr n0 L ∧ Keep h0 h [] ∧ h0.size ≤ b ∧ Exa Z h b "java/util/ArrayList$Itr" ∧ Fld Z h b "java/util/ArrayList$Itr" "cursor" "I" (.int (0 : Int32)) ∧ Fld Z h b "java/util/ArrayList$Itr" "this$0" "Ljava/util/ArrayList;" (.ref a2)
set_option maxRecDepth 65536 in
set_option maxHeartbeats 40000000 in
theorem rm_itA (l : Launch) (Z : State) (a0 : Array Value) (hw : ∀ d ∈ tables_1, d.before a0 Z = true) (ws : List Jvm.Cond) (a2 : Addr) (h0 : Heap) (n0 : Nat) (Z0 : n0 ≤ h0.size) (E_2 : Exa Z h0 a2 "java/util/ArrayList") (F_m2 : Fld Z h0 a2 "java/util/AbstractList" "modCount" "I" (.int (0 : Int32))) :
    MetFree l (⟨"java/util/ArrayList", "iterator", "()Ljava/util/Iterator;"⟩ : MethodName) (head1 (Jvm.Cond.code (⟨"java/util/ArrayList", "iterator", "()Ljava/util/Iterator;"⟩ : MethodName) jdk_38_method_55_code 1 (some (.object "java/util/Iterator")) :: ws) ({ frames := 2, cells := 1, slots := 4, locals := 26 } : Room)) (fun a U => a = #[(.ref a2)] ∧ Z.Warmed39 U.vm ∧ U.heap = h0) (fun _ _ _ _ _ => True) (fun _ U o U' => ∃ v L, o = .returned v ∧ Q_itA Z a2 h0 n0 v U'.heap L ∧ FrameEnd U o U' L ({ frames := 2, cells := 1, slots := 4, locals := 26 } : Room).cells ({ frames := 2, cells := 1, slots := 4, locals := 26 } : Room).slots) := by
  refine MetFree.of_bodySF (plainFor_of_name pn_21) hisR ?_
  intro p e s m args below meth c s₁ Bd hml0 hP hK
  obtain ⟨rfl, hZ, hh⟩ := hP
  have hx := Bd.exec
  have hby := Bd.bytes
  have hml : c.maxLocals = 1 := hml0
  have hown : s.vm.findClass "java/util/ArrayList" = some m.cls := findClass_of_methodNamed Bd.named
  have hnm := (name_of_methodNamed Bd.named Bd.method).1
  have hlk := Bd.notSynchronized
  have hret := Bd.returns
  have X0 : Stand p l e ({ frames := 2, cells := 1, slots := 4, locals := 26 } : Room) s m #[(.ref a2)] below meth c s₁ [] 0 0 := Stand.of_body Bd
  have e0 : s₁.heap = h0 := by rw [← hh, Bd.state]; rfl
  have N0 := Fr.nil n0
  have K0 := Keep.refl h0 []
  refine own_in ({ frames := 2, cells := 1, slots := 4, locals := 26 } : Room).cells ({ frames := 2, cells := 1, slots := 4, locals := 26 } : Room).slots (Q_itA Z a2 h0 n0) (ef_itA m a2) ?_
  show own_G p.tables e below _ (s₁.setTop (mkF m 0 #[.val (.ref a2)] []))
  obtain ⟨T1, h1, X1, e1, E1, A1, D1, -, st1⟩ := newO X0 hx hZ hown (own_w hw 198 rfl) (own_w hw 199 rfl) (own_w hw 200 rfl) e0 (g := (mkF m 0 #[.val (.ref a2)] [])) rfl (hb hby d21_0) (by decide) (by decide)
  obtain ⟨b1, g1⟩ : ∃ z, z = h0.size := ⟨_, rfl⟩
  have ne_a2_b1 : a2 ≠ b1 := Nat.ne_of_lt (Nat.lt_of_lt_of_eq E_2.lt g1.symm)
  have ge_b1 : n0 ≤ b1 := Nat.le_trans Z0 (Nat.le_of_eq g1.symm)
  have sz_b1 : h0.size ≤ b1 := Nat.le_trans K0.1 (Nat.le_of_eq g1.symm)
  rw [← g1] at A1 D1 st1
  have K1 := K0.ext E1
  have F1_this_0 : Fld Z h1 b1 "java/util/ArrayList$Itr" "this$0" "Ljava/util/ArrayList;" .null := D1 (Or.inr (own_w hw 206 rfl)) (ty := (.object "java/util/ArrayList")) (by decide)
  have F1_lastRet : Fld Z h1 b1 "java/util/ArrayList$Itr" "lastRet" "I" (.int (0 : Int32)) := D1 (Or.inl (own_w hw 209 rfl)) (ty := .int) (by decide)
  have F1_expectedModCount : Fld Z h1 b1 "java/util/ArrayList$Itr" "expectedModCount" "I" (.int (0 : Int32)) := D1 (Or.inl (own_w hw 213 rfl)) (ty := .int) (by decide)
  have F1_cursor : Fld Z h1 b1 "java/util/ArrayList$Itr" "cursor" "I" (.int (0 : Int32)) := D1 (Or.inl (own_w hw 222 rfl)) (ty := .int) (by decide)
  refine own_st st1 ?_
  show own_G p.tables e below _ (T1.setTop (mkF m 3 #[.val (.ref a2)] [(.ref b1)]))
  refine own_st (fun _ kS => XS.dup X1.here hx rfl (hb hby d21_3) rfl rfl kS) ?_
  refine own_st (fun _ kS => XS.aloadN X1.here hx rfl (hb hby d21_4) rfl rfl kS) ?_
  show own_G p.tables e below _ (T1.setTop (mkF m 5 #[.val (.ref a2)] [(.ref a2), (.ref b1), (.ref b1)]))
  obtain ⟨_, _, ⟨T2, L2, k2, n2⟩, -, X2, ⟨Lc2, hQ2, l2, y2, z2⟩, st2⟩ := X1.specialBack hx (y := (⟨"java/util/ArrayList$Itr", "<init>", "(Ljava/util/ArrayList;)V"⟩ : MethodName)) rfl hown (mvT hZ (own_w hw 201 rfl)) (mvT hZ (own_w hw 202 rfl)) (mvT hZ (own_w hw 204 rfl)) (by decide) (backOf (W := 1) (rm_aitInit l Z a0 hw [] b1 a2 h1 n0 (Nat.le_trans Z0 E1.1)  A1 ge_b1 (Ne.symm ne_a2_b1) (Exa.ext E1 E_2) (Fld.ext E1 F_m2) F1_this_0 F1_lastRet F1_expectedModCount F1_cursor) hZ (own_w hw 204 rfl) (own_w hw 200 rfl) (by decide) (by decide)) (g := (mkF m 5 #[.val (.ref a2)] [(.ref a2), (.ref b1), (.ref b1)])) rfl (by rw [hml]; rfl) (Steps.refl _) (a := b1) (argsL := [(.ref a2)]) (rest := [(.ref b1)]) (lenOf own_pd7 rfl) rfl (by show 2 * 0 + _ ≤ _; exact Nat.le_of_eq rfl) (hb hby d21_5) (fun _ _ => ⟨rfl, e1, (by decide : 1 + 0 ≤ _), (by decide : 4 + 0 ≤ _)⟩)
  dsimp only [Pt.U, Pt.locs, Pt.cells, Pt.slots] at X2 l2 y2 z2 st2 hQ2
  subst l2 y2 z2
  obtain ⟨rfl, Nq2, Kc2, P2_0, P2_1, P2_2⟩ := hQ2
  have N2 := Fr.app N0 Nq2
  have K2 := K1.trans Kc2 (allS (Or.inr sz_b1) all0)
  refine own_tr st2 ?_
  show own_G p.tables e below _ (T2.setTop (mkF m 8 #[.val (.ref a2)] [(.ref b1)]))
  exact own_retA X2 hx hlk hret rfl rfl (hb hby d21_8) (by decide) (by decide) (show Q_itA Z a2 h0 n0 _ _ _ from ⟨b1, ⟨rfl, N2, K2, sz_b1, P2_0, P2_1, P2_2⟩⟩)
theorem d23_0 : decode jdk_49_method_2_code 0 = .ok (.aload_n 0, 1) := by decide +kernel
theorem d23_1 : decode jdk_49_method_2_code 1 = .ok (.getfield 25, 3) := by decide +kernel
theorem d23_4 : decode jdk_49_method_2_code 4 = .ok (.aload_n 0, 1) := by decide +kernel
theorem d23_5 : decode jdk_49_method_2_code 5 = .ok (.getfield 1, 3) := by decide +kernel
theorem d23_8 : decode jdk_49_method_2_code 8 = .ok (.getfield 28, 3) := by decide +kernel
theorem d23_11 : decode jdk_49_method_2_code 11 = .ok (.if_icmp .eq 7, 3) := by decide +kernel
theorem d23_14 : decode jdk_49_method_2_code 14 = .ok (.iconst 1, 1) := by decide +kernel
theorem d23_15 : decode jdk_49_method_2_code 15 = .ok (.goto 4, 3) := by decide +kernel
theorem d23_18 : decode jdk_49_method_2_code 18 = .ok (.iconst 0, 1) := by decide +kernel
theorem d23_19 : decode jdk_49_method_2_code 19 = .ok (.ireturn, 1) := by decide +kernel
theorem pn_23 : plainName "java/util/ArrayList$Itr" = true := by first | (simp [plainName, overriddenIn]; done) | decide +kernel
theorem ef_hnA (m : MethodId) (x0 : Addr) : entryFrame m #[(.ref x0)] 1 = mkF m 0 #[.val (.ref x0)] [] := by first | (simp [entryFrame, mkF, argsToLocals, Value.category]; done) | rfl
def Q_hnA (Z : State) (a1 : Addr) (a2 : Addr) (h0 : Heap) (n0 : Nat) (v : Option Value) (h : Heap) (L : List Loc) : Prop := v = some (.int (0 : Int32)) ∧ Fr n0 L ∧ h = h0
set_option maxRecDepth 65536 in
set_option maxHeartbeats 40000000 in
theorem rm_hnA (l : Launch) (Z : State) (a0 : Array Value) (hw : ∀ d ∈ tables_1, d.before a0 Z = true) (ws : List Jvm.Cond) (a1 : Addr) (a2 : Addr) (h0 : Heap) (n0 : Nat) (Z0 : n0 ≤ h0.size) (Fc : Fld Z h0 a1 "java/util/ArrayList$Itr" "cursor" "I" (.int (0 : Int32))) (Ft : Fld Z h0 a1 "java/util/ArrayList$Itr" "this$0" "Ljava/util/ArrayList;" (.ref a2)) (Fs : Fld Z h0 a2 "java/util/ArrayList" "size" "I" (.int (0 : Int32))) :
    MetFree l (⟨"java/util/ArrayList$Itr", "hasNext", "()Z"⟩ : MethodName) (head1 (Jvm.Cond.code (⟨"java/util/ArrayList$Itr", "hasNext", "()Z"⟩ : MethodName) jdk_49_method_2_code 1 (some .boolean) :: ws) ({ frames := 0, cells := 0, slots := 0, locals := 0 } : Room)) (fun a U => a = #[(.ref a1)] ∧ Z.Warmed39 U.vm ∧ U.heap = h0) (fun _ _ _ _ _ => True) (fun _ U o U' => ∃ v L, o = .returned v ∧ Q_hnA Z a1 a2 h0 n0 v U'.heap L ∧ FrameEnd U o U' L ({ frames := 0, cells := 0, slots := 0, locals := 0 } : Room).cells ({ frames := 0, cells := 0, slots := 0, locals := 0 } : Room).slots) := by
  refine MetFree.of_bodySF (plainFor_of_name pn_23) hisR ?_
  intro p e s m args below meth c s₁ Bd hml0 hP hK
  obtain ⟨rfl, hZ, hh⟩ := hP
  have hx := Bd.exec
  have hby := Bd.bytes
  have hml : c.maxLocals = 1 := hml0
  have hown : s.vm.findClass "java/util/ArrayList$Itr" = some m.cls := findClass_of_methodNamed Bd.named
  have hnm := (name_of_methodNamed Bd.named Bd.method).1
  have hlk := Bd.notSynchronized
  have hret := Bd.returns
  have X0 : Stand p l e ({ frames := 0, cells := 0, slots := 0, locals := 0 } : Room) s m #[(.ref a1)] below meth c s₁ [] 0 0 := Stand.of_body Bd
  have e0 : s₁.heap = h0 := by rw [← hh, Bd.state]; rfl
  have N0 := Fr.nil n0
  refine own_in ({ frames := 0, cells := 0, slots := 0, locals := 0 } : Room).cells ({ frames := 0, cells := 0, slots := 0, locals := 0 } : Room).slots (Q_hnA Z a1 a2 h0 n0) (ef_hnA m a1) ?_
  show own_G p.tables e below _ (s₁.setTop (mkF m 0 #[.val (.ref a1)] []))
  refine own_st (fun _ kS => XS.aloadN X0.here hx rfl (hb hby d23_0) rfl rfl kS) ?_
  show own_G p.tables e below _ (s₁.setTop (mkF m 1 #[.val (.ref a1)] [(.ref a1)]))
  obtain ⟨T1, X1, e1, st1⟩ := getF X0 hx hZ hown (host := "") (Or.inl (own_w hw 221 rfl)) Via.refl e0 Fc (g := (mkF m 1 #[.val (.ref a1)] [(.ref a1)])) rfl rfl (hb hby d23_1)
  refine own_st st1 ?_
  show own_G p.tables e below _ (T1.setTop (mkF m 4 #[.val (.ref a1)] [(.int (0 : Int32))]))
  refine own_st (fun _ kS => XS.aloadN X1.here hx rfl (hb hby d23_4) rfl rfl kS) ?_
  show own_G p.tables e below _ (T1.setTop (mkF m 5 #[.val (.ref a1)] [(.ref a1), (.int (0 : Int32))]))
  obtain ⟨T2, X2, e2, st2⟩ := getF X1 hx hZ hown (host := "") (Or.inl (own_w hw 205 rfl)) Via.refl e1 Ft (g := (mkF m 5 #[.val (.ref a1)] [(.ref a1), (.int (0 : Int32))])) rfl rfl (hb hby d23_5)
  refine own_st st2 ?_
  show own_G p.tables e below _ (T2.setTop (mkF m 8 #[.val (.ref a1)] [(.ref a2), (.int (0 : Int32))]))
  obtain ⟨T3, X3, e3, st3⟩ := getF X2 hx hZ hown (Or.inr (own_w hw 223 rfl)) Via.refl e2 Fs (g := (mkF m 8 #[.val (.ref a1)] [(.ref a2), (.int (0 : Int32))])) rfl rfl (hb hby d23_8)
  refine own_st st3 ?_
  show own_G p.tables e below _ (T3.setTop (mkF m 11 #[.val (.ref a1)] [(.int (0 : Int32)), (.int (0 : Int32))]))
  refine own_st (fun _ kS => XS.icmpYes X3.here hx rfl (pc0 := 11) (pc' := 18) rfl (hb hby d23_11) rfl (teq (by decide : (0 : Int32) = (0 : Int32))).1 (by decide) (by decide) kS) ?_
  show own_G p.tables e below _ (T3.setTop (mkF m 18 #[.val (.ref a1)] []))
  refine own_st (fun _ kS => XS.iconst X3.here hx rfl (hb hby d23_18) kS) ?_
  show own_G p.tables e below _ (T3.setTop (mkF m 19 #[.val (.ref a1)] [(.int (0 : Int32))]))
  exact own_retN X3 hx hlk (t := .boolean) hret (by simp) (hb hby d23_19) (by decide) (by decide) (v' := (0 : Int32)) rfl (by rw [e3]; exact ⟨rfl, N0, rfl⟩)
theorem d16_0 : decode prog_19_method_8_code 0 = .ok (.new 92, 3) := by decide +kernel
theorem d16_3 : decode prog_19_method_8_code 3 = .ok (.dup, 1) := by decide +kernel
theorem d16_4 : decode prog_19_method_8_code 4 = .ok (.invokespecial 94, 3) := by decide +kernel
theorem d16_7 : decode prog_19_method_8_code 7 = .ok (.astore_n 2, 1) := by decide +kernel
theorem d16_8 : decode prog_19_method_8_code 8 = .ok (.aload_n 0, 1) := by decide +kernel
theorem d16_9 : decode prog_19_method_8_code 9 = .ok (.getfield 26, 3) := by decide +kernel
theorem d16_12 : decode prog_19_method_8_code 12 = .ok (.invokeinterface 51 1, 5) := by decide +kernel
theorem d16_17 : decode prog_19_method_8_code 17 = .ok (.astore_n 3, 1) := by decide +kernel
theorem d16_18 : decode prog_19_method_8_code 18 = .ok (.aload_n 3, 1) := by decide +kernel
theorem d16_19 : decode prog_19_method_8_code 19 = .ok (.invokeinterface 55 1, 5) := by decide +kernel
theorem d16_24 : decode prog_19_method_8_code 24 = .ok (.ifCond .eq 38, 3) := by decide +kernel
theorem d16_27 : decode prog_19_method_8_code 27 = .ok (.aload_n 3, 1) := by decide +kernel
theorem d16_28 : decode prog_19_method_8_code 28 = .ok (.invokeinterface 61 1, 5) := by decide +kernel
theorem d16_33 : decode prog_19_method_8_code 33 = .ok (.checkcast 65, 3) := by decide +kernel
theorem d16_36 : decode prog_19_method_8_code 36 = .ok (.astore 4, 2) := by decide +kernel
theorem d16_38 : decode prog_19_method_8_code 38 = .ok (.aload 4, 2) := by decide +kernel
theorem d16_40 : decode prog_19_method_8_code 40 = .ok (.invokevirtual 122, 3) := by decide +kernel
theorem d16_43 : decode prog_19_method_8_code 43 = .ok (.aload_n 1, 1) := by decide +kernel
theorem d16_44 : decode prog_19_method_8_code 44 = .ok (.if_acmp .ne 15, 3) := by decide +kernel
theorem d16_47 : decode prog_19_method_8_code 47 = .ok (.aload_n 2, 1) := by decide +kernel
theorem d16_48 : decode prog_19_method_8_code 48 = .ok (.aload 4, 2) := by decide +kernel
theorem d16_50 : decode prog_19_method_8_code 50 = .ok (.invokevirtual 67, 3) := by decide +kernel
theorem d16_53 : decode prog_19_method_8_code 53 = .ok (.invokeinterface 112 2, 5) := by decide +kernel
theorem d16_58 : decode prog_19_method_8_code 58 = .ok (.pop, 1) := by decide +kernel
theorem d16_59 : decode prog_19_method_8_code 59 = .ok (.goto (-41), 3) := by decide +kernel
theorem d16_62 : decode prog_19_method_8_code 62 = .ok (.aload_n 2, 1) := by decide +kernel
theorem d16_63 : decode prog_19_method_8_code 63 = .ok (.areturn, 1) := by decide +kernel
theorem pn_16 : plainName "com/example/cartouche/cartouche/checking/Profile" = true := by first | (simp [plainName, overriddenIn]; done) | decide +kernel
theorem own_pd8 : parseMethodDescriptor "()Ljava/util/Iterator;" = some ⟨[], some (.object "java/util/Iterator")⟩ := by decide +kernel
theorem ef_ruleIds0 (m : MethodId) (x0 : Addr) (x1 : Addr) : entryFrame m #[(.ref x0), (.ref x1)] 5 = mkF m 0 #[.val (.ref x0), .val (.ref x1), .unset, .unset, .unset] [] := by first | (simp [entryFrame, mkF, argsToLocals, Value.category]; done) | rfl
def Q_ruleIds0 (Z : State) (a1 : Addr) (a2 : Addr) (wL : Addr) (wE : Addr) (kE : ClassId) (wD : Addr) (h0 : Heap) (n0 : Nat) (v : Option Value) (h : Heap) (L : List Loc) : Prop := ∃ b : Addr, v = some (.ref b) ∧ Fr n0 L ∧ Keep h0 h [] ∧ h0.size ≤ b ∧ Exa Z h b "java/util/ArrayList" ∧ Fld Z h b "java/util/ArrayList" "size" "I" (.int (0 : Int32)) ∧ Fld Z h b "java/util/AbstractList" "modCount" "I" (.int (0 : Int32))
set_option maxRecDepth 65536 in
set_option maxHeartbeats 40000000 in
theorem rm_ruleIds0 (l : Launch) (Z : State) (a0 : Array Value) (hw : ∀ d ∈ tables_1, d.before a0 Z = true) (ws : List Jvm.Cond) (a1 : Addr) (a2 : Addr) (wL : Addr) (wE : Addr) (kE : ClassId) (wD : Addr) (h0 : Heap) (n0 : Nat) (Z0 : n0 ≤ h0.size) (O0 : Old Z n0 h0) (E_1 : Exa Z h0 a1 "com/example/cartouche/cartouche/checking/Profile") (F_r : Fld Z h0 a1 "com/example/cartouche/cartouche/checking/Profile" "rules" "Ljava/util/List;" (.ref wL)) (E_L : Exa Z Z.heap wL "java/util/ImmutableCollections$ListN") (F_el : Fld Z Z.heap wL "java/util/ImmutableCollections$ListN" "elements" "[Ljava/lang/Object;" (.ref wE)) (R_E : Arv Z Z.heap wE kE (.object "java/lang/Object") (0 : Int32) [] .null) (S_D : Sta Z Z.heap "java/util/ArrayList" "DEFAULTCAPACITY_EMPTY_ELEMENTDATA" "[Ljava/lang/Object;" (.ref wD)) :
    MetFree l (⟨"com/example/cartouche/cartouche/checking/Profile", "ruleIds", "(Lcom/example/cartouche/cartouche/checking/Level;)Ljava/util/List;"⟩ : MethodName) (head1 (Jvm.Cond.code (⟨"com/example/cartouche/cartouche/checking/Profile", "ruleIds", "(Lcom/example/cartouche/cartouche/checking/Level;)Ljava/util/List;"⟩ : MethodName) prog_19_method_8_code 5 (some (.object "java/util/List")) :: ws) ({ frames := 4, cells := 2, slots := 7, locals := 49 } : Room)) (fun a U => a = #[(.ref a1), (.ref a2)] ∧ Z.Warmed39 U.vm ∧ U.heap = h0) (fun _ _ _ _ _ => True) (fun _ U o U' => ∃ v L, o = .returned v ∧ Q_ruleIds0 Z a1 a2 wL wE kE wD h0 n0 v U'.heap L ∧ FrameEnd U o U' L ({ frames := 4, cells := 2, slots := 7, locals := 49 } : Room).cells ({ frames := 4, cells := 2, slots := 7, locals := 49 } : Room).slots) := by
  refine MetFree.of_bodySF (plainFor_of_name pn_16) hisR ?_
  intro p e s m args below meth c s₁ Bd hml0 hP hK
  obtain ⟨rfl, hZ, hh⟩ := hP
  have hx := Bd.exec
  have hby := Bd.bytes
  have hml : c.maxLocals = 5 := hml0
  have hown : s.vm.findClass "com/example/cartouche/cartouche/checking/Profile" = some m.cls := findClass_of_methodNamed Bd.named
  have hnm := (name_of_methodNamed Bd.named Bd.method).1
  have hlk := Bd.notSynchronized
  have hret := Bd.returns
  have X0 : Stand p l e ({ frames := 4, cells := 2, slots := 7, locals := 49 } : Room) s m #[(.ref a1), (.ref a2)] below meth c s₁ [] 0 0 := Stand.of_body Bd
  have e0 : s₁.heap = h0 := by rw [← hh, Bd.state]; rfl
  have N0 := Fr.nil n0
  have K0 := Keep.refl h0 []
  refine own_in ({ frames := 4, cells := 2, slots := 7, locals := 49 } : Room).cells ({ frames := 4, cells := 2, slots := 7, locals := 49 } : Room).slots (Q_ruleIds0 Z a1 a2 wL wE kE wD h0 n0) (ef_ruleIds0 m a1 a2) ?_
  show own_G p.tables e below _ (s₁.setTop (mkF m 0 #[.val (.ref a1), .val (.ref a2), .unset, .unset, .unset] []))
  obtain ⟨T1, h1, X1, e1, E1, A1, D1, -, st1⟩ := newO X0 hx hZ hown (own_w hw 146 rfl) (own_w hw 13 rfl) (own_w hw 14 rfl) e0 (g := (mkF m 0 #[.val (.ref a1), .val (.ref a2), .unset, .unset, .unset] [])) rfl (hb hby d16_0) (by decide) (by decide)
  obtain ⟨b1, g1⟩ : ∃ z, z = h0.size := ⟨_, rfl⟩
  have ne_a1_b1 : a1 ≠ b1 := Nat.ne_of_lt (Nat.lt_of_lt_of_eq E_1.lt g1.symm)
  have ge_b1 : n0 ≤ b1 := Nat.le_trans Z0 (Nat.le_of_eq g1.symm)
  have sz_b1 : h0.size ≤ b1 := Nat.le_trans K0.1 (Nat.le_of_eq g1.symm)
  rw [← g1] at A1 D1 st1
  have K1 := K0.ext E1
  have O1 := O0.ext E1
  have F1_modCount : Fld Z h1 b1 "java/util/AbstractList" "modCount" "I" (.int (0 : Int32)) := D1 (Or.inl (own_w hw 34 rfl)) (ty := .int) (by decide)
  have F1_elementData : Fld Z h1 b1 "java/util/ArrayList" "elementData" "[Ljava/lang/Object;" .null := D1 (Or.inl (own_w hw 37 rfl)) (ty := (.array (.object "java/lang/Object"))) (by decide)
  have F1_size : Fld Z h1 b1 "java/util/ArrayList" "size" "I" (.int (0 : Int32)) := D1 (Or.inl (own_w hw 75 rfl)) (ty := .int) (by decide)
  refine own_st st1 ?_
  show own_G p.tables e below _ (T1.setTop (mkF m 3 #[.val (.ref a1), .val (.ref a2), .unset, .unset, .unset] [(.ref b1)]))
  refine own_st (fun _ kS => XS.dup X1.here hx rfl (hb hby d16_3) rfl rfl kS) ?_
  show own_G p.tables e below _ (T1.setTop (mkF m 4 #[.val (.ref a1), .val (.ref a2), .unset, .unset, .unset] [(.ref b1), (.ref b1)]))
  obtain ⟨_, _, ⟨T2, L2, k2, n2⟩, -, X2, ⟨Lc2, hQ2, l2, y2, z2⟩, st2⟩ := X1.specialBack hx (y := (⟨"java/util/ArrayList", "<init>", "()V"⟩ : MethodName)) rfl hown (mvT hZ (own_w hw 147 rfl)) (mvT hZ (own_w hw 16 rfl)) (mvT hZ (own_w hw 17 rfl)) (by decide) (backOf (W := 1) (rm_arlInit l Z a0 hw [] b1 wD h1 n0 (Nat.le_trans Z0 E1.1) O1 A1 ge_b1 F1_modCount F1_size F1_elementData S_D) hZ (own_w hw 17 rfl) (own_w hw 14 rfl) (by decide) (by decide)) (g := (mkF m 4 #[.val (.ref a1), .val (.ref a2), .unset, .unset, .unset] [(.ref b1), (.ref b1)])) rfl (by rw [hml]; rfl) (Steps.refl _) (a := b1) (argsL := []) (rest := [(.ref b1)]) (lenOf own_pd0 rfl) rfl (by show 2 * 0 + _ ≤ _; exact Nat.le_of_eq rfl) (hb hby d16_4) (fun _ _ => ⟨rfl, e1, (by decide : 1 + 0 ≤ _), (by decide : 3 + 0 ≤ _)⟩)
  dsimp only [Pt.U, Pt.locs, Pt.cells, Pt.slots] at X2 l2 y2 z2 st2 hQ2
  subst l2 y2 z2
  obtain ⟨rfl, Nq2, Kc2, P2_0, P2_1, P2_2⟩ := hQ2
  have N2 := Fr.app N0 Nq2
  have K2 := K1.trans Kc2 (allS (Or.inr sz_b1) all0)
  have O2 := O1.keep Kc2 (allS ge_b1 all0)
  refine own_tr st2 ?_
  show own_G p.tables e below _ (T2.setTop (mkF m 7 #[.val (.ref a1), .val (.ref a2), .unset, .unset, .unset] [(.ref b1)]))
  refine own_st (fun _ kS => XS.astoreN X2.here hx rfl (hb hby d16_7) rfl rfl (l' := #[.val (.ref a1), .val (.ref a2), .val (.ref b1), .unset, .unset]) rfl kS) ?_
  show own_G p.tables e below _ (T2.setTop (mkF m 8 #[.val (.ref a1), .val (.ref a2), .val (.ref b1), .unset, .unset] []))
  refine own_st (fun _ kS => XS.aloadN X2.here hx rfl (hb hby d16_8) rfl rfl kS) ?_
  show own_G p.tables e below _ (T2.setTop (mkF m 9 #[.val (.ref a1), .val (.ref a2), .val (.ref b1), .unset, .unset] [(.ref a1)]))
  obtain ⟨T3, X3, e3, st3⟩ := getF X2 hx hZ hown (host := "") (Or.inl (own_w hw 77 rfl)) Via.refl rfl ((Fld.ext E1 F_r).keep Kc2 (ninS ne_a1_b1 nin0)) (g := (mkF m 9 #[.val (.ref a1), .val (.ref a2), .val (.ref b1), .unset, .unset] [(.ref a1)])) rfl rfl (hb hby d16_9)
  refine own_st st3 ?_
  show own_G p.tables e below _ (T3.setTop (mkF m 12 #[.val (.ref a1), .val (.ref a2), .val (.ref b1), .unset, .unset] [(.ref wL)]))
  obtain ⟨cq4, kq4, q4a, q4b, q4c⟩ := isOf hZ e3 (Exa.ext O2.2 E_L)
  obtain ⟨_, _, ⟨T4, L4, k4, n4⟩, -, X4, ⟨Lc4, hQ4, l4, y4, z4⟩, st4⟩ := X3.interfaceBack hx (xi := (⟨"java/util/List", "iterator", "()Ljava/util/Iterator;"⟩ : MethodName)) (y := (⟨"java/util/ImmutableCollections$AbstractImmutableList", "iterator", "()Ljava/util/Iterator;"⟩ : MethodName)) hown (mvT hZ (own_w hw 148 rfl)) (mvT hZ (own_w hw 149 rfl)) (mvT hZ (own_w hw 150 rfl)) (mvT hZ (own_w hw 151 rfl)) (mvT hZ (own_w hw 152 rfl)) (mvT hZ (own_w hw 153 rfl)) (mvT hZ (own_w hw 154 rfl)) (mvT hZ (own_w hw 86 rfl)) (by decide) (backOf (W := 0) (rm_itL l Z a0 hw [] wL wE kE T2.heap n0 (Nat.le_trans (Nat.le_trans Z0 E1.1) Kc2.1) O2 E_L F_el R_E) hZ (own_w hw 156 rfl) (own_w hw 155 rfl) (by decide) (by decide)) q4a q4b q4c (g := (mkF m 12 #[.val (.ref a1), .val (.ref a2), .val (.ref b1), .unset, .unset] [(.ref wL)])) rfl (by rw [hml]; rfl) (Steps.refl _) (argsL := []) (rest := []) (lenOf own_pd8 rfl) rfl (by show 2 * 0 + _ ≤ _; exact Nat.le_of_eq rfl) (hb hby d16_12) (fun _ _ => ⟨rfl, e3, (by decide : 1 + 1 ≤ _), (by decide : 3 + 4 ≤ _)⟩)
  dsimp only [Pt.U, Pt.locs, Pt.cells, Pt.slots] at X4 l4 y4 z4 st4 hQ4
  subst l4 y4 z4
  obtain ⟨b_4, rfl, Nq4, Kc4, P4_0, P4_1, P4_2, P4_3⟩ := hQ4
  have N4 := Fr.app N2 Nq4
  have ne_a1_b_4 : a1 ≠ b_4 := Nat.ne_of_lt (Nat.lt_of_lt_of_le ((Exa.ext E1 E_1).keep Kc2).lt P4_0)
  have ne_b1_b_4 : b1 ≠ b_4 := Nat.ne_of_lt (Nat.lt_of_lt_of_le P2_0.lt P4_0)
  have ge_b_4 : n0 ≤ b_4 := Nat.le_trans (Nat.le_trans (Nat.le_trans Z0 E1.1) Kc2.1) P4_0
  have sz_b_4 : h0.size ≤ b_4 := Nat.le_trans K2.1 P4_0
  have K4 := K2.trans Kc4 all0
  have O4 := O2.keep Kc4 all0
  refine own_tr st4 ?_
  show own_G p.tables e below _ (T4.setTop (mkF m 17 #[.val (.ref a1), .val (.ref a2), .val (.ref b1), .unset, .unset] [(.ref b_4)]))
  refine own_st (fun _ kS => XS.astoreN X4.here hx rfl (hb hby d16_17) rfl rfl (l' := #[.val (.ref a1), .val (.ref a2), .val (.ref b1), .val (.ref b_4), .unset]) rfl kS) ?_
  show own_G p.tables e below _ (T4.setTop (mkF m 18 #[.val (.ref a1), .val (.ref a2), .val (.ref b1), .val (.ref b_4), .unset] []))
  refine own_st (fun _ kS => XS.aloadN X4.here hx rfl (hb hby d16_18) rfl rfl kS) ?_
  show own_G p.tables e below _ (T4.setTop (mkF m 19 #[.val (.ref a1), .val (.ref a2), .val (.ref b1), .val (.ref b_4), .unset] [(.ref b_4)]))
  obtain ⟨cq5, kq5, q5a, q5b, q5c⟩ := isOf hZ rfl P4_1
  obtain ⟨_, _, ⟨T5, L5, k5, n5⟩, -, X5, ⟨Lc5, hQ5, l5, y5, z5⟩, st5⟩ := X4.interfaceBack hx (xi := (⟨"java/util/Iterator", "hasNext", "()Z"⟩ : MethodName)) (y := (⟨"java/util/ImmutableCollections$ListItr", "hasNext", "()Z"⟩ : MethodName)) hown (mvT hZ (own_w hw 182 rfl)) (mvT hZ (own_w hw 183 rfl)) (mvT hZ (own_w hw 184 rfl)) (mvT hZ (own_w hw 185 rfl)) (mvT hZ (own_w hw 186 rfl)) (mvT hZ (own_w hw 187 rfl)) (mvT hZ (own_w hw 188 rfl)) (mvT hZ (own_w hw 189 rfl)) (by decide) (backOf (W := 0) (rm_hnL l Z a0 hw [] b_4 T4.heap n0 (Nat.le_trans (Nat.le_trans (Nat.le_trans Z0 E1.1) Kc2.1) Kc4.1)  P4_2 P4_3) hZ (own_w hw 190 rfl) (own_w hw 159 rfl) (by decide) (by decide)) q5a q5b q5c (g := (mkF m 19 #[.val (.ref a1), .val (.ref a2), .val (.ref b1), .val (.ref b_4), .unset] [(.ref b_4)])) rfl (by rw [hml]; rfl) (Steps.refl _) (argsL := []) (rest := []) (lenOf own_pd1 rfl) rfl (by show 2 * 0 + _ ≤ _; exact Nat.le_of_eq rfl) (hb hby d16_19) (fun _ _ => ⟨rfl, rfl, (by decide : 2 + 0 ≤ _), (by decide : 7 + 0 ≤ _)⟩)
  dsimp only [Pt.U, Pt.locs, Pt.cells, Pt.slots] at X5 l5 y5 z5 st5 hQ5
  subst l5 y5 z5
  obtain ⟨rfl, Nq5, eq5⟩ := hQ5
  have N5 := Fr.app N4 Nq5
  refine own_tr st5 ?_
  show own_G p.tables e below _ (T5.setTop (mkF m 24 #[.val (.ref a1), .val (.ref a2), .val (.ref b1), .val (.ref b_4), .unset] [(.int (0 : Int32))]))
  refine own_st (fun _ kS => XS.ifYes X5.here hx rfl (pc0 := 24) (pc' := 62) rfl (hb hby d16_24) rfl ((if0 _ _).trans (teq (by decide : (0 : Int32) = (0 : Int32))).1) (by decide) (by decide) kS) ?_
  show own_G p.tables e below _ (T5.setTop (mkF m 62 #[.val (.ref a1), .val (.ref a2), .val (.ref b1), .val (.ref b_4), .unset] []))
  refine own_st (fun _ kS => XS.aloadN X5.here hx rfl (hb hby d16_62) rfl rfl kS) ?_
  show own_G p.tables e below _ (T5.setTop (mkF m 63 #[.val (.ref a1), .val (.ref a2), .val (.ref b1), .val (.ref b_4), .unset] [(.ref b1)]))
  exact own_retA X5 hx hlk hret rfl rfl (hb hby d16_63) (by decide) (by decide) (by rw [eq5]; exact ⟨b1, ⟨rfl, N5, K4, sz_b1, (P2_0.keep Kc4), (P2_2.keep Kc4 nin0), (P2_1.keep Kc4 nin0)⟩⟩)
theorem ef_ruleIds1 (m : MethodId) (x0 : Addr) (x1 : Addr) : entryFrame m #[(.ref x0), (.ref x1)] 5 = mkF m 0 #[.val (.ref x0), .val (.ref x1), .unset, .unset, .unset] [] := by first | (simp [entryFrame, mkF, argsToLocals, Value.category]; done) | rfl
def Q_ruleIds1 (Z : State) (a1 : Addr) (a2 : Addr) (a3 : Addr) (wL : Addr) (wE : Addr) (kE : ClassId) (wD : Addr) (h0 : Heap) (n0 : Nat) (v : Option Value) (h : Heap) (L : List Loc) : Prop := ∃ b : Addr, v = some (.ref b) ∧ Fr n0 L ∧ Keep h0 h [] ∧ h0.size ≤ b ∧ Exa Z h b "java/util/ArrayList" ∧ Fld Z h b "java/util/ArrayList" "size" "I" (.int (0 : Int32)) ∧ Fld Z h b "java/util/AbstractList" "modCount" "I" (.int (0 : Int32))
set_option maxRecDepth 65536 in
set_option maxHeartbeats 40000000 in
theorem rm_ruleIds1 (l : Launch) (Z : State) (a0 : Array Value) (hw : ∀ d ∈ tables_1, d.before a0 Z = true) (ws : List Jvm.Cond) (a1 : Addr) (a2 : Addr) (a3 : Addr) (wL : Addr) (wE : Addr) (kE : ClassId) (wD : Addr) (h0 : Heap) (n0 : Nat) (Z0 : n0 ≤ h0.size) (O0 : Old Z n0 h0) (E_1 : Exa Z h0 a1 "com/example/cartouche/cartouche/checking/Profile") (F_r : Fld Z h0 a1 "com/example/cartouche/cartouche/checking/Profile" "rules" "Ljava/util/List;" (.ref a3)) (E_3 : Exa Z h0 a3 "java/util/ArrayList") (F_s3 : Fld Z h0 a3 "java/util/ArrayList" "size" "I" (.int (0 : Int32))) (F_m3 : Fld Z h0 a3 "java/util/AbstractList" "modCount" "I" (.int (0 : Int32))) (E_L : Exa Z Z.heap wL "java/util/ImmutableCollections$ListN") (F_el : Fld Z Z.heap wL "java/util/ImmutableCollections$ListN" "elements" "[Ljava/lang/Object;" (.ref wE)) (R_E : Arv Z Z.heap wE kE (.object "java/lang/Object") (0 : Int32) [] .null) (S_D : Sta Z Z.heap "java/util/ArrayList" "DEFAULTCAPACITY_EMPTY_ELEMENTDATA" "[Ljava/lang/Object;" (.ref wD)) :
    MetFree l (⟨"com/example/cartouche/cartouche/checking/Profile", "ruleIds", "(Lcom/example/cartouche/cartouche/checking/Level;)Ljava/util/List;"⟩ : MethodName) (head1 (Jvm.Cond.code (⟨"com/example/cartouche/cartouche/checking/Profile", "ruleIds", "(Lcom/example/cartouche/cartouche/checking/Level;)Ljava/util/List;"⟩ : MethodName) prog_19_method_8_code 5 (some (.object "java/util/List")) :: ws) ({ frames := 4, cells := 2, slots := 7, locals := 49 } : Room)) (fun a U => a = #[(.ref a1), (.ref a2)] ∧ Z.Warmed39 U.vm ∧ U.heap = h0) (fun _ _ _ _ _ => True) (fun _ U o U' => ∃ v L, o = .returned v ∧ Q_ruleIds1 Z a1 a2 a3 wL wE kE wD h0 n0 v U'.heap L ∧ FrameEnd U o U' L ({ frames := 4, cells := 2, slots := 7, locals := 49 } : Room).cells ({ frames := 4, cells := 2, slots := 7, locals := 49 } : Room).slots) := by
  refine MetFree.of_bodySF (plainFor_of_name pn_16) hisR ?_
  intro p e s m args below meth c s₁ Bd hml0 hP hK
  obtain ⟨rfl, hZ, hh⟩ := hP
  have hx := Bd.exec
  have hby := Bd.bytes
  have hml : c.maxLocals = 5 := hml0
  have hown : s.vm.findClass "com/example/cartouche/cartouche/checking/Profile" = some m.cls := findClass_of_methodNamed Bd.named
  have hnm := (name_of_methodNamed Bd.named Bd.method).1
  have hlk := Bd.notSynchronized
  have hret := Bd.returns
  have X0 : Stand p l e ({ frames := 4, cells := 2, slots := 7, locals := 49 } : Room) s m #[(.ref a1), (.ref a2)] below meth c s₁ [] 0 0 := Stand.of_body Bd
  have e0 : s₁.heap = h0 := by rw [← hh, Bd.state]; rfl
  have N0 := Fr.nil n0
  have K0 := Keep.refl h0 []
  refine own_in ({ frames := 4, cells := 2, slots := 7, locals := 49 } : Room).cells ({ frames := 4, cells := 2, slots := 7, locals := 49 } : Room).slots (Q_ruleIds1 Z a1 a2 a3 wL wE kE wD h0 n0) (ef_ruleIds1 m a1 a2) ?_
  show own_G p.tables e below _ (s₁.setTop (mkF m 0 #[.val (.ref a1), .val (.ref a2), .unset, .unset, .unset] []))
  obtain ⟨T1, h1, X1, e1, E1, A1, D1, -, st1⟩ := newO X0 hx hZ hown (own_w hw 146 rfl) (own_w hw 13 rfl) (own_w hw 14 rfl) e0 (g := (mkF m 0 #[.val (.ref a1), .val (.ref a2), .unset, .unset, .unset] [])) rfl (hb hby d16_0) (by decide) (by decide)
  obtain ⟨b1, g1⟩ : ∃ z, z = h0.size := ⟨_, rfl⟩
  have ne_a1_b1 : a1 ≠ b1 := Nat.ne_of_lt (Nat.lt_of_lt_of_eq E_1.lt g1.symm)
  have ne_a3_b1 : a3 ≠ b1 := Nat.ne_of_lt (Nat.lt_of_lt_of_eq E_3.lt g1.symm)
  have ge_b1 : n0 ≤ b1 := Nat.le_trans Z0 (Nat.le_of_eq g1.symm)
  have sz_b1 : h0.size ≤ b1 := Nat.le_trans K0.1 (Nat.le_of_eq g1.symm)
  rw [← g1] at A1 D1 st1
  have K1 := K0.ext E1
  have O1 := O0.ext E1
  have F1_modCount : Fld Z h1 b1 "java/util/AbstractList" "modCount" "I" (.int (0 : Int32)) := D1 (Or.inl (own_w hw 34 rfl)) (ty := .int) (by decide)
  have F1_elementData : Fld Z h1 b1 "java/util/ArrayList" "elementData" "[Ljava/lang/Object;" .null := D1 (Or.inl (own_w hw 37 rfl)) (ty := (.array (.object "java/lang/Object"))) (by decide)
  have F1_size : Fld Z h1 b1 "java/util/ArrayList" "size" "I" (.int (0 : Int32)) := D1 (Or.inl (own_w hw 75 rfl)) (ty := .int) (by decide)
  refine own_st st1 ?_
  show own_G p.tables e below _ (T1.setTop (mkF m 3 #[.val (.ref a1), .val (.ref a2), .unset, .unset, .unset] [(.ref b1)]))
  refine own_st (fun _ kS => XS.dup X1.here hx rfl (hb hby d16_3) rfl rfl kS) ?_
  show own_G p.tables e below _ (T1.setTop (mkF m 4 #[.val (.ref a1), .val (.ref a2), .unset, .unset, .unset] [(.ref b1), (.ref b1)]))
  obtain ⟨_, _, ⟨T2, L2, k2, n2⟩, -, X2, ⟨Lc2, hQ2, l2, y2, z2⟩, st2⟩ := X1.specialBack hx (y := (⟨"java/util/ArrayList", "<init>", "()V"⟩ : MethodName)) rfl hown (mvT hZ (own_w hw 147 rfl)) (mvT hZ (own_w hw 16 rfl)) (mvT hZ (own_w hw 17 rfl)) (by decide) (backOf (W := 1) (rm_arlInit l Z a0 hw [] b1 wD h1 n0 (Nat.le_trans Z0 E1.1) O1 A1 ge_b1 F1_modCount F1_size F1_elementData S_D) hZ (own_w hw 17 rfl) (own_w hw 14 rfl) (by decide) (by decide)) (g := (mkF m 4 #[.val (.ref a1), .val (.ref a2), .unset, .unset, .unset] [(.ref b1), (.ref b1)])) rfl (by rw [hml]; rfl) (Steps.refl _) (a := b1) (argsL := []) (rest := [(.ref b1)]) (lenOf own_pd0 rfl) rfl (by show 2 * 0 + _ ≤ _; exact Nat.le_of_eq rfl) (hb hby d16_4) (fun _ _ => ⟨rfl, e1, (by decide : 1 + 0 ≤ _), (by decide : 3 + 0 ≤ _)⟩)
  dsimp only [Pt.U, Pt.locs, Pt.cells, Pt.slots] at X2 l2 y2 z2 st2 hQ2
  subst l2 y2 z2
  obtain ⟨rfl, Nq2, Kc2, P2_0, P2_1, P2_2⟩ := hQ2
  have N2 := Fr.app N0 Nq2
  have K2 := K1.trans Kc2 (allS (Or.inr sz_b1) all0)
  have O2 := O1.keep Kc2 (allS ge_b1 all0)
  refine own_tr st2 ?_
  show own_G p.tables e below _ (T2.setTop (mkF m 7 #[.val (.ref a1), .val (.ref a2), .unset, .unset, .unset] [(.ref b1)]))
  refine own_st (fun _ kS => XS.astoreN X2.here hx rfl (hb hby d16_7) rfl rfl (l' := #[.val (.ref a1), .val (.ref a2), .val (.ref b1), .unset, .unset]) rfl kS) ?_
  show own_G p.tables e below _ (T2.setTop (mkF m 8 #[.val (.ref a1), .val (.ref a2), .val (.ref b1), .unset, .unset] []))
  refine own_st (fun _ kS => XS.aloadN X2.here hx rfl (hb hby d16_8) rfl rfl kS) ?_
  show own_G p.tables e below _ (T2.setTop (mkF m 9 #[.val (.ref a1), .val (.ref a2), .val (.ref b1), .unset, .unset] [(.ref a1)]))
  obtain ⟨T3, X3, e3, st3⟩ := getF X2 hx hZ hown (host := "") (Or.inl (own_w hw 77 rfl)) Via.refl rfl ((Fld.ext E1 F_r).keep Kc2 (ninS ne_a1_b1 nin0)) (g := (mkF m 9 #[.val (.ref a1), .val (.ref a2), .val (.ref b1), .unset, .unset] [(.ref a1)])) rfl rfl (hb hby d16_9)
  refine own_st st3 ?_
  show own_G p.tables e below _ (T3.setTop (mkF m 12 #[.val (.ref a1), .val (.ref a2), .val (.ref b1), .unset, .unset] [(.ref a3)]))
  obtain ⟨cq4, kq4, q4a, q4b, q4c⟩ := isOf hZ e3 ((Exa.ext E1 E_3).keep Kc2)
  obtain ⟨_, _, ⟨T4, L4, k4, n4⟩, -, X4, ⟨Lc4, hQ4, l4, y4, z4⟩, st4⟩ := X3.interfaceBack hx (xi := (⟨"java/util/List", "iterator", "()Ljava/util/Iterator;"⟩ : MethodName)) (y := (⟨"java/util/ArrayList", "iterator", "()Ljava/util/Iterator;"⟩ : MethodName)) hown (mvT hZ (own_w hw 148 rfl)) (mvT hZ (own_w hw 149 rfl)) (mvT hZ (own_w hw 150 rfl)) (mvT hZ (own_w hw 192 rfl)) (mvT hZ (own_w hw 193 rfl)) (mvT hZ (own_w hw 194 rfl)) (mvT hZ (own_w hw 195 rfl)) (mvT hZ (own_w hw 196 rfl)) (by decide) (backOf (W := 0) (rm_itA l Z a0 hw [] a3 T2.heap n0 (Nat.le_trans (Nat.le_trans Z0 E1.1) Kc2.1)  ((Exa.ext E1 E_3).keep Kc2) ((Fld.ext E1 F_m3).keep Kc2 (ninS ne_a3_b1 nin0))) hZ (own_w hw 197 rfl) (own_w hw 14 rfl) (by decide) (by decide)) q4a q4b q4c (g := (mkF m 12 #[.val (.ref a1), .val (.ref a2), .val (.ref b1), .unset, .unset] [(.ref a3)])) rfl (by rw [hml]; rfl) (Steps.refl _) (argsL := []) (rest := []) (lenOf own_pd8 rfl) rfl (by show 2 * 0 + _ ≤ _; exact Nat.le_of_eq rfl) (hb hby d16_12) (fun _ _ => ⟨rfl, e3, (by decide : 1 + 1 ≤ _), (by decide : 3 + 4 ≤ _)⟩)
  dsimp only [Pt.U, Pt.locs, Pt.cells, Pt.slots] at X4 l4 y4 z4 st4 hQ4
  subst l4 y4 z4
  obtain ⟨b_4, rfl, Nq4, Kc4, P4_0, P4_1, P4_2, P4_3⟩ := hQ4
  have N4 := Fr.app N2 Nq4
  have ne_a1_b_4 : a1 ≠ b_4 := Nat.ne_of_lt (Nat.lt_of_lt_of_le ((Exa.ext E1 E_1).keep Kc2).lt P4_0)
  have ne_a3_b_4 : a3 ≠ b_4 := Nat.ne_of_lt (Nat.lt_of_lt_of_le ((Exa.ext E1 E_3).keep Kc2).lt P4_0)
  have ne_b1_b_4 : b1 ≠ b_4 := Nat.ne_of_lt (Nat.lt_of_lt_of_le P2_0.lt P4_0)
  have ge_b_4 : n0 ≤ b_4 := Nat.le_trans (Nat.le_trans (Nat.le_trans Z0 E1.1) Kc2.1) P4_0
  have sz_b_4 : h0.size ≤ b_4 := Nat.le_trans K2.1 P4_0
  have K4 := K2.trans Kc4 all0
  have O4 := O2.keep Kc4 all0
  refine own_tr st4 ?_
  show own_G p.tables e below _ (T4.setTop (mkF m 17 #[.val (.ref a1), .val (.ref a2), .val (.ref b1), .unset, .unset] [(.ref b_4)]))
  refine own_st (fun _ kS => XS.astoreN X4.here hx rfl (hb hby d16_17) rfl rfl (l' := #[.val (.ref a1), .val (.ref a2), .val (.ref b1), .val (.ref b_4), .unset]) rfl kS) ?_
  show own_G p.tables e below _ (T4.setTop (mkF m 18 #[.val (.ref a1), .val (.ref a2), .val (.ref b1), .val (.ref b_4), .unset] []))
  refine own_st (fun _ kS => XS.aloadN X4.here hx rfl (hb hby d16_18) rfl rfl kS) ?_
  show own_G p.tables e below _ (T4.setTop (mkF m 19 #[.val (.ref a1), .val (.ref a2), .val (.ref b1), .val (.ref b_4), .unset] [(.ref b_4)]))
  obtain ⟨cq5, kq5, q5a, q5b, q5c⟩ := isOf hZ rfl P4_1
  obtain ⟨_, _, ⟨T5, L5, k5, n5⟩, -, X5, ⟨Lc5, hQ5, l5, y5, z5⟩, st5⟩ := X4.interfaceBack hx (xi := (⟨"java/util/Iterator", "hasNext", "()Z"⟩ : MethodName)) (y := (⟨"java/util/ArrayList$Itr", "hasNext", "()Z"⟩ : MethodName)) hown (mvT hZ (own_w hw 182 rfl)) (mvT hZ (own_w hw 183 rfl)) (mvT hZ (own_w hw 184 rfl)) (mvT hZ (own_w hw 215 rfl)) (mvT hZ (own_w hw 216 rfl)) (mvT hZ (own_w hw 217 rfl)) (mvT hZ (own_w hw 218 rfl)) (mvT hZ (own_w hw 219 rfl)) (by decide) (backOf (W := 0) (rm_hnA l Z a0 hw [] b_4 a3 T4.heap n0 (Nat.le_trans (Nat.le_trans (Nat.le_trans Z0 E1.1) Kc2.1) Kc4.1)  P4_2 P4_3 (((Fld.ext E1 F_s3).keep Kc2 (ninS ne_a3_b1 nin0)).keep Kc4 nin0)) hZ (own_w hw 220 rfl) (own_w hw 200 rfl) (by decide) (by decide)) q5a q5b q5c (g := (mkF m 19 #[.val (.ref a1), .val (.ref a2), .val (.ref b1), .val (.ref b_4), .unset] [(.ref b_4)])) rfl (by rw [hml]; rfl) (Steps.refl _) (argsL := []) (rest := []) (lenOf own_pd1 rfl) rfl (by show 2 * 0 + _ ≤ _; exact Nat.le_of_eq rfl) (hb hby d16_19) (fun _ _ => ⟨rfl, rfl, (by decide : 2 + 0 ≤ _), (by decide : 7 + 0 ≤ _)⟩)
  dsimp only [Pt.U, Pt.locs, Pt.cells, Pt.slots] at X5 l5 y5 z5 st5 hQ5
  subst l5 y5 z5
  obtain ⟨rfl, Nq5, eq5⟩ := hQ5
  have N5 := Fr.app N4 Nq5
  refine own_tr st5 ?_
  show own_G p.tables e below _ (T5.setTop (mkF m 24 #[.val (.ref a1), .val (.ref a2), .val (.ref b1), .val (.ref b_4), .unset] [(.int (0 : Int32))]))
  refine own_st (fun _ kS => XS.ifYes X5.here hx rfl (pc0 := 24) (pc' := 62) rfl (hb hby d16_24) rfl ((if0 _ _).trans (teq (by decide : (0 : Int32) = (0 : Int32))).1) (by decide) (by decide) kS) ?_
  show own_G p.tables e below _ (T5.setTop (mkF m 62 #[.val (.ref a1), .val (.ref a2), .val (.ref b1), .val (.ref b_4), .unset] []))
  refine own_st (fun _ kS => XS.aloadN X5.here hx rfl (hb hby d16_62) rfl rfl kS) ?_
  show own_G p.tables e below _ (T5.setTop (mkF m 63 #[.val (.ref a1), .val (.ref a2), .val (.ref b1), .val (.ref b_4), .unset] [(.ref b1)]))
  exact own_retA X5 hx hlk hret rfl rfl (hb hby d16_63) (by decide) (by decide) (by rw [eq5]; exact ⟨b1, ⟨rfl, N5, K4, sz_b1, (P2_0.keep Kc4), (P2_2.keep Kc4 nin0), (P2_1.keep Kc4 nin0)⟩⟩)
theorem d28_0 : decode prog_34_method_7_code 0 = .ok (.new 44, 3) := by decide +kernel
theorem d28_3 : decode prog_34_method_7_code 3 = .ok (.dup, 1) := by decide +kernel
theorem d28_4 : decode prog_34_method_7_code 4 = .ok (.invokespecial 46, 3) := by decide +kernel
theorem d28_7 : decode prog_34_method_7_code 7 = .ok (.astore_n 2, 1) := by decide +kernel
theorem d28_8 : decode prog_34_method_7_code 8 = .ok (.aconst_null, 1) := by decide +kernel
theorem d28_9 : decode prog_34_method_7_code 9 = .ok (.astore_n 3, 1) := by decide +kernel
theorem d28_10 : decode prog_34_method_7_code 10 = .ok (.aload_n 0, 1) := by decide +kernel
theorem d28_11 : decode prog_34_method_7_code 11 = .ok (.getfield 19, 3) := by decide +kernel
theorem d28_14 : decode prog_34_method_7_code 14 = .ok (.invokeinterface 47 1, 5) := by decide +kernel
theorem d28_19 : decode prog_34_method_7_code 19 = .ok (.astore 4, 2) := by decide +kernel
theorem d28_21 : decode prog_34_method_7_code 21 = .ok (.aload 4, 2) := by decide +kernel
theorem d28_23 : decode prog_34_method_7_code 23 = .ok (.invokeinterface 51 1, 5) := by decide +kernel
theorem d28_28 : decode prog_34_method_7_code 28 = .ok (.ifCond .eq 57, 3) := by decide +kernel
theorem d28_31 : decode prog_34_method_7_code 31 = .ok (.aload 4, 2) := by decide +kernel
theorem d28_33 : decode prog_34_method_7_code 33 = .ok (.invokeinterface 56 1, 5) := by decide +kernel
theorem d28_38 : decode prog_34_method_7_code 38 = .ok (.checkcast 60, 3) := by decide +kernel
theorem d28_41 : decode prog_34_method_7_code 41 = .ok (.astore 5, 2) := by decide +kernel
theorem d28_43 : decode prog_34_method_7_code 43 = .ok (.aload 5, 2) := by decide +kernel
theorem d28_45 : decode prog_34_method_7_code 45 = .ok (.invokevirtual 62, 3) := by decide +kernel
theorem d28_48 : decode prog_34_method_7_code 48 = .ok (.aload_n 1, 1) := by decide +kernel
theorem d28_49 : decode prog_34_method_7_code 49 = .ok (.if_acmp .ne 33, 3) := by decide +kernel
theorem d28_52 : decode prog_34_method_7_code 52 = .ok (.aload 5, 2) := by decide +kernel
theorem d28_54 : decode prog_34_method_7_code 54 = .ok (.invokevirtual 66, 3) := by decide +kernel
theorem d28_57 : decode prog_34_method_7_code 57 = .ok (.aload_n 3, 1) := by decide +kernel
theorem d28_58 : decode prog_34_method_7_code 58 = .ok (.invokevirtual 70, 3) := by decide +kernel
theorem d28_61 : decode prog_34_method_7_code 61 = .ok (.ifCond .ne 21, 3) := by decide +kernel
theorem d28_64 : decode prog_34_method_7_code 64 = .ok (.aload_n 2, 1) := by decide +kernel
theorem d28_65 : decode prog_34_method_7_code 65 = .ok (.aload 5, 2) := by decide +kernel
theorem d28_67 : decode prog_34_method_7_code 67 = .ok (.invokevirtual 66, 3) := by decide +kernel
theorem d28_70 : decode prog_34_method_7_code 70 = .ok (.invokeinterface 76 2, 5) := by decide +kernel
theorem d28_75 : decode prog_34_method_7_code 75 = .ok (.pop, 1) := by decide +kernel
theorem d28_76 : decode prog_34_method_7_code 76 = .ok (.aload 5, 2) := by decide +kernel
theorem d28_78 : decode prog_34_method_7_code 78 = .ok (.invokevirtual 66, 3) := by decide +kernel
theorem d28_81 : decode prog_34_method_7_code 81 = .ok (.astore_n 3, 1) := by decide +kernel
theorem d28_82 : decode prog_34_method_7_code 82 = .ok (.goto (-61), 3) := by decide +kernel
theorem d28_85 : decode prog_34_method_7_code 85 = .ok (.aload_n 2, 1) := by decide +kernel
theorem d28_86 : decode prog_34_method_7_code 86 = .ok (.areturn, 1) := by decide +kernel
theorem pn_28 : plainName "com/example/cartouche/cartouche/checking/Verdict" = true := by first | (simp [plainName, overriddenIn]; done) | decide +kernel
theorem ef_broken0 (m : MethodId) (x0 : Addr) (x1 : Addr) : entryFrame m #[(.ref x0), (.ref x1)] 6 = mkF m 0 #[.val (.ref x0), .val (.ref x1), .unset, .unset, .unset, .unset] [] := by first | (simp [entryFrame, mkF, argsToLocals, Value.category]; done) | rfl
def Q_broken0 (Z : State) (a1 : Addr) (a2 : Addr) (wL : Addr) (wE : Addr) (kE : ClassId) (wD : Addr) (h0 : Heap) (n0 : Nat) (v : Option Value) (h : Heap) (L : List Loc) : Prop := ∃ b : Addr, v = some (.ref b) ∧ Fr n0 L ∧ Keep h0 h [] ∧ h0.size ≤ b ∧ Exa Z h b "java/util/ArrayList" ∧ Fld Z h b "java/util/ArrayList" "size" "I" (.int (0 : Int32)) ∧ Fld Z h b "java/util/AbstractList" "modCount" "I" (.int (0 : Int32))
set_option maxRecDepth 65536 in
set_option maxHeartbeats 40000000 in
theorem rm_broken0 (l : Launch) (Z : State) (a0 : Array Value) (hw : ∀ d ∈ tables_1, d.before a0 Z = true) (ws : List Jvm.Cond) (a1 : Addr) (a2 : Addr) (wL : Addr) (wE : Addr) (kE : ClassId) (wD : Addr) (h0 : Heap) (n0 : Nat) (Z0 : n0 ≤ h0.size) (O0 : Old Z n0 h0) (E_1 : Exa Z h0 a1 "com/example/cartouche/cartouche/checking/Verdict") (F_f : Fld Z h0 a1 "com/example/cartouche/cartouche/checking/Verdict" "failures" "Ljava/util/List;" (.ref wL)) (E_L : Exa Z Z.heap wL "java/util/ImmutableCollections$ListN") (F_el : Fld Z Z.heap wL "java/util/ImmutableCollections$ListN" "elements" "[Ljava/lang/Object;" (.ref wE)) (R_E : Arv Z Z.heap wE kE (.object "java/lang/Object") (0 : Int32) [] .null) (S_D : Sta Z Z.heap "java/util/ArrayList" "DEFAULTCAPACITY_EMPTY_ELEMENTDATA" "[Ljava/lang/Object;" (.ref wD)) :
    MetFree l (⟨"com/example/cartouche/cartouche/checking/Verdict", "broken", "(Lcom/example/cartouche/cartouche/checking/Level;)Ljava/util/List;"⟩ : MethodName) (head1 (Jvm.Cond.code (⟨"com/example/cartouche/cartouche/checking/Verdict", "broken", "(Lcom/example/cartouche/cartouche/checking/Level;)Ljava/util/List;"⟩ : MethodName) prog_34_method_7_code 6 (some (.object "java/util/List")) :: ws) ({ frames := 4, cells := 2, slots := 7, locals := 49 } : Room)) (fun a U => a = #[(.ref a1), (.ref a2)] ∧ Z.Warmed39 U.vm ∧ U.heap = h0) (fun _ _ _ _ _ => True) (fun _ U o U' => ∃ v L, o = .returned v ∧ Q_broken0 Z a1 a2 wL wE kE wD h0 n0 v U'.heap L ∧ FrameEnd U o U' L ({ frames := 4, cells := 2, slots := 7, locals := 49 } : Room).cells ({ frames := 4, cells := 2, slots := 7, locals := 49 } : Room).slots) := by
  refine MetFree.of_bodySF (plainFor_of_name pn_28) hisR ?_
  intro p e s m args below meth c s₁ Bd hml0 hP hK
  obtain ⟨rfl, hZ, hh⟩ := hP
  have hx := Bd.exec
  have hby := Bd.bytes
  have hml : c.maxLocals = 6 := hml0
  have hown : s.vm.findClass "com/example/cartouche/cartouche/checking/Verdict" = some m.cls := findClass_of_methodNamed Bd.named
  have hnm := (name_of_methodNamed Bd.named Bd.method).1
  have hlk := Bd.notSynchronized
  have hret := Bd.returns
  have X0 : Stand p l e ({ frames := 4, cells := 2, slots := 7, locals := 49 } : Room) s m #[(.ref a1), (.ref a2)] below meth c s₁ [] 0 0 := Stand.of_body Bd
  have e0 : s₁.heap = h0 := by rw [← hh, Bd.state]; rfl
  have N0 := Fr.nil n0
  have K0 := Keep.refl h0 []
  refine own_in ({ frames := 4, cells := 2, slots := 7, locals := 49 } : Room).cells ({ frames := 4, cells := 2, slots := 7, locals := 49 } : Room).slots (Q_broken0 Z a1 a2 wL wE kE wD h0 n0) (ef_broken0 m a1 a2) ?_
  show own_G p.tables e below _ (s₁.setTop (mkF m 0 #[.val (.ref a1), .val (.ref a2), .unset, .unset, .unset, .unset] []))
  obtain ⟨T1, h1, X1, e1, E1, A1, D1, -, st1⟩ := newO X0 hx hZ hown (own_w hw 257 rfl) (own_w hw 13 rfl) (own_w hw 14 rfl) e0 (g := (mkF m 0 #[.val (.ref a1), .val (.ref a2), .unset, .unset, .unset, .unset] [])) rfl (hb hby d28_0) (by decide) (by decide)
  obtain ⟨b1, g1⟩ : ∃ z, z = h0.size := ⟨_, rfl⟩
  have ne_a1_b1 : a1 ≠ b1 := Nat.ne_of_lt (Nat.lt_of_lt_of_eq E_1.lt g1.symm)
  have ge_b1 : n0 ≤ b1 := Nat.le_trans Z0 (Nat.le_of_eq g1.symm)
  have sz_b1 : h0.size ≤ b1 := Nat.le_trans K0.1 (Nat.le_of_eq g1.symm)
  rw [← g1] at A1 D1 st1
  have K1 := K0.ext E1
  have O1 := O0.ext E1
  have F1_modCount : Fld Z h1 b1 "java/util/AbstractList" "modCount" "I" (.int (0 : Int32)) := D1 (Or.inl (own_w hw 34 rfl)) (ty := .int) (by decide)
  have F1_elementData : Fld Z h1 b1 "java/util/ArrayList" "elementData" "[Ljava/lang/Object;" .null := D1 (Or.inl (own_w hw 37 rfl)) (ty := (.array (.object "java/lang/Object"))) (by decide)
  have F1_size : Fld Z h1 b1 "java/util/ArrayList" "size" "I" (.int (0 : Int32)) := D1 (Or.inl (own_w hw 75 rfl)) (ty := .int) (by decide)
  refine own_st st1 ?_
  show own_G p.tables e below _ (T1.setTop (mkF m 3 #[.val (.ref a1), .val (.ref a2), .unset, .unset, .unset, .unset] [(.ref b1)]))
  refine own_st (fun _ kS => XS.dup X1.here hx rfl (hb hby d28_3) rfl rfl kS) ?_
  show own_G p.tables e below _ (T1.setTop (mkF m 4 #[.val (.ref a1), .val (.ref a2), .unset, .unset, .unset, .unset] [(.ref b1), (.ref b1)]))
  obtain ⟨_, _, ⟨T2, L2, k2, n2⟩, -, X2, ⟨Lc2, hQ2, l2, y2, z2⟩, st2⟩ := X1.specialBack hx (y := (⟨"java/util/ArrayList", "<init>", "()V"⟩ : MethodName)) rfl hown (mvT hZ (own_w hw 258 rfl)) (mvT hZ (own_w hw 16 rfl)) (mvT hZ (own_w hw 17 rfl)) (by decide) (backOf (W := 1) (rm_arlInit l Z a0 hw [] b1 wD h1 n0 (Nat.le_trans Z0 E1.1) O1 A1 ge_b1 F1_modCount F1_size F1_elementData S_D) hZ (own_w hw 17 rfl) (own_w hw 14 rfl) (by decide) (by decide)) (g := (mkF m 4 #[.val (.ref a1), .val (.ref a2), .unset, .unset, .unset, .unset] [(.ref b1), (.ref b1)])) rfl (by rw [hml]; rfl) (Steps.refl _) (a := b1) (argsL := []) (rest := [(.ref b1)]) (lenOf own_pd0 rfl) rfl (by show 2 * 0 + _ ≤ _; exact Nat.le_of_eq rfl) (hb hby d28_4) (fun _ _ => ⟨rfl, e1, (by decide : 1 + 0 ≤ _), (by decide : 3 + 0 ≤ _)⟩)
  dsimp only [Pt.U, Pt.locs, Pt.cells, Pt.slots] at X2 l2 y2 z2 st2 hQ2
  subst l2 y2 z2
  obtain ⟨rfl, Nq2, Kc2, P2_0, P2_1, P2_2⟩ := hQ2
  have N2 := Fr.app N0 Nq2
  have K2 := K1.trans Kc2 (allS (Or.inr sz_b1) all0)
  have O2 := O1.keep Kc2 (allS ge_b1 all0)
  refine own_tr st2 ?_
  show own_G p.tables e below _ (T2.setTop (mkF m 7 #[.val (.ref a1), .val (.ref a2), .unset, .unset, .unset, .unset] [(.ref b1)]))
  refine own_st (fun _ kS => XS.astoreN X2.here hx rfl (hb hby d28_7) rfl rfl (l' := #[.val (.ref a1), .val (.ref a2), .val (.ref b1), .unset, .unset, .unset]) rfl kS) ?_
  show own_G p.tables e below _ (T2.setTop (mkF m 8 #[.val (.ref a1), .val (.ref a2), .val (.ref b1), .unset, .unset, .unset] []))
  refine own_st (fun _ kS => XS.aconstNull X2.here hx rfl (hb hby d28_8) kS) ?_
  show own_G p.tables e below _ (T2.setTop (mkF m 9 #[.val (.ref a1), .val (.ref a2), .val (.ref b1), .unset, .unset, .unset] [.null]))
  refine own_st (fun _ kS => XS.astoreN X2.here hx rfl (hb hby d28_9) rfl rfl (l' := #[.val (.ref a1), .val (.ref a2), .val (.ref b1), .val .null, .unset, .unset]) rfl kS) ?_
  show own_G p.tables e below _ (T2.setTop (mkF m 10 #[.val (.ref a1), .val (.ref a2), .val (.ref b1), .val .null, .unset, .unset] []))
  refine own_st (fun _ kS => XS.aloadN X2.here hx rfl (hb hby d28_10) rfl rfl kS) ?_
  show own_G p.tables e below _ (T2.setTop (mkF m 11 #[.val (.ref a1), .val (.ref a2), .val (.ref b1), .val .null, .unset, .unset] [(.ref a1)]))
  obtain ⟨T3, X3, e3, st3⟩ := getF X2 hx hZ hown (host := "") (Or.inl (own_w hw 99 rfl)) Via.refl rfl ((Fld.ext E1 F_f).keep Kc2 (ninS ne_a1_b1 nin0)) (g := (mkF m 11 #[.val (.ref a1), .val (.ref a2), .val (.ref b1), .val .null, .unset, .unset] [(.ref a1)])) rfl rfl (hb hby d28_11)
  refine own_st st3 ?_
  show own_G p.tables e below _ (T3.setTop (mkF m 14 #[.val (.ref a1), .val (.ref a2), .val (.ref b1), .val .null, .unset, .unset] [(.ref wL)]))
  obtain ⟨cq4, kq4, q4a, q4b, q4c⟩ := isOf hZ e3 (Exa.ext O2.2 E_L)
  obtain ⟨_, _, ⟨T4, L4, k4, n4⟩, -, X4, ⟨Lc4, hQ4, l4, y4, z4⟩, st4⟩ := X3.interfaceBack hx (xi := (⟨"java/util/List", "iterator", "()Ljava/util/Iterator;"⟩ : MethodName)) (y := (⟨"java/util/ImmutableCollections$AbstractImmutableList", "iterator", "()Ljava/util/Iterator;"⟩ : MethodName)) hown (mvT hZ (own_w hw 259 rfl)) (mvT hZ (own_w hw 149 rfl)) (mvT hZ (own_w hw 150 rfl)) (mvT hZ (own_w hw 151 rfl)) (mvT hZ (own_w hw 152 rfl)) (mvT hZ (own_w hw 153 rfl)) (mvT hZ (own_w hw 154 rfl)) (mvT hZ (own_w hw 86 rfl)) (by decide) (backOf (W := 0) (rm_itL l Z a0 hw [] wL wE kE T2.heap n0 (Nat.le_trans (Nat.le_trans Z0 E1.1) Kc2.1) O2 E_L F_el R_E) hZ (own_w hw 156 rfl) (own_w hw 155 rfl) (by decide) (by decide)) q4a q4b q4c (g := (mkF m 14 #[.val (.ref a1), .val (.ref a2), .val (.ref b1), .val .null, .unset, .unset] [(.ref wL)])) rfl (by rw [hml]; rfl) (Steps.refl _) (argsL := []) (rest := []) (lenOf own_pd8 rfl) rfl (by show 2 * 0 + _ ≤ _; exact Nat.le_of_eq rfl) (hb hby d28_14) (fun _ _ => ⟨rfl, e3, (by decide : 1 + 1 ≤ _), (by decide : 3 + 4 ≤ _)⟩)
  dsimp only [Pt.U, Pt.locs, Pt.cells, Pt.slots] at X4 l4 y4 z4 st4 hQ4
  subst l4 y4 z4
  obtain ⟨b_4, rfl, Nq4, Kc4, P4_0, P4_1, P4_2, P4_3⟩ := hQ4
  have N4 := Fr.app N2 Nq4
  have ne_a1_b_4 : a1 ≠ b_4 := Nat.ne_of_lt (Nat.lt_of_lt_of_le ((Exa.ext E1 E_1).keep Kc2).lt P4_0)
  have ne_b1_b_4 : b1 ≠ b_4 := Nat.ne_of_lt (Nat.lt_of_lt_of_le P2_0.lt P4_0)
  have ge_b_4 : n0 ≤ b_4 := Nat.le_trans (Nat.le_trans (Nat.le_trans Z0 E1.1) Kc2.1) P4_0
  have sz_b_4 : h0.size ≤ b_4 := Nat.le_trans K2.1 P4_0
  have K4 := K2.trans Kc4 all0
  have O4 := O2.keep Kc4 all0
  refine own_tr st4 ?_
  show own_G p.tables e below _ (T4.setTop (mkF m 19 #[.val (.ref a1), .val (.ref a2), .val (.ref b1), .val .null, .unset, .unset] [(.ref b_4)]))
  refine own_st (fun _ kS => XS.astore X4.here hx rfl (hb hby d28_19) rfl rfl (l' := #[.val (.ref a1), .val (.ref a2), .val (.ref b1), .val .null, .val (.ref b_4), .unset]) rfl kS) ?_
  show own_G p.tables e below _ (T4.setTop (mkF m 21 #[.val (.ref a1), .val (.ref a2), .val (.ref b1), .val .null, .val (.ref b_4), .unset] []))
  refine own_st (fun _ kS => XS.aload X4.here hx rfl (hb hby d28_21) rfl rfl kS) ?_
  show own_G p.tables e below _ (T4.setTop (mkF m 23 #[.val (.ref a1), .val (.ref a2), .val (.ref b1), .val .null, .val (.ref b_4), .unset] [(.ref b_4)]))
  obtain ⟨cq5, kq5, q5a, q5b, q5c⟩ := isOf hZ rfl P4_1
  obtain ⟨_, _, ⟨T5, L5, k5, n5⟩, -, X5, ⟨Lc5, hQ5, l5, y5, z5⟩, st5⟩ := X4.interfaceBack hx (xi := (⟨"java/util/Iterator", "hasNext", "()Z"⟩ : MethodName)) (y := (⟨"java/util/ImmutableCollections$ListItr", "hasNext", "()Z"⟩ : MethodName)) hown (mvT hZ (own_w hw 260 rfl)) (mvT hZ (own_w hw 183 rfl)) (mvT hZ (own_w hw 184 rfl)) (mvT hZ (own_w hw 185 rfl)) (mvT hZ (own_w hw 186 rfl)) (mvT hZ (own_w hw 187 rfl)) (mvT hZ (own_w hw 188 rfl)) (mvT hZ (own_w hw 189 rfl)) (by decide) (backOf (W := 0) (rm_hnL l Z a0 hw [] b_4 T4.heap n0 (Nat.le_trans (Nat.le_trans (Nat.le_trans Z0 E1.1) Kc2.1) Kc4.1)  P4_2 P4_3) hZ (own_w hw 190 rfl) (own_w hw 159 rfl) (by decide) (by decide)) q5a q5b q5c (g := (mkF m 23 #[.val (.ref a1), .val (.ref a2), .val (.ref b1), .val .null, .val (.ref b_4), .unset] [(.ref b_4)])) rfl (by rw [hml]; rfl) (Steps.refl _) (argsL := []) (rest := []) (lenOf own_pd1 rfl) rfl (by show 2 * 0 + _ ≤ _; exact Nat.le_of_eq rfl) (hb hby d28_23) (fun _ _ => ⟨rfl, rfl, (by decide : 2 + 0 ≤ _), (by decide : 7 + 0 ≤ _)⟩)
  dsimp only [Pt.U, Pt.locs, Pt.cells, Pt.slots] at X5 l5 y5 z5 st5 hQ5
  subst l5 y5 z5
  obtain ⟨rfl, Nq5, eq5⟩ := hQ5
  have N5 := Fr.app N4 Nq5
  refine own_tr st5 ?_
  show own_G p.tables e below _ (T5.setTop (mkF m 28 #[.val (.ref a1), .val (.ref a2), .val (.ref b1), .val .null, .val (.ref b_4), .unset] [(.int (0 : Int32))]))
  refine own_st (fun _ kS => XS.ifYes X5.here hx rfl (pc0 := 28) (pc' := 85) rfl (hb hby d28_28) rfl ((if0 _ _).trans (teq (by decide : (0 : Int32) = (0 : Int32))).1) (by decide) (by decide) kS) ?_
  show own_G p.tables e below _ (T5.setTop (mkF m 85 #[.val (.ref a1), .val (.ref a2), .val (.ref b1), .val .null, .val (.ref b_4), .unset] []))
  refine own_st (fun _ kS => XS.aloadN X5.here hx rfl (hb hby d28_85) rfl rfl kS) ?_
  show own_G p.tables e below _ (T5.setTop (mkF m 86 #[.val (.ref a1), .val (.ref a2), .val (.ref b1), .val .null, .val (.ref b_4), .unset] [(.ref b1)]))
  exact own_retA X5 hx hlk hret rfl rfl (hb hby d28_86) (by decide) (by decide) (by rw [eq5]; exact ⟨b1, ⟨rfl, N5, K4, sz_b1, (P2_0.keep Kc4), (P2_2.keep Kc4 nin0), (P2_1.keep Kc4 nin0)⟩⟩)
theorem ef_broken1 (m : MethodId) (x0 : Addr) (x1 : Addr) : entryFrame m #[(.ref x0), (.ref x1)] 6 = mkF m 0 #[.val (.ref x0), .val (.ref x1), .unset, .unset, .unset, .unset] [] := by first | (simp [entryFrame, mkF, argsToLocals, Value.category]; done) | rfl
def Q_broken1 (Z : State) (a1 : Addr) (a2 : Addr) (a3 : Addr) (wL : Addr) (wE : Addr) (kE : ClassId) (wD : Addr) (h0 : Heap) (n0 : Nat) (v : Option Value) (h : Heap) (L : List Loc) : Prop := ∃ b : Addr, v = some (.ref b) ∧ Fr n0 L ∧ Keep h0 h [] ∧ h0.size ≤ b ∧ Exa Z h b "java/util/ArrayList" ∧ Fld Z h b "java/util/ArrayList" "size" "I" (.int (0 : Int32)) ∧ Fld Z h b "java/util/AbstractList" "modCount" "I" (.int (0 : Int32))
set_option maxRecDepth 65536 in
set_option maxHeartbeats 40000000 in
theorem rm_broken1 (l : Launch) (Z : State) (a0 : Array Value) (hw : ∀ d ∈ tables_1, d.before a0 Z = true) (ws : List Jvm.Cond) (a1 : Addr) (a2 : Addr) (a3 : Addr) (wL : Addr) (wE : Addr) (kE : ClassId) (wD : Addr) (h0 : Heap) (n0 : Nat) (Z0 : n0 ≤ h0.size) (O0 : Old Z n0 h0) (E_1 : Exa Z h0 a1 "com/example/cartouche/cartouche/checking/Verdict") (F_f : Fld Z h0 a1 "com/example/cartouche/cartouche/checking/Verdict" "failures" "Ljava/util/List;" (.ref a3)) (E_3 : Exa Z h0 a3 "java/util/ArrayList") (F_s3 : Fld Z h0 a3 "java/util/ArrayList" "size" "I" (.int (0 : Int32))) (F_m3 : Fld Z h0 a3 "java/util/AbstractList" "modCount" "I" (.int (0 : Int32))) (E_L : Exa Z Z.heap wL "java/util/ImmutableCollections$ListN") (F_el : Fld Z Z.heap wL "java/util/ImmutableCollections$ListN" "elements" "[Ljava/lang/Object;" (.ref wE)) (R_E : Arv Z Z.heap wE kE (.object "java/lang/Object") (0 : Int32) [] .null) (S_D : Sta Z Z.heap "java/util/ArrayList" "DEFAULTCAPACITY_EMPTY_ELEMENTDATA" "[Ljava/lang/Object;" (.ref wD)) :
    MetFree l (⟨"com/example/cartouche/cartouche/checking/Verdict", "broken", "(Lcom/example/cartouche/cartouche/checking/Level;)Ljava/util/List;"⟩ : MethodName) (head1 (Jvm.Cond.code (⟨"com/example/cartouche/cartouche/checking/Verdict", "broken", "(Lcom/example/cartouche/cartouche/checking/Level;)Ljava/util/List;"⟩ : MethodName) prog_34_method_7_code 6 (some (.object "java/util/List")) :: ws) ({ frames := 4, cells := 2, slots := 7, locals := 49 } : Room)) (fun a U => a = #[(.ref a1), (.ref a2)] ∧ Z.Warmed39 U.vm ∧ U.heap = h0) (fun _ _ _ _ _ => True) (fun _ U o U' => ∃ v L, o = .returned v ∧ Q_broken1 Z a1 a2 a3 wL wE kE wD h0 n0 v U'.heap L ∧ FrameEnd U o U' L ({ frames := 4, cells := 2, slots := 7, locals := 49 } : Room).cells ({ frames := 4, cells := 2, slots := 7, locals := 49 } : Room).slots) := by
  refine MetFree.of_bodySF (plainFor_of_name pn_28) hisR ?_
  intro p e s m args below meth c s₁ Bd hml0 hP hK
  obtain ⟨rfl, hZ, hh⟩ := hP
  have hx := Bd.exec
  have hby := Bd.bytes
  have hml : c.maxLocals = 6 := hml0
  have hown : s.vm.findClass "com/example/cartouche/cartouche/checking/Verdict" = some m.cls := findClass_of_methodNamed Bd.named
  have hnm := (name_of_methodNamed Bd.named Bd.method).1
  have hlk := Bd.notSynchronized
  have hret := Bd.returns
  have X0 : Stand p l e ({ frames := 4, cells := 2, slots := 7, locals := 49 } : Room) s m #[(.ref a1), (.ref a2)] below meth c s₁ [] 0 0 := Stand.of_body Bd
  have e0 : s₁.heap = h0 := by rw [← hh, Bd.state]; rfl
  have N0 := Fr.nil n0
  have K0 := Keep.refl h0 []
  refine own_in ({ frames := 4, cells := 2, slots := 7, locals := 49 } : Room).cells ({ frames := 4, cells := 2, slots := 7, locals := 49 } : Room).slots (Q_broken1 Z a1 a2 a3 wL wE kE wD h0 n0) (ef_broken1 m a1 a2) ?_
  show own_G p.tables e below _ (s₁.setTop (mkF m 0 #[.val (.ref a1), .val (.ref a2), .unset, .unset, .unset, .unset] []))
  obtain ⟨T1, h1, X1, e1, E1, A1, D1, -, st1⟩ := newO X0 hx hZ hown (own_w hw 257 rfl) (own_w hw 13 rfl) (own_w hw 14 rfl) e0 (g := (mkF m 0 #[.val (.ref a1), .val (.ref a2), .unset, .unset, .unset, .unset] [])) rfl (hb hby d28_0) (by decide) (by decide)
  obtain ⟨b1, g1⟩ : ∃ z, z = h0.size := ⟨_, rfl⟩
  have ne_a1_b1 : a1 ≠ b1 := Nat.ne_of_lt (Nat.lt_of_lt_of_eq E_1.lt g1.symm)
  have ne_a3_b1 : a3 ≠ b1 := Nat.ne_of_lt (Nat.lt_of_lt_of_eq E_3.lt g1.symm)
  have ge_b1 : n0 ≤ b1 := Nat.le_trans Z0 (Nat.le_of_eq g1.symm)
  have sz_b1 : h0.size ≤ b1 := Nat.le_trans K0.1 (Nat.le_of_eq g1.symm)
  rw [← g1] at A1 D1 st1
  have K1 := K0.ext E1
  have O1 := O0.ext E1
  have F1_modCount : Fld Z h1 b1 "java/util/AbstractList" "modCount" "I" (.int (0 : Int32)) := D1 (Or.inl (own_w hw 34 rfl)) (ty := .int) (by decide)
  have F1_elementData : Fld Z h1 b1 "java/util/ArrayList" "elementData" "[Ljava/lang/Object;" .null := D1 (Or.inl (own_w hw 37 rfl)) (ty := (.array (.object "java/lang/Object"))) (by decide)
  have F1_size : Fld Z h1 b1 "java/util/ArrayList" "size" "I" (.int (0 : Int32)) := D1 (Or.inl (own_w hw 75 rfl)) (ty := .int) (by decide)
  refine own_st st1 ?_
  show own_G p.tables e below _ (T1.setTop (mkF m 3 #[.val (.ref a1), .val (.ref a2), .unset, .unset, .unset, .unset] [(.ref b1)]))
  refine own_st (fun _ kS => XS.dup X1.here hx rfl (hb hby d28_3) rfl rfl kS) ?_
  show own_G p.tables e below _ (T1.setTop (mkF m 4 #[.val (.ref a1), .val (.ref a2), .unset, .unset, .unset, .unset] [(.ref b1), (.ref b1)]))
  obtain ⟨_, _, ⟨T2, L2, k2, n2⟩, -, X2, ⟨Lc2, hQ2, l2, y2, z2⟩, st2⟩ := X1.specialBack hx (y := (⟨"java/util/ArrayList", "<init>", "()V"⟩ : MethodName)) rfl hown (mvT hZ (own_w hw 258 rfl)) (mvT hZ (own_w hw 16 rfl)) (mvT hZ (own_w hw 17 rfl)) (by decide) (backOf (W := 1) (rm_arlInit l Z a0 hw [] b1 wD h1 n0 (Nat.le_trans Z0 E1.1) O1 A1 ge_b1 F1_modCount F1_size F1_elementData S_D) hZ (own_w hw 17 rfl) (own_w hw 14 rfl) (by decide) (by decide)) (g := (mkF m 4 #[.val (.ref a1), .val (.ref a2), .unset, .unset, .unset, .unset] [(.ref b1), (.ref b1)])) rfl (by rw [hml]; rfl) (Steps.refl _) (a := b1) (argsL := []) (rest := [(.ref b1)]) (lenOf own_pd0 rfl) rfl (by show 2 * 0 + _ ≤ _; exact Nat.le_of_eq rfl) (hb hby d28_4) (fun _ _ => ⟨rfl, e1, (by decide : 1 + 0 ≤ _), (by decide : 3 + 0 ≤ _)⟩)
  dsimp only [Pt.U, Pt.locs, Pt.cells, Pt.slots] at X2 l2 y2 z2 st2 hQ2
  subst l2 y2 z2
  obtain ⟨rfl, Nq2, Kc2, P2_0, P2_1, P2_2⟩ := hQ2
  have N2 := Fr.app N0 Nq2
  have K2 := K1.trans Kc2 (allS (Or.inr sz_b1) all0)
  have O2 := O1.keep Kc2 (allS ge_b1 all0)
  refine own_tr st2 ?_
  show own_G p.tables e below _ (T2.setTop (mkF m 7 #[.val (.ref a1), .val (.ref a2), .unset, .unset, .unset, .unset] [(.ref b1)]))
  refine own_st (fun _ kS => XS.astoreN X2.here hx rfl (hb hby d28_7) rfl rfl (l' := #[.val (.ref a1), .val (.ref a2), .val (.ref b1), .unset, .unset, .unset]) rfl kS) ?_
  show own_G p.tables e below _ (T2.setTop (mkF m 8 #[.val (.ref a1), .val (.ref a2), .val (.ref b1), .unset, .unset, .unset] []))
  refine own_st (fun _ kS => XS.aconstNull X2.here hx rfl (hb hby d28_8) kS) ?_
  show own_G p.tables e below _ (T2.setTop (mkF m 9 #[.val (.ref a1), .val (.ref a2), .val (.ref b1), .unset, .unset, .unset] [.null]))
  refine own_st (fun _ kS => XS.astoreN X2.here hx rfl (hb hby d28_9) rfl rfl (l' := #[.val (.ref a1), .val (.ref a2), .val (.ref b1), .val .null, .unset, .unset]) rfl kS) ?_
  show own_G p.tables e below _ (T2.setTop (mkF m 10 #[.val (.ref a1), .val (.ref a2), .val (.ref b1), .val .null, .unset, .unset] []))
  refine own_st (fun _ kS => XS.aloadN X2.here hx rfl (hb hby d28_10) rfl rfl kS) ?_
  show own_G p.tables e below _ (T2.setTop (mkF m 11 #[.val (.ref a1), .val (.ref a2), .val (.ref b1), .val .null, .unset, .unset] [(.ref a1)]))
  obtain ⟨T3, X3, e3, st3⟩ := getF X2 hx hZ hown (host := "") (Or.inl (own_w hw 99 rfl)) Via.refl rfl ((Fld.ext E1 F_f).keep Kc2 (ninS ne_a1_b1 nin0)) (g := (mkF m 11 #[.val (.ref a1), .val (.ref a2), .val (.ref b1), .val .null, .unset, .unset] [(.ref a1)])) rfl rfl (hb hby d28_11)
  refine own_st st3 ?_
  show own_G p.tables e below _ (T3.setTop (mkF m 14 #[.val (.ref a1), .val (.ref a2), .val (.ref b1), .val .null, .unset, .unset] [(.ref a3)]))
  obtain ⟨cq4, kq4, q4a, q4b, q4c⟩ := isOf hZ e3 ((Exa.ext E1 E_3).keep Kc2)
  obtain ⟨_, _, ⟨T4, L4, k4, n4⟩, -, X4, ⟨Lc4, hQ4, l4, y4, z4⟩, st4⟩ := X3.interfaceBack hx (xi := (⟨"java/util/List", "iterator", "()Ljava/util/Iterator;"⟩ : MethodName)) (y := (⟨"java/util/ArrayList", "iterator", "()Ljava/util/Iterator;"⟩ : MethodName)) hown (mvT hZ (own_w hw 259 rfl)) (mvT hZ (own_w hw 149 rfl)) (mvT hZ (own_w hw 150 rfl)) (mvT hZ (own_w hw 192 rfl)) (mvT hZ (own_w hw 193 rfl)) (mvT hZ (own_w hw 194 rfl)) (mvT hZ (own_w hw 195 rfl)) (mvT hZ (own_w hw 196 rfl)) (by decide) (backOf (W := 0) (rm_itA l Z a0 hw [] a3 T2.heap n0 (Nat.le_trans (Nat.le_trans Z0 E1.1) Kc2.1)  ((Exa.ext E1 E_3).keep Kc2) ((Fld.ext E1 F_m3).keep Kc2 (ninS ne_a3_b1 nin0))) hZ (own_w hw 197 rfl) (own_w hw 14 rfl) (by decide) (by decide)) q4a q4b q4c (g := (mkF m 14 #[.val (.ref a1), .val (.ref a2), .val (.ref b1), .val .null, .unset, .unset] [(.ref a3)])) rfl (by rw [hml]; rfl) (Steps.refl _) (argsL := []) (rest := []) (lenOf own_pd8 rfl) rfl (by show 2 * 0 + _ ≤ _; exact Nat.le_of_eq rfl) (hb hby d28_14) (fun _ _ => ⟨rfl, e3, (by decide : 1 + 1 ≤ _), (by decide : 3 + 4 ≤ _)⟩)
  dsimp only [Pt.U, Pt.locs, Pt.cells, Pt.slots] at X4 l4 y4 z4 st4 hQ4
  subst l4 y4 z4
  obtain ⟨b_4, rfl, Nq4, Kc4, P4_0, P4_1, P4_2, P4_3⟩ := hQ4
  have N4 := Fr.app N2 Nq4
  have ne_a1_b_4 : a1 ≠ b_4 := Nat.ne_of_lt (Nat.lt_of_lt_of_le ((Exa.ext E1 E_1).keep Kc2).lt P4_0)
  have ne_a3_b_4 : a3 ≠ b_4 := Nat.ne_of_lt (Nat.lt_of_lt_of_le ((Exa.ext E1 E_3).keep Kc2).lt P4_0)
  have ne_b1_b_4 : b1 ≠ b_4 := Nat.ne_of_lt (Nat.lt_of_lt_of_le P2_0.lt P4_0)
  have ge_b_4 : n0 ≤ b_4 := Nat.le_trans (Nat.le_trans (Nat.le_trans Z0 E1.1) Kc2.1) P4_0
  have sz_b_4 : h0.size ≤ b_4 := Nat.le_trans K2.1 P4_0
  have K4 := K2.trans Kc4 all0
  have O4 := O2.keep Kc4 all0
  refine own_tr st4 ?_
  show own_G p.tables e below _ (T4.setTop (mkF m 19 #[.val (.ref a1), .val (.ref a2), .val (.ref b1), .val .null, .unset, .unset] [(.ref b_4)]))
  refine own_st (fun _ kS => XS.astore X4.here hx rfl (hb hby d28_19) rfl rfl (l' := #[.val (.ref a1), .val (.ref a2), .val (.ref b1), .val .null, .val (.ref b_4), .unset]) rfl kS) ?_
  show own_G p.tables e below _ (T4.setTop (mkF m 21 #[.val (.ref a1), .val (.ref a2), .val (.ref b1), .val .null, .val (.ref b_4), .unset] []))
  refine own_st (fun _ kS => XS.aload X4.here hx rfl (hb hby d28_21) rfl rfl kS) ?_
  show own_G p.tables e below _ (T4.setTop (mkF m 23 #[.val (.ref a1), .val (.ref a2), .val (.ref b1), .val .null, .val (.ref b_4), .unset] [(.ref b_4)]))
  obtain ⟨cq5, kq5, q5a, q5b, q5c⟩ := isOf hZ rfl P4_1
  obtain ⟨_, _, ⟨T5, L5, k5, n5⟩, -, X5, ⟨Lc5, hQ5, l5, y5, z5⟩, st5⟩ := X4.interfaceBack hx (xi := (⟨"java/util/Iterator", "hasNext", "()Z"⟩ : MethodName)) (y := (⟨"java/util/ArrayList$Itr", "hasNext", "()Z"⟩ : MethodName)) hown (mvT hZ (own_w hw 260 rfl)) (mvT hZ (own_w hw 183 rfl)) (mvT hZ (own_w hw 184 rfl)) (mvT hZ (own_w hw 215 rfl)) (mvT hZ (own_w hw 216 rfl)) (mvT hZ (own_w hw 217 rfl)) (mvT hZ (own_w hw 218 rfl)) (mvT hZ (own_w hw 219 rfl)) (by decide) (backOf (W := 0) (rm_hnA l Z a0 hw [] b_4 a3 T4.heap n0 (Nat.le_trans (Nat.le_trans (Nat.le_trans Z0 E1.1) Kc2.1) Kc4.1)  P4_2 P4_3 (((Fld.ext E1 F_s3).keep Kc2 (ninS ne_a3_b1 nin0)).keep Kc4 nin0)) hZ (own_w hw 220 rfl) (own_w hw 200 rfl) (by decide) (by decide)) q5a q5b q5c (g := (mkF m 23 #[.val (.ref a1), .val (.ref a2), .val (.ref b1), .val .null, .val (.ref b_4), .unset] [(.ref b_4)])) rfl (by rw [hml]; rfl) (Steps.refl _) (argsL := []) (rest := []) (lenOf own_pd1 rfl) rfl (by show 2 * 0 + _ ≤ _; exact Nat.le_of_eq rfl) (hb hby d28_23) (fun _ _ => ⟨rfl, rfl, (by decide : 2 + 0 ≤ _), (by decide : 7 + 0 ≤ _)⟩)
  dsimp only [Pt.U, Pt.locs, Pt.cells, Pt.slots] at X5 l5 y5 z5 st5 hQ5
  subst l5 y5 z5
  obtain ⟨rfl, Nq5, eq5⟩ := hQ5
  have N5 := Fr.app N4 Nq5
  refine own_tr st5 ?_
  show own_G p.tables e below _ (T5.setTop (mkF m 28 #[.val (.ref a1), .val (.ref a2), .val (.ref b1), .val .null, .val (.ref b_4), .unset] [(.int (0 : Int32))]))
  refine own_st (fun _ kS => XS.ifYes X5.here hx rfl (pc0 := 28) (pc' := 85) rfl (hb hby d28_28) rfl ((if0 _ _).trans (teq (by decide : (0 : Int32) = (0 : Int32))).1) (by decide) (by decide) kS) ?_
  show own_G p.tables e below _ (T5.setTop (mkF m 85 #[.val (.ref a1), .val (.ref a2), .val (.ref b1), .val .null, .val (.ref b_4), .unset] []))
  refine own_st (fun _ kS => XS.aloadN X5.here hx rfl (hb hby d28_85) rfl rfl kS) ?_
  show own_G p.tables e below _ (T5.setTop (mkF m 86 #[.val (.ref a1), .val (.ref a2), .val (.ref b1), .val .null, .val (.ref b_4), .unset] [(.ref b1)]))
  exact own_retA X5 hx hlk hret rfl rfl (hb hby d28_86) (by decide) (by decide) (by rw [eq5]; exact ⟨b1, ⟨rfl, N5, K4, sz_b1, (P2_0.keep Kc4), (P2_2.keep Kc4 nin0), (P2_1.keep Kc4 nin0)⟩⟩)
theorem d27_0 : decode prog_34_method_4_code 0 = .ok (.aload_n 0, 1) := by decide +kernel
theorem d27_1 : decode prog_34_method_4_code 1 = .ok (.getstatic 23, 3) := by decide +kernel
theorem d27_4 : decode prog_34_method_4_code 4 = .ok (.invokevirtual 29, 3) := by decide +kernel
theorem d27_7 : decode prog_34_method_4_code 7 = .ok (.areturn, 1) := by decide +kernel
theorem pn_27 : plainName "com/example/cartouche/cartouche/checking/Verdict" = true := by first | (simp [plainName, overriddenIn]; done) | decide +kernel
theorem own_pd9 : parseMethodDescriptor "(Lcom/example/cartouche/cartouche/checking/Level;)Ljava/util/List;" = some ⟨[(.object "com/example/cartouche/cartouche/checking/Level")], some (.object "java/util/List")⟩ := by decide +kernel
theorem ef_failed0 (m : MethodId) (x0 : Addr) : entryFrame m #[(.ref x0)] 1 = mkF m 0 #[.val (.ref x0)] [] := by first | (simp [entryFrame, mkF, argsToLocals, Value.category]; done) | rfl
def Q_failed0 (Z : State) (a1 : Addr) (wL : Addr) (wE : Addr) (kE : ClassId) (wD : Addr) (w_REQUIRED : Addr) (h0 : Heap) (n0 : Nat) (v : Option Value) (h : Heap) (L : List Loc) : Prop := ∃ b : Addr, v = some (.ref b) ∧ Fr n0 L ∧ Keep h0 h [] ∧ h0.size ≤ b ∧ Exa Z h b "java/util/ArrayList" ∧ Fld Z h b "java/util/ArrayList" "size" "I" (.int (0 : Int32)) ∧ Fld Z h b "java/util/AbstractList" "modCount" "I" (.int (0 : Int32))
set_option maxRecDepth 65536 in
set_option maxHeartbeats 40000000 in
theorem rm_failed0 (l : Launch) (Z : State) (a0 : Array Value) (hw : ∀ d ∈ tables_1, d.before a0 Z = true) (ws : List Jvm.Cond) (a1 : Addr) (wL : Addr) (wE : Addr) (kE : ClassId) (wD : Addr) (w_REQUIRED : Addr) (h0 : Heap) (n0 : Nat) (Z0 : n0 ≤ h0.size) (O0 : Old Z n0 h0) (E_1 : Exa Z h0 a1 "com/example/cartouche/cartouche/checking/Verdict") (F_f : Fld Z h0 a1 "com/example/cartouche/cartouche/checking/Verdict" "failures" "Ljava/util/List;" (.ref wL)) (E_L : Exa Z Z.heap wL "java/util/ImmutableCollections$ListN") (F_el : Fld Z Z.heap wL "java/util/ImmutableCollections$ListN" "elements" "[Ljava/lang/Object;" (.ref wE)) (R_E : Arv Z Z.heap wE kE (.object "java/lang/Object") (0 : Int32) [] .null) (S_D : Sta Z Z.heap "java/util/ArrayList" "DEFAULTCAPACITY_EMPTY_ELEMENTDATA" "[Ljava/lang/Object;" (.ref wD)) (S_REQUIRED : Sta Z Z.heap "com/example/cartouche/cartouche/checking/Level" "REQUIRED" "Lcom/example/cartouche/cartouche/checking/Level;" (.ref w_REQUIRED)) :
    MetFree l (⟨"com/example/cartouche/cartouche/checking/Verdict", "failed", "()Ljava/util/List;"⟩ : MethodName) (head1 (Jvm.Cond.code (⟨"com/example/cartouche/cartouche/checking/Verdict", "failed", "()Ljava/util/List;"⟩ : MethodName) prog_34_method_4_code 1 (some (.object "java/util/List")) :: ws) ({ frames := 5, cells := 2, slots := 7, locals := 66 } : Room)) (fun a U => a = #[(.ref a1)] ∧ Z.Warmed39 U.vm ∧ U.heap = h0) (fun _ _ _ _ _ => True) (fun _ U o U' => ∃ v L, o = .returned v ∧ Q_failed0 Z a1 wL wE kE wD w_REQUIRED h0 n0 v U'.heap L ∧ FrameEnd U o U' L ({ frames := 5, cells := 2, slots := 7, locals := 66 } : Room).cells ({ frames := 5, cells := 2, slots := 7, locals := 66 } : Room).slots) := by
  refine MetFree.of_bodySF (plainFor_of_name pn_27) hisR ?_
  intro p e s m args below meth c s₁ Bd hml0 hP hK
  obtain ⟨rfl, hZ, hh⟩ := hP
  have hx := Bd.exec
  have hby := Bd.bytes
  have hml : c.maxLocals = 1 := hml0
  have hown : s.vm.findClass "com/example/cartouche/cartouche/checking/Verdict" = some m.cls := findClass_of_methodNamed Bd.named
  have hnm := (name_of_methodNamed Bd.named Bd.method).1
  have hlk := Bd.notSynchronized
  have hret := Bd.returns
  have X0 : Stand p l e ({ frames := 5, cells := 2, slots := 7, locals := 66 } : Room) s m #[(.ref a1)] below meth c s₁ [] 0 0 := Stand.of_body Bd
  have e0 : s₁.heap = h0 := by rw [← hh, Bd.state]; rfl
  have N0 := Fr.nil n0
  have K0 := Keep.refl h0 []
  refine own_in ({ frames := 5, cells := 2, slots := 7, locals := 66 } : Room).cells ({ frames := 5, cells := 2, slots := 7, locals := 66 } : Room).slots (Q_failed0 Z a1 wL wE kE wD w_REQUIRED h0 n0) (ef_failed0 m a1) ?_
  show own_G p.tables e below _ (s₁.setTop (mkF m 0 #[.val (.ref a1)] []))
  refine own_st (fun _ kS => XS.aloadN X0.here hx rfl (hb hby d27_0) rfl rfl kS) ?_
  show own_G p.tables e below _ (s₁.setTop (mkF m 1 #[.val (.ref a1)] [(.ref a1)]))
  obtain ⟨T1, X1, e1, st1⟩ := getS2 X0 hx hZ hown (host := "") (Or.inl (own_w hw 252 rfl)) Via.refl e0 (Sta.ext O0.2 S_REQUIRED) (g := (mkF m 1 #[.val (.ref a1)] [(.ref a1)])) rfl (hb hby d27_1)
  refine own_st st1 ?_
  show own_G p.tables e below _ (T1.setTop (mkF m 4 #[.val (.ref a1)] [(.ref w_REQUIRED), (.ref a1)]))
  obtain ⟨cq2, q2, q2'⟩ := E_1.cell
  obtain ⟨_, _, ⟨T2, L2, k2, n2⟩, -, X2, ⟨Lc2, hQ2, l2, y2, z2⟩, st2⟩ := X1.privateBack hx (y := (⟨"com/example/cartouche/cartouche/checking/Verdict", "broken", "(Lcom/example/cartouche/cartouche/checking/Level;)Ljava/util/List;"⟩ : MethodName)) hown (mvT hZ (own_w hw 253 rfl)) (mvT hZ (own_w hw 254 rfl)) (own_selp (mvT hZ (own_w hw 90 rfl)) (Cond.privateMethod_at (mvP hZ (own_w hw 255 rfl) (args := #[]))) (mvT hZ (own_w hw 254 rfl)) (by decide)) (Cond.privateMethod_at (mvP hZ (own_w hw 255 rfl) (args := #[]))) (mvT hZ (own_w hw 256 rfl)) (by decide) (backOf (W := 0) (rm_broken0 l Z a0 hw [] a1 w_REQUIRED wL wE kE wD h0 n0 Z0 O0 E_1 F_f E_L F_el R_E S_D) hZ (own_w hw 256 rfl) (own_w hw 91 rfl) (by decide) (by decide)) (g := (mkF m 4 #[.val (.ref a1)] [(.ref w_REQUIRED), (.ref a1)])) rfl (by rw [hml]; rfl) (Steps.refl _) (a := a1) (by rw [e1]; exact q2) q2' (argsL := [(.ref w_REQUIRED)]) (rest := []) (lenOf own_pd9 rfl) rfl (by show 2 * 0 + _ ≤ _; exact Nat.le_of_eq rfl) (hb hby d27_4) (fun _ _ => ⟨rfl, e1, (by decide : 0 + 2 ≤ _), (by decide : 0 + 7 ≤ _)⟩)
  dsimp only [Pt.U, Pt.locs, Pt.cells, Pt.slots] at X2 l2 y2 z2 st2 hQ2
  subst l2 y2 z2
  obtain ⟨b_2, rfl, Nq2, Kc2, P2_0, P2_1, P2_2, P2_3⟩ := hQ2
  have N2 := Fr.app N0 Nq2
  have ne_a1_b_2 : a1 ≠ b_2 := Nat.ne_of_lt (Nat.lt_of_lt_of_le E_1.lt P2_0)
  have ge_b_2 : n0 ≤ b_2 := Nat.le_trans Z0 P2_0
  have sz_b_2 : h0.size ≤ b_2 := Nat.le_trans K0.1 P2_0
  have K2 := K0.trans Kc2 all0
  have O2 := O0.keep Kc2 all0
  refine own_tr st2 ?_
  show own_G p.tables e below _ (T2.setTop (mkF m 7 #[.val (.ref a1)] [(.ref b_2)]))
  exact own_retA X2 hx hlk hret rfl rfl (hb hby d27_7) (by decide) (by decide) (show Q_failed0 Z a1 wL wE kE wD w_REQUIRED h0 n0 _ _ _ from ⟨b_2, ⟨rfl, N2, K2, sz_b_2, P2_1, P2_2, P2_3⟩⟩)
theorem ef_failed1 (m : MethodId) (x0 : Addr) : entryFrame m #[(.ref x0)] 1 = mkF m 0 #[.val (.ref x0)] [] := by first | (simp [entryFrame, mkF, argsToLocals, Value.category]; done) | rfl
def Q_failed1 (Z : State) (a1 : Addr) (a3 : Addr) (wL : Addr) (wE : Addr) (kE : ClassId) (wD : Addr) (w_REQUIRED : Addr) (h0 : Heap) (n0 : Nat) (v : Option Value) (h : Heap) (L : List Loc) : Prop := ∃ b : Addr, v = some (.ref b) ∧ Fr n0 L ∧ Keep h0 h [] ∧ h0.size ≤ b ∧ Exa Z h b "java/util/ArrayList" ∧ Fld Z h b "java/util/ArrayList" "size" "I" (.int (0 : Int32)) ∧ Fld Z h b "java/util/AbstractList" "modCount" "I" (.int (0 : Int32))
set_option maxRecDepth 65536 in
set_option maxHeartbeats 40000000 in
theorem rm_failed1 (l : Launch) (Z : State) (a0 : Array Value) (hw : ∀ d ∈ tables_1, d.before a0 Z = true) (ws : List Jvm.Cond) (a1 : Addr) (a3 : Addr) (wL : Addr) (wE : Addr) (kE : ClassId) (wD : Addr) (w_REQUIRED : Addr) (h0 : Heap) (n0 : Nat) (Z0 : n0 ≤ h0.size) (O0 : Old Z n0 h0) (E_1 : Exa Z h0 a1 "com/example/cartouche/cartouche/checking/Verdict") (F_f : Fld Z h0 a1 "com/example/cartouche/cartouche/checking/Verdict" "failures" "Ljava/util/List;" (.ref a3)) (E_3 : Exa Z h0 a3 "java/util/ArrayList") (F_s3 : Fld Z h0 a3 "java/util/ArrayList" "size" "I" (.int (0 : Int32))) (F_m3 : Fld Z h0 a3 "java/util/AbstractList" "modCount" "I" (.int (0 : Int32))) (E_L : Exa Z Z.heap wL "java/util/ImmutableCollections$ListN") (F_el : Fld Z Z.heap wL "java/util/ImmutableCollections$ListN" "elements" "[Ljava/lang/Object;" (.ref wE)) (R_E : Arv Z Z.heap wE kE (.object "java/lang/Object") (0 : Int32) [] .null) (S_D : Sta Z Z.heap "java/util/ArrayList" "DEFAULTCAPACITY_EMPTY_ELEMENTDATA" "[Ljava/lang/Object;" (.ref wD)) (S_REQUIRED : Sta Z Z.heap "com/example/cartouche/cartouche/checking/Level" "REQUIRED" "Lcom/example/cartouche/cartouche/checking/Level;" (.ref w_REQUIRED)) :
    MetFree l (⟨"com/example/cartouche/cartouche/checking/Verdict", "failed", "()Ljava/util/List;"⟩ : MethodName) (head1 (Jvm.Cond.code (⟨"com/example/cartouche/cartouche/checking/Verdict", "failed", "()Ljava/util/List;"⟩ : MethodName) prog_34_method_4_code 1 (some (.object "java/util/List")) :: ws) ({ frames := 5, cells := 2, slots := 7, locals := 66 } : Room)) (fun a U => a = #[(.ref a1)] ∧ Z.Warmed39 U.vm ∧ U.heap = h0) (fun _ _ _ _ _ => True) (fun _ U o U' => ∃ v L, o = .returned v ∧ Q_failed1 Z a1 a3 wL wE kE wD w_REQUIRED h0 n0 v U'.heap L ∧ FrameEnd U o U' L ({ frames := 5, cells := 2, slots := 7, locals := 66 } : Room).cells ({ frames := 5, cells := 2, slots := 7, locals := 66 } : Room).slots) := by
  refine MetFree.of_bodySF (plainFor_of_name pn_27) hisR ?_
  intro p e s m args below meth c s₁ Bd hml0 hP hK
  obtain ⟨rfl, hZ, hh⟩ := hP
  have hx := Bd.exec
  have hby := Bd.bytes
  have hml : c.maxLocals = 1 := hml0
  have hown : s.vm.findClass "com/example/cartouche/cartouche/checking/Verdict" = some m.cls := findClass_of_methodNamed Bd.named
  have hnm := (name_of_methodNamed Bd.named Bd.method).1
  have hlk := Bd.notSynchronized
  have hret := Bd.returns
  have X0 : Stand p l e ({ frames := 5, cells := 2, slots := 7, locals := 66 } : Room) s m #[(.ref a1)] below meth c s₁ [] 0 0 := Stand.of_body Bd
  have e0 : s₁.heap = h0 := by rw [← hh, Bd.state]; rfl
  have N0 := Fr.nil n0
  have K0 := Keep.refl h0 []
  refine own_in ({ frames := 5, cells := 2, slots := 7, locals := 66 } : Room).cells ({ frames := 5, cells := 2, slots := 7, locals := 66 } : Room).slots (Q_failed1 Z a1 a3 wL wE kE wD w_REQUIRED h0 n0) (ef_failed1 m a1) ?_
  show own_G p.tables e below _ (s₁.setTop (mkF m 0 #[.val (.ref a1)] []))
  refine own_st (fun _ kS => XS.aloadN X0.here hx rfl (hb hby d27_0) rfl rfl kS) ?_
  show own_G p.tables e below _ (s₁.setTop (mkF m 1 #[.val (.ref a1)] [(.ref a1)]))
  obtain ⟨T1, X1, e1, st1⟩ := getS2 X0 hx hZ hown (host := "") (Or.inl (own_w hw 252 rfl)) Via.refl e0 (Sta.ext O0.2 S_REQUIRED) (g := (mkF m 1 #[.val (.ref a1)] [(.ref a1)])) rfl (hb hby d27_1)
  refine own_st st1 ?_
  show own_G p.tables e below _ (T1.setTop (mkF m 4 #[.val (.ref a1)] [(.ref w_REQUIRED), (.ref a1)]))
  obtain ⟨cq2, q2, q2'⟩ := E_1.cell
  obtain ⟨_, _, ⟨T2, L2, k2, n2⟩, -, X2, ⟨Lc2, hQ2, l2, y2, z2⟩, st2⟩ := X1.privateBack hx (y := (⟨"com/example/cartouche/cartouche/checking/Verdict", "broken", "(Lcom/example/cartouche/cartouche/checking/Level;)Ljava/util/List;"⟩ : MethodName)) hown (mvT hZ (own_w hw 253 rfl)) (mvT hZ (own_w hw 254 rfl)) (own_selp (mvT hZ (own_w hw 90 rfl)) (Cond.privateMethod_at (mvP hZ (own_w hw 255 rfl) (args := #[]))) (mvT hZ (own_w hw 254 rfl)) (by decide)) (Cond.privateMethod_at (mvP hZ (own_w hw 255 rfl) (args := #[]))) (mvT hZ (own_w hw 256 rfl)) (by decide) (backOf (W := 0) (rm_broken1 l Z a0 hw [] a1 w_REQUIRED a3 wL wE kE wD h0 n0 Z0 O0 E_1 F_f E_3 F_s3 F_m3 E_L F_el R_E S_D) hZ (own_w hw 256 rfl) (own_w hw 91 rfl) (by decide) (by decide)) (g := (mkF m 4 #[.val (.ref a1)] [(.ref w_REQUIRED), (.ref a1)])) rfl (by rw [hml]; rfl) (Steps.refl _) (a := a1) (by rw [e1]; exact q2) q2' (argsL := [(.ref w_REQUIRED)]) (rest := []) (lenOf own_pd9 rfl) rfl (by show 2 * 0 + _ ≤ _; exact Nat.le_of_eq rfl) (hb hby d27_4) (fun _ _ => ⟨rfl, e1, (by decide : 0 + 2 ≤ _), (by decide : 0 + 7 ≤ _)⟩)
  dsimp only [Pt.U, Pt.locs, Pt.cells, Pt.slots] at X2 l2 y2 z2 st2 hQ2
  subst l2 y2 z2
  obtain ⟨b_2, rfl, Nq2, Kc2, P2_0, P2_1, P2_2, P2_3⟩ := hQ2
  have N2 := Fr.app N0 Nq2
  have ne_a1_b_2 : a1 ≠ b_2 := Nat.ne_of_lt (Nat.lt_of_lt_of_le E_1.lt P2_0)
  have ne_a3_b_2 : a3 ≠ b_2 := Nat.ne_of_lt (Nat.lt_of_lt_of_le E_3.lt P2_0)
  have ge_b_2 : n0 ≤ b_2 := Nat.le_trans Z0 P2_0
  have sz_b_2 : h0.size ≤ b_2 := Nat.le_trans K0.1 P2_0
  have K2 := K0.trans Kc2 all0
  have O2 := O0.keep Kc2 all0
  refine own_tr st2 ?_
  show own_G p.tables e below _ (T2.setTop (mkF m 7 #[.val (.ref a1)] [(.ref b_2)]))
  exact own_retA X2 hx hlk hret rfl rfl (hb hby d27_7) (by decide) (by decide) (show Q_failed1 Z a1 a3 wL wE kE wD w_REQUIRED h0 n0 _ _ _ from ⟨b_2, ⟨rfl, N2, K2, sz_b_2, P2_1, P2_2, P2_3⟩⟩)
theorem d29_0 : decode prog_34_method_5_code 0 = .ok (.aload_n 0, 1) := by decide +kernel
theorem d29_1 : decode prog_34_method_5_code 1 = .ok (.getstatic 33, 3) := by decide +kernel
theorem d29_4 : decode prog_34_method_5_code 4 = .ok (.invokevirtual 29, 3) := by decide +kernel
theorem d29_7 : decode prog_34_method_5_code 7 = .ok (.areturn, 1) := by decide +kernel
theorem pn_29 : plainName "com/example/cartouche/cartouche/checking/Verdict" = true := by first | (simp [plainName, overriddenIn]; done) | decide +kernel
theorem ef_warned0 (m : MethodId) (x0 : Addr) : entryFrame m #[(.ref x0)] 1 = mkF m 0 #[.val (.ref x0)] [] := by first | (simp [entryFrame, mkF, argsToLocals, Value.category]; done) | rfl
def Q_warned0 (Z : State) (a1 : Addr) (wL : Addr) (wE : Addr) (kE : ClassId) (wD : Addr) (w_RECOMMENDED : Addr) (h0 : Heap) (n0 : Nat) (v : Option Value) (h : Heap) (L : List Loc) : Prop := ∃ b : Addr, v = some (.ref b) ∧ Fr n0 L ∧ Keep h0 h [] ∧ h0.size ≤ b ∧ Exa Z h b "java/util/ArrayList" ∧ Fld Z h b "java/util/ArrayList" "size" "I" (.int (0 : Int32)) ∧ Fld Z h b "java/util/AbstractList" "modCount" "I" (.int (0 : Int32))
set_option maxRecDepth 65536 in
set_option maxHeartbeats 40000000 in
theorem rm_warned0 (l : Launch) (Z : State) (a0 : Array Value) (hw : ∀ d ∈ tables_1, d.before a0 Z = true) (ws : List Jvm.Cond) (a1 : Addr) (wL : Addr) (wE : Addr) (kE : ClassId) (wD : Addr) (w_RECOMMENDED : Addr) (h0 : Heap) (n0 : Nat) (Z0 : n0 ≤ h0.size) (O0 : Old Z n0 h0) (E_1 : Exa Z h0 a1 "com/example/cartouche/cartouche/checking/Verdict") (F_f : Fld Z h0 a1 "com/example/cartouche/cartouche/checking/Verdict" "failures" "Ljava/util/List;" (.ref wL)) (E_L : Exa Z Z.heap wL "java/util/ImmutableCollections$ListN") (F_el : Fld Z Z.heap wL "java/util/ImmutableCollections$ListN" "elements" "[Ljava/lang/Object;" (.ref wE)) (R_E : Arv Z Z.heap wE kE (.object "java/lang/Object") (0 : Int32) [] .null) (S_D : Sta Z Z.heap "java/util/ArrayList" "DEFAULTCAPACITY_EMPTY_ELEMENTDATA" "[Ljava/lang/Object;" (.ref wD)) (S_RECOMMENDED : Sta Z Z.heap "com/example/cartouche/cartouche/checking/Level" "RECOMMENDED" "Lcom/example/cartouche/cartouche/checking/Level;" (.ref w_RECOMMENDED)) :
    MetFree l (⟨"com/example/cartouche/cartouche/checking/Verdict", "warned", "()Ljava/util/List;"⟩ : MethodName) (head1 (Jvm.Cond.code (⟨"com/example/cartouche/cartouche/checking/Verdict", "warned", "()Ljava/util/List;"⟩ : MethodName) prog_34_method_5_code 1 (some (.object "java/util/List")) :: ws) ({ frames := 5, cells := 2, slots := 7, locals := 66 } : Room)) (fun a U => a = #[(.ref a1)] ∧ Z.Warmed39 U.vm ∧ U.heap = h0) (fun _ _ _ _ _ => True) (fun _ U o U' => ∃ v L, o = .returned v ∧ Q_warned0 Z a1 wL wE kE wD w_RECOMMENDED h0 n0 v U'.heap L ∧ FrameEnd U o U' L ({ frames := 5, cells := 2, slots := 7, locals := 66 } : Room).cells ({ frames := 5, cells := 2, slots := 7, locals := 66 } : Room).slots) := by
  refine MetFree.of_bodySF (plainFor_of_name pn_29) hisR ?_
  intro p e s m args below meth c s₁ Bd hml0 hP hK
  obtain ⟨rfl, hZ, hh⟩ := hP
  have hx := Bd.exec
  have hby := Bd.bytes
  have hml : c.maxLocals = 1 := hml0
  have hown : s.vm.findClass "com/example/cartouche/cartouche/checking/Verdict" = some m.cls := findClass_of_methodNamed Bd.named
  have hnm := (name_of_methodNamed Bd.named Bd.method).1
  have hlk := Bd.notSynchronized
  have hret := Bd.returns
  have X0 : Stand p l e ({ frames := 5, cells := 2, slots := 7, locals := 66 } : Room) s m #[(.ref a1)] below meth c s₁ [] 0 0 := Stand.of_body Bd
  have e0 : s₁.heap = h0 := by rw [← hh, Bd.state]; rfl
  have N0 := Fr.nil n0
  have K0 := Keep.refl h0 []
  refine own_in ({ frames := 5, cells := 2, slots := 7, locals := 66 } : Room).cells ({ frames := 5, cells := 2, slots := 7, locals := 66 } : Room).slots (Q_warned0 Z a1 wL wE kE wD w_RECOMMENDED h0 n0) (ef_warned0 m a1) ?_
  show own_G p.tables e below _ (s₁.setTop (mkF m 0 #[.val (.ref a1)] []))
  refine own_st (fun _ kS => XS.aloadN X0.here hx rfl (hb hby d29_0) rfl rfl kS) ?_
  show own_G p.tables e below _ (s₁.setTop (mkF m 1 #[.val (.ref a1)] [(.ref a1)]))
  obtain ⟨T1, X1, e1, st1⟩ := getS2 X0 hx hZ hown (host := "") (Or.inl (own_w hw 271 rfl)) Via.refl e0 (Sta.ext O0.2 S_RECOMMENDED) (g := (mkF m 1 #[.val (.ref a1)] [(.ref a1)])) rfl (hb hby d29_1)
  refine own_st st1 ?_
  show own_G p.tables e below _ (T1.setTop (mkF m 4 #[.val (.ref a1)] [(.ref w_RECOMMENDED), (.ref a1)]))
  obtain ⟨cq2, q2, q2'⟩ := E_1.cell
  obtain ⟨_, _, ⟨T2, L2, k2, n2⟩, -, X2, ⟨Lc2, hQ2, l2, y2, z2⟩, st2⟩ := X1.privateBack hx (y := (⟨"com/example/cartouche/cartouche/checking/Verdict", "broken", "(Lcom/example/cartouche/cartouche/checking/Level;)Ljava/util/List;"⟩ : MethodName)) hown (mvT hZ (own_w hw 253 rfl)) (mvT hZ (own_w hw 254 rfl)) (own_selp (mvT hZ (own_w hw 90 rfl)) (Cond.privateMethod_at (mvP hZ (own_w hw 255 rfl) (args := #[]))) (mvT hZ (own_w hw 254 rfl)) (by decide)) (Cond.privateMethod_at (mvP hZ (own_w hw 255 rfl) (args := #[]))) (mvT hZ (own_w hw 256 rfl)) (by decide) (backOf (W := 0) (rm_broken0 l Z a0 hw [] a1 w_RECOMMENDED wL wE kE wD h0 n0 Z0 O0 E_1 F_f E_L F_el R_E S_D) hZ (own_w hw 256 rfl) (own_w hw 91 rfl) (by decide) (by decide)) (g := (mkF m 4 #[.val (.ref a1)] [(.ref w_RECOMMENDED), (.ref a1)])) rfl (by rw [hml]; rfl) (Steps.refl _) (a := a1) (by rw [e1]; exact q2) q2' (argsL := [(.ref w_RECOMMENDED)]) (rest := []) (lenOf own_pd9 rfl) rfl (by show 2 * 0 + _ ≤ _; exact Nat.le_of_eq rfl) (hb hby d29_4) (fun _ _ => ⟨rfl, e1, (by decide : 0 + 2 ≤ _), (by decide : 0 + 7 ≤ _)⟩)
  dsimp only [Pt.U, Pt.locs, Pt.cells, Pt.slots] at X2 l2 y2 z2 st2 hQ2
  subst l2 y2 z2
  obtain ⟨b_2, rfl, Nq2, Kc2, P2_0, P2_1, P2_2, P2_3⟩ := hQ2
  have N2 := Fr.app N0 Nq2
  have ne_a1_b_2 : a1 ≠ b_2 := Nat.ne_of_lt (Nat.lt_of_lt_of_le E_1.lt P2_0)
  have ge_b_2 : n0 ≤ b_2 := Nat.le_trans Z0 P2_0
  have sz_b_2 : h0.size ≤ b_2 := Nat.le_trans K0.1 P2_0
  have K2 := K0.trans Kc2 all0
  have O2 := O0.keep Kc2 all0
  refine own_tr st2 ?_
  show own_G p.tables e below _ (T2.setTop (mkF m 7 #[.val (.ref a1)] [(.ref b_2)]))
  exact own_retA X2 hx hlk hret rfl rfl (hb hby d29_7) (by decide) (by decide) (show Q_warned0 Z a1 wL wE kE wD w_RECOMMENDED h0 n0 _ _ _ from ⟨b_2, ⟨rfl, N2, K2, sz_b_2, P2_1, P2_2, P2_3⟩⟩)
theorem ef_warned1 (m : MethodId) (x0 : Addr) : entryFrame m #[(.ref x0)] 1 = mkF m 0 #[.val (.ref x0)] [] := by first | (simp [entryFrame, mkF, argsToLocals, Value.category]; done) | rfl
def Q_warned1 (Z : State) (a1 : Addr) (a3 : Addr) (wL : Addr) (wE : Addr) (kE : ClassId) (wD : Addr) (w_RECOMMENDED : Addr) (h0 : Heap) (n0 : Nat) (v : Option Value) (h : Heap) (L : List Loc) : Prop := ∃ b : Addr, v = some (.ref b) ∧ Fr n0 L ∧ Keep h0 h [] ∧ h0.size ≤ b ∧ Exa Z h b "java/util/ArrayList" ∧ Fld Z h b "java/util/ArrayList" "size" "I" (.int (0 : Int32)) ∧ Fld Z h b "java/util/AbstractList" "modCount" "I" (.int (0 : Int32))
set_option maxRecDepth 65536 in
set_option maxHeartbeats 40000000 in
theorem rm_warned1 (l : Launch) (Z : State) (a0 : Array Value) (hw : ∀ d ∈ tables_1, d.before a0 Z = true) (ws : List Jvm.Cond) (a1 : Addr) (a3 : Addr) (wL : Addr) (wE : Addr) (kE : ClassId) (wD : Addr) (w_RECOMMENDED : Addr) (h0 : Heap) (n0 : Nat) (Z0 : n0 ≤ h0.size) (O0 : Old Z n0 h0) (E_1 : Exa Z h0 a1 "com/example/cartouche/cartouche/checking/Verdict") (F_f : Fld Z h0 a1 "com/example/cartouche/cartouche/checking/Verdict" "failures" "Ljava/util/List;" (.ref a3)) (E_3 : Exa Z h0 a3 "java/util/ArrayList") (F_s3 : Fld Z h0 a3 "java/util/ArrayList" "size" "I" (.int (0 : Int32))) (F_m3 : Fld Z h0 a3 "java/util/AbstractList" "modCount" "I" (.int (0 : Int32))) (E_L : Exa Z Z.heap wL "java/util/ImmutableCollections$ListN") (F_el : Fld Z Z.heap wL "java/util/ImmutableCollections$ListN" "elements" "[Ljava/lang/Object;" (.ref wE)) (R_E : Arv Z Z.heap wE kE (.object "java/lang/Object") (0 : Int32) [] .null) (S_D : Sta Z Z.heap "java/util/ArrayList" "DEFAULTCAPACITY_EMPTY_ELEMENTDATA" "[Ljava/lang/Object;" (.ref wD)) (S_RECOMMENDED : Sta Z Z.heap "com/example/cartouche/cartouche/checking/Level" "RECOMMENDED" "Lcom/example/cartouche/cartouche/checking/Level;" (.ref w_RECOMMENDED)) :
    MetFree l (⟨"com/example/cartouche/cartouche/checking/Verdict", "warned", "()Ljava/util/List;"⟩ : MethodName) (head1 (Jvm.Cond.code (⟨"com/example/cartouche/cartouche/checking/Verdict", "warned", "()Ljava/util/List;"⟩ : MethodName) prog_34_method_5_code 1 (some (.object "java/util/List")) :: ws) ({ frames := 5, cells := 2, slots := 7, locals := 66 } : Room)) (fun a U => a = #[(.ref a1)] ∧ Z.Warmed39 U.vm ∧ U.heap = h0) (fun _ _ _ _ _ => True) (fun _ U o U' => ∃ v L, o = .returned v ∧ Q_warned1 Z a1 a3 wL wE kE wD w_RECOMMENDED h0 n0 v U'.heap L ∧ FrameEnd U o U' L ({ frames := 5, cells := 2, slots := 7, locals := 66 } : Room).cells ({ frames := 5, cells := 2, slots := 7, locals := 66 } : Room).slots) := by
  refine MetFree.of_bodySF (plainFor_of_name pn_29) hisR ?_
  intro p e s m args below meth c s₁ Bd hml0 hP hK
  obtain ⟨rfl, hZ, hh⟩ := hP
  have hx := Bd.exec
  have hby := Bd.bytes
  have hml : c.maxLocals = 1 := hml0
  have hown : s.vm.findClass "com/example/cartouche/cartouche/checking/Verdict" = some m.cls := findClass_of_methodNamed Bd.named
  have hnm := (name_of_methodNamed Bd.named Bd.method).1
  have hlk := Bd.notSynchronized
  have hret := Bd.returns
  have X0 : Stand p l e ({ frames := 5, cells := 2, slots := 7, locals := 66 } : Room) s m #[(.ref a1)] below meth c s₁ [] 0 0 := Stand.of_body Bd
  have e0 : s₁.heap = h0 := by rw [← hh, Bd.state]; rfl
  have N0 := Fr.nil n0
  have K0 := Keep.refl h0 []
  refine own_in ({ frames := 5, cells := 2, slots := 7, locals := 66 } : Room).cells ({ frames := 5, cells := 2, slots := 7, locals := 66 } : Room).slots (Q_warned1 Z a1 a3 wL wE kE wD w_RECOMMENDED h0 n0) (ef_warned1 m a1) ?_
  show own_G p.tables e below _ (s₁.setTop (mkF m 0 #[.val (.ref a1)] []))
  refine own_st (fun _ kS => XS.aloadN X0.here hx rfl (hb hby d29_0) rfl rfl kS) ?_
  show own_G p.tables e below _ (s₁.setTop (mkF m 1 #[.val (.ref a1)] [(.ref a1)]))
  obtain ⟨T1, X1, e1, st1⟩ := getS2 X0 hx hZ hown (host := "") (Or.inl (own_w hw 271 rfl)) Via.refl e0 (Sta.ext O0.2 S_RECOMMENDED) (g := (mkF m 1 #[.val (.ref a1)] [(.ref a1)])) rfl (hb hby d29_1)
  refine own_st st1 ?_
  show own_G p.tables e below _ (T1.setTop (mkF m 4 #[.val (.ref a1)] [(.ref w_RECOMMENDED), (.ref a1)]))
  obtain ⟨cq2, q2, q2'⟩ := E_1.cell
  obtain ⟨_, _, ⟨T2, L2, k2, n2⟩, -, X2, ⟨Lc2, hQ2, l2, y2, z2⟩, st2⟩ := X1.privateBack hx (y := (⟨"com/example/cartouche/cartouche/checking/Verdict", "broken", "(Lcom/example/cartouche/cartouche/checking/Level;)Ljava/util/List;"⟩ : MethodName)) hown (mvT hZ (own_w hw 253 rfl)) (mvT hZ (own_w hw 254 rfl)) (own_selp (mvT hZ (own_w hw 90 rfl)) (Cond.privateMethod_at (mvP hZ (own_w hw 255 rfl) (args := #[]))) (mvT hZ (own_w hw 254 rfl)) (by decide)) (Cond.privateMethod_at (mvP hZ (own_w hw 255 rfl) (args := #[]))) (mvT hZ (own_w hw 256 rfl)) (by decide) (backOf (W := 0) (rm_broken1 l Z a0 hw [] a1 w_RECOMMENDED a3 wL wE kE wD h0 n0 Z0 O0 E_1 F_f E_3 F_s3 F_m3 E_L F_el R_E S_D) hZ (own_w hw 256 rfl) (own_w hw 91 rfl) (by decide) (by decide)) (g := (mkF m 4 #[.val (.ref a1)] [(.ref w_RECOMMENDED), (.ref a1)])) rfl (by rw [hml]; rfl) (Steps.refl _) (a := a1) (by rw [e1]; exact q2) q2' (argsL := [(.ref w_RECOMMENDED)]) (rest := []) (lenOf own_pd9 rfl) rfl (by show 2 * 0 + _ ≤ _; exact Nat.le_of_eq rfl) (hb hby d29_4) (fun _ _ => ⟨rfl, e1, (by decide : 0 + 2 ≤ _), (by decide : 0 + 7 ≤ _)⟩)
  dsimp only [Pt.U, Pt.locs, Pt.cells, Pt.slots] at X2 l2 y2 z2 st2 hQ2
  subst l2 y2 z2
  obtain ⟨b_2, rfl, Nq2, Kc2, P2_0, P2_1, P2_2, P2_3⟩ := hQ2
  have N2 := Fr.app N0 Nq2
  have ne_a1_b_2 : a1 ≠ b_2 := Nat.ne_of_lt (Nat.lt_of_lt_of_le E_1.lt P2_0)
  have ne_a3_b_2 : a3 ≠ b_2 := Nat.ne_of_lt (Nat.lt_of_lt_of_le E_3.lt P2_0)
  have ge_b_2 : n0 ≤ b_2 := Nat.le_trans Z0 P2_0
  have sz_b_2 : h0.size ≤ b_2 := Nat.le_trans K0.1 P2_0
  have K2 := K0.trans Kc2 all0
  have O2 := O0.keep Kc2 all0
  refine own_tr st2 ?_
  show own_G p.tables e below _ (T2.setTop (mkF m 7 #[.val (.ref a1)] [(.ref b_2)]))
  exact own_retA X2 hx hlk hret rfl rfl (hb hby d29_7) (by decide) (by decide) (show Q_warned1 Z a1 a3 wL wE kE wD w_RECOMMENDED h0 n0 _ _ _ from ⟨b_2, ⟨rfl, N2, K2, sz_b_2, P2_1, P2_2, P2_3⟩⟩)
theorem d26_0 : decode prog_34_method_6_code 0 = .ok (.aload_n 0, 1) := by decide +kernel
theorem d26_1 : decode prog_34_method_6_code 1 = .ok (.invokevirtual 36, 3) := by decide +kernel
theorem d26_4 : decode prog_34_method_6_code 4 = .ok (.invokeinterface 40 1, 5) := by decide +kernel
theorem d26_9 : decode prog_34_method_6_code 9 = .ok (.ireturn, 1) := by decide +kernel
theorem pn_26 : plainName "com/example/cartouche/cartouche/checking/Verdict" = true := by first | (simp [plainName, overriddenIn]; done) | decide +kernel
theorem ef_conforms0 (m : MethodId) (x0 : Addr) : entryFrame m #[(.ref x0)] 1 = mkF m 0 #[.val (.ref x0)] [] := by first | (simp [entryFrame, mkF, argsToLocals, Value.category]; done) | rfl
def Q_conforms0 (Z : State) (a1 : Addr) (wL : Addr) (wE : Addr) (kE : ClassId) (wD : Addr) (w_REQUIRED : Addr) (h0 : Heap) (n0 : Nat) (v : Option Value) (h : Heap) (L : List Loc) : Prop := v = some (.int (1 : Int32)) ∧ Fr n0 L ∧ Keep h0 h []
set_option maxRecDepth 65536 in
set_option maxHeartbeats 40000000 in
theorem rm_conforms0 (l : Launch) (Z : State) (a0 : Array Value) (hw : ∀ d ∈ tables_1, d.before a0 Z = true) (ws : List Jvm.Cond) (a1 : Addr) (wL : Addr) (wE : Addr) (kE : ClassId) (wD : Addr) (w_REQUIRED : Addr) (h0 : Heap) (n0 : Nat) (Z0 : n0 ≤ h0.size) (O0 : Old Z n0 h0) (E_1 : Exa Z h0 a1 "com/example/cartouche/cartouche/checking/Verdict") (F_f : Fld Z h0 a1 "com/example/cartouche/cartouche/checking/Verdict" "failures" "Ljava/util/List;" (.ref wL)) (E_L : Exa Z Z.heap wL "java/util/ImmutableCollections$ListN") (F_el : Fld Z Z.heap wL "java/util/ImmutableCollections$ListN" "elements" "[Ljava/lang/Object;" (.ref wE)) (R_E : Arv Z Z.heap wE kE (.object "java/lang/Object") (0 : Int32) [] .null) (S_D : Sta Z Z.heap "java/util/ArrayList" "DEFAULTCAPACITY_EMPTY_ELEMENTDATA" "[Ljava/lang/Object;" (.ref wD)) (S_REQUIRED : Sta Z Z.heap "com/example/cartouche/cartouche/checking/Level" "REQUIRED" "Lcom/example/cartouche/cartouche/checking/Level;" (.ref w_REQUIRED)) :
    MetFree l (⟨"com/example/cartouche/cartouche/checking/Verdict", "conforms", "()Z"⟩ : MethodName) (head1 (Jvm.Cond.code (⟨"com/example/cartouche/cartouche/checking/Verdict", "conforms", "()Z"⟩ : MethodName) prog_34_method_6_code 1 (some .boolean) :: ws) ({ frames := 6, cells := 2, slots := 7, locals := 78 } : Room)) (fun a U => a = #[(.ref a1)] ∧ Z.Warmed39 U.vm ∧ U.heap = h0) (fun _ _ _ _ _ => True) (fun _ U o U' => ∃ v L, o = .returned v ∧ Q_conforms0 Z a1 wL wE kE wD w_REQUIRED h0 n0 v U'.heap L ∧ FrameEnd U o U' L ({ frames := 6, cells := 2, slots := 7, locals := 78 } : Room).cells ({ frames := 6, cells := 2, slots := 7, locals := 78 } : Room).slots) := by
  refine MetFree.of_bodySF (plainFor_of_name pn_26) hisR ?_
  intro p e s m args below meth c s₁ Bd hml0 hP hK
  obtain ⟨rfl, hZ, hh⟩ := hP
  have hx := Bd.exec
  have hby := Bd.bytes
  have hml : c.maxLocals = 1 := hml0
  have hown : s.vm.findClass "com/example/cartouche/cartouche/checking/Verdict" = some m.cls := findClass_of_methodNamed Bd.named
  have hnm := (name_of_methodNamed Bd.named Bd.method).1
  have hlk := Bd.notSynchronized
  have hret := Bd.returns
  have X0 : Stand p l e ({ frames := 6, cells := 2, slots := 7, locals := 78 } : Room) s m #[(.ref a1)] below meth c s₁ [] 0 0 := Stand.of_body Bd
  have e0 : s₁.heap = h0 := by rw [← hh, Bd.state]; rfl
  have N0 := Fr.nil n0
  have K0 := Keep.refl h0 []
  refine own_in ({ frames := 6, cells := 2, slots := 7, locals := 78 } : Room).cells ({ frames := 6, cells := 2, slots := 7, locals := 78 } : Room).slots (Q_conforms0 Z a1 wL wE kE wD w_REQUIRED h0 n0) (ef_conforms0 m a1) ?_
  show own_G p.tables e below _ (s₁.setTop (mkF m 0 #[.val (.ref a1)] []))
  refine own_st (fun _ kS => XS.aloadN X0.here hx rfl (hb hby d26_0) rfl rfl kS) ?_
  show own_G p.tables e below _ (s₁.setTop (mkF m 1 #[.val (.ref a1)] [(.ref a1)]))
  obtain ⟨cq1, kq1, q1a, q1b, q1c⟩ := isOf hZ e0 E_1
  obtain ⟨_, _, ⟨T1, L1, k1, n1⟩, -, X1, ⟨Lc1, hQ1, l1, y1, z1⟩, st1⟩ := X0.virtualBack hx (y := (⟨"com/example/cartouche/cartouche/checking/Verdict", "failed", "()Ljava/util/List;"⟩ : MethodName)) (z := (⟨"com/example/cartouche/cartouche/checking/Verdict", "failed", "()Ljava/util/List;"⟩ : MethodName)) hown (mvT hZ (own_w hw 247 rfl)) (mvT hZ (own_w hw 248 rfl)) (notFace_of_selects (args := #[]) (mvT hZ (own_w hw 250 rfl))) (mvT hZ (own_w hw 250 rfl)) (mvT hZ (own_w hw 249 rfl)) (by decide) (backOf (W := 0) (rm_failed0 l Z a0 hw [] a1 wL wE kE wD w_REQUIRED h0 n0 Z0 O0 E_1 F_f E_L F_el R_E S_D S_REQUIRED) hZ (own_w hw 251 rfl) (own_w hw 91 rfl) (by decide) (by decide)) q1a q1c (g := (mkF m 1 #[.val (.ref a1)] [(.ref a1)])) rfl (by rw [hml]; rfl) (Steps.refl _) (argsL := []) (rest := []) (lenOf own_pd2 rfl) rfl (by show 2 * 0 + _ ≤ _; exact Nat.le_of_eq rfl) (hb hby d26_1) (fun _ _ => ⟨rfl, e0, (by decide : 0 + 2 ≤ _), (by decide : 0 + 7 ≤ _)⟩)
  dsimp only [Pt.U, Pt.locs, Pt.cells, Pt.slots] at X1 l1 y1 z1 st1 hQ1
  subst l1 y1 z1
  obtain ⟨b_1, rfl, Nq1, Kc1, P1_0, P1_1, P1_2, P1_3⟩ := hQ1
  have N1 := Fr.app N0 Nq1
  have ne_a1_b_1 : a1 ≠ b_1 := Nat.ne_of_lt (Nat.lt_of_lt_of_le E_1.lt P1_0)
  have ge_b_1 : n0 ≤ b_1 := Nat.le_trans Z0 P1_0
  have sz_b_1 : h0.size ≤ b_1 := Nat.le_trans K0.1 P1_0
  have K1 := K0.trans Kc1 all0
  have O1 := O0.keep Kc1 all0
  refine own_tr st1 ?_
  show own_G p.tables e below _ (T1.setTop (mkF m 4 #[.val (.ref a1)] [(.ref b_1)]))
  obtain ⟨cq2, kq2, q2a, q2b, q2c⟩ := isOf hZ rfl P1_1
  obtain ⟨_, _, ⟨T2, L2, k2, n2⟩, -, X2, ⟨Lc2, hQ2, l2, y2, z2⟩, st2⟩ := X1.interfaceBack hx (xi := (⟨"java/util/List", "isEmpty", "()Z"⟩ : MethodName)) (y := (⟨"java/util/ArrayList", "isEmpty", "()Z"⟩ : MethodName)) hown (mvT hZ (own_w hw 261 rfl)) (mvT hZ (own_w hw 262 rfl)) (mvT hZ (own_w hw 263 rfl)) (mvT hZ (own_w hw 264 rfl)) (mvT hZ (own_w hw 69 rfl)) (mvT hZ (own_w hw 70 rfl)) (mvT hZ (own_w hw 71 rfl)) (mvT hZ (own_w hw 196 rfl)) (by decide) (backOf (W := 0) (rm_arlEmpty l Z a0 hw [] b_1 T1.heap n0 (Nat.le_trans Z0 Kc1.1)  P1_2) hZ (own_w hw 73 rfl) (own_w hw 14 rfl) (by decide) (by decide)) q2a q2b q2c (g := (mkF m 4 #[.val (.ref a1)] [(.ref b_1)])) rfl (by rw [hml]; rfl) (Steps.refl _) (argsL := []) (rest := []) (lenOf own_pd1 rfl) rfl (by show 2 * 0 + _ ≤ _; exact Nat.le_of_eq rfl) (hb hby d26_4) (fun _ _ => ⟨rfl, rfl, (by decide : 2 + 0 ≤ _), (by decide : 7 + 0 ≤ _)⟩)
  dsimp only [Pt.U, Pt.locs, Pt.cells, Pt.slots] at X2 l2 y2 z2 st2 hQ2
  subst l2 y2 z2
  obtain ⟨rfl, Nq2, eq2⟩ := hQ2
  have N2 := Fr.app N1 Nq2
  refine own_tr st2 ?_
  show own_G p.tables e below _ (T2.setTop (mkF m 9 #[.val (.ref a1)] [(.int (1 : Int32))]))
  exact own_retN X2 hx hlk (t := .boolean) hret (by simp) (hb hby d26_9) (by decide) (by decide) (v' := (1 : Int32)) rfl (by rw [eq2]; exact ⟨rfl, N2, K1⟩)
theorem ef_conforms1 (m : MethodId) (x0 : Addr) : entryFrame m #[(.ref x0)] 1 = mkF m 0 #[.val (.ref x0)] [] := by first | (simp [entryFrame, mkF, argsToLocals, Value.category]; done) | rfl
def Q_conforms1 (Z : State) (a1 : Addr) (a3 : Addr) (wL : Addr) (wE : Addr) (kE : ClassId) (wD : Addr) (w_REQUIRED : Addr) (h0 : Heap) (n0 : Nat) (v : Option Value) (h : Heap) (L : List Loc) : Prop := v = some (.int (1 : Int32)) ∧ Fr n0 L ∧ Keep h0 h []
set_option maxRecDepth 65536 in
set_option maxHeartbeats 40000000 in
theorem rm_conforms1 (l : Launch) (Z : State) (a0 : Array Value) (hw : ∀ d ∈ tables_1, d.before a0 Z = true) (ws : List Jvm.Cond) (a1 : Addr) (a3 : Addr) (wL : Addr) (wE : Addr) (kE : ClassId) (wD : Addr) (w_REQUIRED : Addr) (h0 : Heap) (n0 : Nat) (Z0 : n0 ≤ h0.size) (O0 : Old Z n0 h0) (E_1 : Exa Z h0 a1 "com/example/cartouche/cartouche/checking/Verdict") (F_f : Fld Z h0 a1 "com/example/cartouche/cartouche/checking/Verdict" "failures" "Ljava/util/List;" (.ref a3)) (E_3 : Exa Z h0 a3 "java/util/ArrayList") (F_s3 : Fld Z h0 a3 "java/util/ArrayList" "size" "I" (.int (0 : Int32))) (F_m3 : Fld Z h0 a3 "java/util/AbstractList" "modCount" "I" (.int (0 : Int32))) (E_L : Exa Z Z.heap wL "java/util/ImmutableCollections$ListN") (F_el : Fld Z Z.heap wL "java/util/ImmutableCollections$ListN" "elements" "[Ljava/lang/Object;" (.ref wE)) (R_E : Arv Z Z.heap wE kE (.object "java/lang/Object") (0 : Int32) [] .null) (S_D : Sta Z Z.heap "java/util/ArrayList" "DEFAULTCAPACITY_EMPTY_ELEMENTDATA" "[Ljava/lang/Object;" (.ref wD)) (S_REQUIRED : Sta Z Z.heap "com/example/cartouche/cartouche/checking/Level" "REQUIRED" "Lcom/example/cartouche/cartouche/checking/Level;" (.ref w_REQUIRED)) :
    MetFree l (⟨"com/example/cartouche/cartouche/checking/Verdict", "conforms", "()Z"⟩ : MethodName) (head1 (Jvm.Cond.code (⟨"com/example/cartouche/cartouche/checking/Verdict", "conforms", "()Z"⟩ : MethodName) prog_34_method_6_code 1 (some .boolean) :: ws) ({ frames := 6, cells := 2, slots := 7, locals := 78 } : Room)) (fun a U => a = #[(.ref a1)] ∧ Z.Warmed39 U.vm ∧ U.heap = h0) (fun _ _ _ _ _ => True) (fun _ U o U' => ∃ v L, o = .returned v ∧ Q_conforms1 Z a1 a3 wL wE kE wD w_REQUIRED h0 n0 v U'.heap L ∧ FrameEnd U o U' L ({ frames := 6, cells := 2, slots := 7, locals := 78 } : Room).cells ({ frames := 6, cells := 2, slots := 7, locals := 78 } : Room).slots) := by
  refine MetFree.of_bodySF (plainFor_of_name pn_26) hisR ?_
  intro p e s m args below meth c s₁ Bd hml0 hP hK
  obtain ⟨rfl, hZ, hh⟩ := hP
  have hx := Bd.exec
  have hby := Bd.bytes
  have hml : c.maxLocals = 1 := hml0
  have hown : s.vm.findClass "com/example/cartouche/cartouche/checking/Verdict" = some m.cls := findClass_of_methodNamed Bd.named
  have hnm := (name_of_methodNamed Bd.named Bd.method).1
  have hlk := Bd.notSynchronized
  have hret := Bd.returns
  have X0 : Stand p l e ({ frames := 6, cells := 2, slots := 7, locals := 78 } : Room) s m #[(.ref a1)] below meth c s₁ [] 0 0 := Stand.of_body Bd
  have e0 : s₁.heap = h0 := by rw [← hh, Bd.state]; rfl
  have N0 := Fr.nil n0
  have K0 := Keep.refl h0 []
  refine own_in ({ frames := 6, cells := 2, slots := 7, locals := 78 } : Room).cells ({ frames := 6, cells := 2, slots := 7, locals := 78 } : Room).slots (Q_conforms1 Z a1 a3 wL wE kE wD w_REQUIRED h0 n0) (ef_conforms1 m a1) ?_
  show own_G p.tables e below _ (s₁.setTop (mkF m 0 #[.val (.ref a1)] []))
  refine own_st (fun _ kS => XS.aloadN X0.here hx rfl (hb hby d26_0) rfl rfl kS) ?_
  show own_G p.tables e below _ (s₁.setTop (mkF m 1 #[.val (.ref a1)] [(.ref a1)]))
  obtain ⟨cq1, kq1, q1a, q1b, q1c⟩ := isOf hZ e0 E_1
  obtain ⟨_, _, ⟨T1, L1, k1, n1⟩, -, X1, ⟨Lc1, hQ1, l1, y1, z1⟩, st1⟩ := X0.virtualBack hx (y := (⟨"com/example/cartouche/cartouche/checking/Verdict", "failed", "()Ljava/util/List;"⟩ : MethodName)) (z := (⟨"com/example/cartouche/cartouche/checking/Verdict", "failed", "()Ljava/util/List;"⟩ : MethodName)) hown (mvT hZ (own_w hw 247 rfl)) (mvT hZ (own_w hw 248 rfl)) (notFace_of_selects (args := #[]) (mvT hZ (own_w hw 250 rfl))) (mvT hZ (own_w hw 250 rfl)) (mvT hZ (own_w hw 249 rfl)) (by decide) (backOf (W := 0) (rm_failed1 l Z a0 hw [] a1 a3 wL wE kE wD w_REQUIRED h0 n0 Z0 O0 E_1 F_f E_3 F_s3 F_m3 E_L F_el R_E S_D S_REQUIRED) hZ (own_w hw 251 rfl) (own_w hw 91 rfl) (by decide) (by decide)) q1a q1c (g := (mkF m 1 #[.val (.ref a1)] [(.ref a1)])) rfl (by rw [hml]; rfl) (Steps.refl _) (argsL := []) (rest := []) (lenOf own_pd2 rfl) rfl (by show 2 * 0 + _ ≤ _; exact Nat.le_of_eq rfl) (hb hby d26_1) (fun _ _ => ⟨rfl, e0, (by decide : 0 + 2 ≤ _), (by decide : 0 + 7 ≤ _)⟩)
  dsimp only [Pt.U, Pt.locs, Pt.cells, Pt.slots] at X1 l1 y1 z1 st1 hQ1
  subst l1 y1 z1
  obtain ⟨b_1, rfl, Nq1, Kc1, P1_0, P1_1, P1_2, P1_3⟩ := hQ1
  have N1 := Fr.app N0 Nq1
  have ne_a1_b_1 : a1 ≠ b_1 := Nat.ne_of_lt (Nat.lt_of_lt_of_le E_1.lt P1_0)
  have ne_a3_b_1 : a3 ≠ b_1 := Nat.ne_of_lt (Nat.lt_of_lt_of_le E_3.lt P1_0)
  have ge_b_1 : n0 ≤ b_1 := Nat.le_trans Z0 P1_0
  have sz_b_1 : h0.size ≤ b_1 := Nat.le_trans K0.1 P1_0
  have K1 := K0.trans Kc1 all0
  have O1 := O0.keep Kc1 all0
  refine own_tr st1 ?_
  show own_G p.tables e below _ (T1.setTop (mkF m 4 #[.val (.ref a1)] [(.ref b_1)]))
  obtain ⟨cq2, kq2, q2a, q2b, q2c⟩ := isOf hZ rfl P1_1
  obtain ⟨_, _, ⟨T2, L2, k2, n2⟩, -, X2, ⟨Lc2, hQ2, l2, y2, z2⟩, st2⟩ := X1.interfaceBack hx (xi := (⟨"java/util/List", "isEmpty", "()Z"⟩ : MethodName)) (y := (⟨"java/util/ArrayList", "isEmpty", "()Z"⟩ : MethodName)) hown (mvT hZ (own_w hw 261 rfl)) (mvT hZ (own_w hw 262 rfl)) (mvT hZ (own_w hw 263 rfl)) (mvT hZ (own_w hw 264 rfl)) (mvT hZ (own_w hw 69 rfl)) (mvT hZ (own_w hw 70 rfl)) (mvT hZ (own_w hw 71 rfl)) (mvT hZ (own_w hw 196 rfl)) (by decide) (backOf (W := 0) (rm_arlEmpty l Z a0 hw [] b_1 T1.heap n0 (Nat.le_trans Z0 Kc1.1)  P1_2) hZ (own_w hw 73 rfl) (own_w hw 14 rfl) (by decide) (by decide)) q2a q2b q2c (g := (mkF m 4 #[.val (.ref a1)] [(.ref b_1)])) rfl (by rw [hml]; rfl) (Steps.refl _) (argsL := []) (rest := []) (lenOf own_pd1 rfl) rfl (by show 2 * 0 + _ ≤ _; exact Nat.le_of_eq rfl) (hb hby d26_4) (fun _ _ => ⟨rfl, rfl, (by decide : 2 + 0 ≤ _), (by decide : 7 + 0 ≤ _)⟩)
  dsimp only [Pt.U, Pt.locs, Pt.cells, Pt.slots] at X2 l2 y2 z2 st2 hQ2
  subst l2 y2 z2
  obtain ⟨rfl, Nq2, eq2⟩ := hQ2
  have N2 := Fr.app N1 Nq2
  refine own_tr st2 ?_
  show own_G p.tables e below _ (T2.setTop (mkF m 9 #[.val (.ref a1)] [(.int (1 : Int32))]))
  exact own_retN X2 hx hlk (t := .boolean) hret (by simp) (hb hby d26_9) (by decide) (by decide) (v' := (1 : Int32)) rfl (by rw [eq2]; exact ⟨rfl, N2, K1⟩)
theorem d15_0 : decode jdk_71_method_1_code 0 = .ok (.aload_n 0, 1) := by decide +kernel
theorem d15_1 : decode jdk_71_method_1_code 1 = .ok (.invokespecial 1, 3) := by decide +kernel
theorem d15_4 : decode jdk_71_method_1_code 4 = .ok (.return_, 1) := by decide +kernel
theorem pn_15 : plainName "java/util/AbstractMap" = true := by first | (simp [plainName, overriddenIn]; done) | decide +kernel
theorem ef_amInit (m : MethodId) (x0 : Addr) : entryFrame m #[(.ref x0)] 1 = mkF m 0 #[.val (.ref x0)] [] := by first | (simp [entryFrame, mkF, argsToLocals, Value.category]; done) | rfl
def Q_amInit (Z : State) (a1 : Addr) (h0 : Heap) (n0 : Nat) (v : Option Value) (h : Heap) (L : List Loc) : Prop := v = none ∧ Fr n0 L ∧ h = h0
set_option maxRecDepth 65536 in
set_option maxHeartbeats 40000000 in
theorem rm_amInit (l : Launch) (Z : State) (a0 : Array Value) (hw : ∀ d ∈ tables_1, d.before a0 Z = true) (ws : List Jvm.Cond) (a1 : Addr) (h0 : Heap) (n0 : Nat) (Z0 : n0 ≤ h0.size)  :
    MetFree l (⟨"java/util/AbstractMap", "<init>", "()V"⟩ : MethodName) (head1 (Jvm.Cond.code (⟨"java/util/AbstractMap", "<init>", "()V"⟩ : MethodName) jdk_71_method_1_code 1 none :: ws) ({ frames := 1, cells := 0, slots := 0, locals := 12 } : Room)) (fun a U => a = #[(.ref a1)] ∧ Z.Warmed39 U.vm ∧ U.heap = h0) (fun _ _ _ _ _ => True) (fun _ U o U' => ∃ v L, o = .returned v ∧ Q_amInit Z a1 h0 n0 v U'.heap L ∧ FrameEnd U o U' L ({ frames := 1, cells := 0, slots := 0, locals := 12 } : Room).cells ({ frames := 1, cells := 0, slots := 0, locals := 12 } : Room).slots) := by
  refine MetFree.of_bodySF (plainFor_of_name pn_15) hisR ?_
  intro p e s m args below meth c s₁ Bd hml0 hP hK
  obtain ⟨rfl, hZ, hh⟩ := hP
  have hx := Bd.exec
  have hby := Bd.bytes
  have hml : c.maxLocals = 1 := hml0
  have hown : s.vm.findClass "java/util/AbstractMap" = some m.cls := findClass_of_methodNamed Bd.named
  have hnm := (name_of_methodNamed Bd.named Bd.method).1
  have hlk := Bd.notSynchronized
  have hret := Bd.returns
  have X0 : Stand p l e ({ frames := 1, cells := 0, slots := 0, locals := 12 } : Room) s m #[(.ref a1)] below meth c s₁ [] 0 0 := Stand.of_body Bd
  have e0 : s₁.heap = h0 := by rw [← hh, Bd.state]; rfl
  have N0 := Fr.nil n0
  refine own_in ({ frames := 1, cells := 0, slots := 0, locals := 12 } : Room).cells ({ frames := 1, cells := 0, slots := 0, locals := 12 } : Room).slots (Q_amInit Z a1 h0 n0) (ef_amInit m a1) ?_
  show own_G p.tables e below _ (s₁.setTop (mkF m 0 #[.val (.ref a1)] []))
  refine own_st (fun _ kS => XS.aloadN X0.here hx rfl (hb hby d15_0) rfl rfl kS) ?_
  show own_G p.tables e below _ (s₁.setTop (mkF m 1 #[.val (.ref a1)] [(.ref a1)]))
  obtain ⟨T1, X1, e1, st1⟩ := initO X0 hx hZ hown (own_w hw 126 rfl) (own_w hw 31 rfl) (own_w hw 32 rfl) e0 (g := (mkF m 1 #[.val (.ref a1)] [(.ref a1)])) rfl (by rw [hml]; rfl) rfl (hb hby d15_1) (by decide) (W := 0) (by show 2 * 0 + _ ≤ _; exact Nat.le_of_eq rfl) (by decide)
  refine own_st st1 ?_
  show own_G p.tables e below _ (T1.setTop (mkF m 4 #[.val (.ref a1)] []))
  exact own_retV X1 hx hlk hret (hb hby d15_4) (by decide) (by decide) (by rw [e1]; exact ⟨rfl, N0, rfl⟩)
theorem d14_0 : decode jdk_69_method_7_code 0 = .ok (.aload_n 0, 1) := by decide +kernel
theorem d14_1 : decode jdk_69_method_7_code 1 = .ok (.invokespecial 43, 3) := by decide +kernel
theorem d14_4 : decode jdk_69_method_7_code 4 = .ok (.aload_n 0, 1) := by decide +kernel
theorem d14_5 : decode jdk_69_method_7_code 5 = .ok (.ldc 92, 2) := by decide +kernel
theorem d14_7 : decode jdk_69_method_7_code 7 = .ok (.putfield 81, 3) := by decide +kernel
theorem d14_10 : decode jdk_69_method_7_code 10 = .ok (.return_, 1) := by decide +kernel
theorem pn_14 : plainName "java/util/HashMap" = true := by first | (simp [plainName, overriddenIn]; done) | decide +kernel
theorem ef_hmInit (m : MethodId) (x0 : Addr) : entryFrame m #[(.ref x0)] 1 = mkF m 0 #[.val (.ref x0)] [] := by first | (simp [entryFrame, mkF, argsToLocals, Value.category]; done) | rfl
def Q_hmInit (Z : State) (a1 : Addr) (h0 : Heap) (n0 : Nat) (v : Option Value) (h : Heap) (L : List Loc) : Prop := v = none ∧ Fr n0 L ∧ Keep h0 h [a1] ∧ Exa Z h a1 "java/util/LinkedHashMap" ∧ Fld Z h a1 "java/util/LinkedHashMap" "putMode" "I" (.int (0 : Int32)) ∧ Fld Z h a1 "java/util/LinkedHashMap" "accessOrder" "Z" (.int (0 : Int32))
set_option maxRecDepth 65536 in
set_option maxHeartbeats 40000000 in
theorem rm_hmInit (l : Launch) (Z : State) (a0 : Array Value) (hw : ∀ d ∈ tables_1, d.before a0 Z = true) (ws : List Jvm.Cond) (a1 : Addr) (h0 : Heap) (n0 : Nat) (Z0 : n0 ≤ h0.size) (E_1 : Exa Z h0 a1 "java/util/LinkedHashMap") (g_1 : n0 ≤ a1) (F_l : Fld Z h0 a1 "java/util/HashMap" "loadFactor" "F" (.float (0 : UInt32))) (F_p : Fld Z h0 a1 "java/util/LinkedHashMap" "putMode" "I" (.int (0 : Int32))) (F_a : Fld Z h0 a1 "java/util/LinkedHashMap" "accessOrder" "Z" (.int (0 : Int32))) :
    MetFree l (⟨"java/util/HashMap", "<init>", "()V"⟩ : MethodName) (head1 (Jvm.Cond.code (⟨"java/util/HashMap", "<init>", "()V"⟩ : MethodName) jdk_69_method_7_code 1 none :: ws) ({ frames := 2, cells := 0, slots := 0, locals := 24 } : Room)) (fun a U => a = #[(.ref a1)] ∧ Z.Warmed39 U.vm ∧ U.heap = h0) (fun _ _ _ _ _ => True) (fun _ U o U' => ∃ v L, o = .returned v ∧ Q_hmInit Z a1 h0 n0 v U'.heap L ∧ FrameEnd U o U' L ({ frames := 2, cells := 0, slots := 0, locals := 24 } : Room).cells ({ frames := 2, cells := 0, slots := 0, locals := 24 } : Room).slots) := by
  refine MetFree.of_bodySF (plainFor_of_name pn_14) hisR ?_
  intro p e s m args below meth c s₁ Bd hml0 hP hK
  obtain ⟨rfl, hZ, hh⟩ := hP
  have hx := Bd.exec
  have hby := Bd.bytes
  have hml : c.maxLocals = 1 := hml0
  have hown : s.vm.findClass "java/util/HashMap" = some m.cls := findClass_of_methodNamed Bd.named
  have hnm := (name_of_methodNamed Bd.named Bd.method).1
  have hlk := Bd.notSynchronized
  have hret := Bd.returns
  have X0 : Stand p l e ({ frames := 2, cells := 0, slots := 0, locals := 24 } : Room) s m #[(.ref a1)] below meth c s₁ [] 0 0 := Stand.of_body Bd
  have e0 : s₁.heap = h0 := by rw [← hh, Bd.state]; rfl
  have N0 := Fr.nil n0
  have K0 := Keep.refl h0 [a1]
  refine own_in ({ frames := 2, cells := 0, slots := 0, locals := 24 } : Room).cells ({ frames := 2, cells := 0, slots := 0, locals := 24 } : Room).slots (Q_hmInit Z a1 h0 n0) (ef_hmInit m a1) ?_
  show own_G p.tables e below _ (s₁.setTop (mkF m 0 #[.val (.ref a1)] []))
  refine own_st (fun _ kS => XS.aloadN X0.here hx rfl (hb hby d14_0) rfl rfl kS) ?_
  show own_G p.tables e below _ (s₁.setTop (mkF m 1 #[.val (.ref a1)] [(.ref a1)]))
  obtain ⟨_, _, ⟨T1, L1, k1, n1⟩, -, X1, ⟨Lc1, hQ1, l1, y1, z1⟩, st1⟩ := X0.specialBack hx (y := (⟨"java/util/AbstractMap", "<init>", "()V"⟩ : MethodName)) rfl hown (mvT hZ (own_w hw 120 rfl)) (mvT hZ (own_w hw 121 rfl)) (mvT hZ (own_w hw 125 rfl)) (by decide) (backOf (W := 0) (rm_amInit l Z a0 hw [] a1 h0 n0 Z0  ) hZ (own_w hw 125 rfl) (own_w hw 124 rfl) (by decide) (by decide)) (g := (mkF m 1 #[.val (.ref a1)] [(.ref a1)])) rfl (by rw [hml]; rfl) (Steps.refl _) (a := a1) (argsL := []) (rest := []) (lenOf own_pd0 rfl) rfl (by show 2 * 0 + _ ≤ _; exact Nat.le_of_eq rfl) (hb hby d14_1) (fun _ _ => ⟨rfl, e0, (by decide : 0 + 0 ≤ _), (by decide : 0 + 0 ≤ _)⟩)
  dsimp only [Pt.U, Pt.locs, Pt.cells, Pt.slots] at X1 l1 y1 z1 st1 hQ1
  subst l1 y1 z1
  obtain ⟨rfl, Nq1, eq1⟩ := hQ1
  have N1 := Fr.app N0 Nq1
  refine own_tr st1 ?_
  show own_G p.tables e below _ (T1.setTop (mkF m 4 #[.val (.ref a1)] []))
  refine own_st (fun _ kS => XS.aloadN X1.here hx rfl (hb hby d14_4) rfl rfl kS) ?_
  show own_G p.tables e below _ (T1.setTop (mkF m 5 #[.val (.ref a1)] [(.ref a1)]))
  refine own_st (fun _ kS => X1.ldcFloatC hx hown (mvT hZ (own_w hw 127 rfl)) (g := (mkF m 5 #[.val (.ref a1)] [(.ref a1)])) rfl (hb hby d14_5) _ kS) ?_
  show own_G p.tables e below _ (T1.setTop (mkF m 7 #[.val (.ref a1)] [(.float (1061158912 : UInt32)), (.ref a1)]))
  obtain ⟨T2, h2, X2, e2, W2, st2⟩ := putF X1 hx hZ hown (host := "") (Or.inl (own_w hw 128 rfl)) Via.refl eq1 F_l E_1 (Or.inr ⟨(own_w hw 129 rfl), rfl, hnm⟩) (own_w hw 109 rfl) (ty := .float) (by decide) rfl rfl (g := (mkF m 7 #[.val (.ref a1)] [(.float (1061158912 : UInt32)), (.ref a1)])) rfl rfl (hb hby d14_7)
  refine own_st st2 ?_
  have N2 := Fr.snoc X2 N1 g_1
  have K2 := K0.wr W2 (Or.inl (List.mem_of_getElem? (i := 0) rfl))
  have Fw2 := Fld.same W2 F_l
  show own_G p.tables e below _ (T2.setTop (mkF m 10 #[.val (.ref a1)] []))
  exact own_retV X2 hx hlk hret (hb hby d14_10) (by decide) (by decide) (by rw [e2]; exact ⟨rfl, N2, K2, (Exa.wr W2 E_1), (Fld.other W2 F_p (Or.inr (slot_ne (Or.inl (own_w hw 131 rfl)) (Or.inr (own_w hw 129 rfl)) (by decide) (t := .int) (t' := .float) (by decide) (by decide)))), (Fld.other W2 F_a (Or.inr (slot_ne (Or.inr (own_w hw 133 rfl)) (Or.inr (own_w hw 129 rfl)) (by decide) (t := .boolean) (t' := .float) (by decide) (by decide))))⟩)
theorem d13_0 : decode jdk_94_method_16_code 0 = .ok (.aload_n 0, 1) := by decide +kernel
theorem d13_1 : decode jdk_94_method_16_code 1 = .ok (.invokespecial 87, 3) := by decide +kernel
theorem d13_4 : decode jdk_94_method_16_code 4 = .ok (.aload_n 0, 1) := by decide +kernel
theorem d13_5 : decode jdk_94_method_16_code 5 = .ok (.iconst 0, 1) := by decide +kernel
theorem d13_6 : decode jdk_94_method_16_code 6 = .ok (.putfield 1, 3) := by decide +kernel
theorem d13_9 : decode jdk_94_method_16_code 9 = .ok (.aload_n 0, 1) := by decide +kernel
theorem d13_10 : decode jdk_94_method_16_code 10 = .ok (.iconst 0, 1) := by decide +kernel
theorem d13_11 : decode jdk_94_method_16_code 11 = .ok (.putfield 64, 3) := by decide +kernel
theorem d13_14 : decode jdk_94_method_16_code 14 = .ok (.return_, 1) := by decide +kernel
theorem pn_13 : plainName "java/util/LinkedHashMap" = true := by first | (simp [plainName, overriddenIn]; done) | decide +kernel
theorem ef_lhmInit (m : MethodId) (x0 : Addr) : entryFrame m #[(.ref x0)] 1 = mkF m 0 #[.val (.ref x0)] [] := by first | (simp [entryFrame, mkF, argsToLocals, Value.category]; done) | rfl
def Q_lhmInit (Z : State) (a1 : Addr) (h0 : Heap) (n0 : Nat) (v : Option Value) (h : Heap) (L : List Loc) : Prop := v = none ∧ Fr n0 L ∧ Keep h0 h [a1] ∧ Exa Z h a1 "java/util/LinkedHashMap"
set_option maxRecDepth 65536 in
set_option maxHeartbeats 40000000 in
theorem rm_lhmInit (l : Launch) (Z : State) (a0 : Array Value) (hw : ∀ d ∈ tables_1, d.before a0 Z = true) (ws : List Jvm.Cond) (a1 : Addr) (h0 : Heap) (n0 : Nat) (Z0 : n0 ≤ h0.size) (E_1 : Exa Z h0 a1 "java/util/LinkedHashMap") (g_1 : n0 ≤ a1) (F_l : Fld Z h0 a1 "java/util/HashMap" "loadFactor" "F" (.float (0 : UInt32))) (F_p : Fld Z h0 a1 "java/util/LinkedHashMap" "putMode" "I" (.int (0 : Int32))) (F_a : Fld Z h0 a1 "java/util/LinkedHashMap" "accessOrder" "Z" (.int (0 : Int32))) :
    MetFree l (⟨"java/util/LinkedHashMap", "<init>", "()V"⟩ : MethodName) (head1 (Jvm.Cond.code (⟨"java/util/LinkedHashMap", "<init>", "()V"⟩ : MethodName) jdk_94_method_16_code 1 none :: ws) ({ frames := 3, cells := 0, slots := 0, locals := 36 } : Room)) (fun a U => a = #[(.ref a1)] ∧ Z.Warmed39 U.vm ∧ U.heap = h0) (fun _ _ _ _ _ => True) (fun _ U o U' => ∃ v L, o = .returned v ∧ Q_lhmInit Z a1 h0 n0 v U'.heap L ∧ FrameEnd U o U' L ({ frames := 3, cells := 0, slots := 0, locals := 36 } : Room).cells ({ frames := 3, cells := 0, slots := 0, locals := 36 } : Room).slots) := by
  refine MetFree.of_bodySF (plainFor_of_name pn_13) hisR ?_
  intro p e s m args below meth c s₁ Bd hml0 hP hK
  obtain ⟨rfl, hZ, hh⟩ := hP
  have hx := Bd.exec
  have hby := Bd.bytes
  have hml : c.maxLocals = 1 := hml0
  have hown : s.vm.findClass "java/util/LinkedHashMap" = some m.cls := findClass_of_methodNamed Bd.named
  have hnm := (name_of_methodNamed Bd.named Bd.method).1
  have hlk := Bd.notSynchronized
  have hret := Bd.returns
  have X0 : Stand p l e ({ frames := 3, cells := 0, slots := 0, locals := 36 } : Room) s m #[(.ref a1)] below meth c s₁ [] 0 0 := Stand.of_body Bd
  have e0 : s₁.heap = h0 := by rw [← hh, Bd.state]; rfl
  have N0 := Fr.nil n0
  have K0 := Keep.refl h0 [a1]
  refine own_in ({ frames := 3, cells := 0, slots := 0, locals := 36 } : Room).cells ({ frames := 3, cells := 0, slots := 0, locals := 36 } : Room).slots (Q_lhmInit Z a1 h0 n0) (ef_lhmInit m a1) ?_
  show own_G p.tables e below _ (s₁.setTop (mkF m 0 #[.val (.ref a1)] []))
  refine own_st (fun _ kS => XS.aloadN X0.here hx rfl (hb hby d13_0) rfl rfl kS) ?_
  show own_G p.tables e below _ (s₁.setTop (mkF m 1 #[.val (.ref a1)] [(.ref a1)]))
  obtain ⟨_, _, ⟨T1, L1, k1, n1⟩, -, X1, ⟨Lc1, hQ1, l1, y1, z1⟩, st1⟩ := X0.specialBack hx (y := (⟨"java/util/HashMap", "<init>", "()V"⟩ : MethodName)) rfl hown (mvT hZ (own_w hw 114 rfl)) (mvT hZ (own_w hw 115 rfl)) (mvT hZ (own_w hw 119 rfl)) (by decide) (backOf (W := 0) (rm_hmInit l Z a0 hw [] a1 h0 n0 Z0  E_1 g_1 F_l F_p F_a) hZ (own_w hw 119 rfl) (own_w hw 118 rfl) (by decide) (by decide)) (g := (mkF m 1 #[.val (.ref a1)] [(.ref a1)])) rfl (by rw [hml]; rfl) (Steps.refl _) (a := a1) (argsL := []) (rest := []) (lenOf own_pd0 rfl) rfl (by show 2 * 0 + _ ≤ _; exact Nat.le_of_eq rfl) (hb hby d13_1) (fun _ _ => ⟨rfl, e0, (by decide : 0 + 0 ≤ _), (by decide : 0 + 0 ≤ _)⟩)
  dsimp only [Pt.U, Pt.locs, Pt.cells, Pt.slots] at X1 l1 y1 z1 st1 hQ1
  subst l1 y1 z1
  obtain ⟨rfl, Nq1, Kc1, P1_0, P1_1, P1_2⟩ := hQ1
  have N1 := Fr.app N0 Nq1
  have K1 := K0.trans Kc1 (allS (Or.inl (List.mem_of_getElem? (i := 0) rfl)) all0)
  refine own_tr st1 ?_
  show own_G p.tables e below _ (T1.setTop (mkF m 4 #[.val (.ref a1)] []))
  refine own_st (fun _ kS => XS.aloadN X1.here hx rfl (hb hby d13_4) rfl rfl kS) ?_
  refine own_st (fun _ kS => XS.iconst X1.here hx rfl (hb hby d13_5) kS) ?_
  show own_G p.tables e below _ (T1.setTop (mkF m 6 #[.val (.ref a1)] [(.int (0 : Int32)), (.ref a1)]))
  obtain ⟨T2, h2, X2, e2, W2, st2⟩ := putF X1 hx hZ hown (host := "") (Or.inl (own_w hw 130 rfl)) Via.refl rfl P1_1 P1_0 (Or.inl (own_w hw 131 rfl)) (own_w hw 109 rfl) (ty := .int) (by decide) rfl rfl (g := (mkF m 6 #[.val (.ref a1)] [(.int (0 : Int32)), (.ref a1)])) rfl rfl (hb hby d13_6)
  refine own_st st2 ?_
  have N2 := Fr.snoc X2 N1 g_1
  have K2 := K1.wr W2 (Or.inl (List.mem_of_getElem? (i := 0) rfl))
  have Fw2 := Fld.same W2 P1_1
  show own_G p.tables e below _ (T2.setTop (mkF m 9 #[.val (.ref a1)] []))
  refine own_st (fun _ kS => XS.aloadN X2.here hx rfl (hb hby d13_9) rfl rfl kS) ?_
  refine own_st (fun _ kS => XS.iconst X2.here hx rfl (hb hby d13_10) kS) ?_
  show own_G p.tables e below _ (T2.setTop (mkF m 11 #[.val (.ref a1)] [(.int (0 : Int32)), (.ref a1)]))
  obtain ⟨T3, h3, X3, e3, W3, st3⟩ := putFN X2 hx hZ hown (own_w hw 132 rfl) Via.refl e2 (Fld.other W2 P1_2 (Or.inr (slot_ne (Or.inr (own_w hw 133 rfl)) (Or.inl (own_w hw 131 rfl)) (by decide) (t := .boolean) (t' := .int) (by decide) (by decide)))) (Exa.wr W2 P1_0) (Or.inr ⟨(own_w hw 133 rfl), rfl, hnm⟩) (own_w hw 109 rfl) (ty := .boolean) (v' := (.int (0 : Int32))) (by decide) rfl (by decide) (g := (mkF m 11 #[.val (.ref a1)] [(.int (0 : Int32)), (.ref a1)])) rfl rfl (hb hby d13_11)
  refine own_st st3 ?_
  have N3 := Fr.snoc X3 N2 g_1
  have K3 := K2.wr W3 (Or.inl (List.mem_of_getElem? (i := 0) rfl))
  have Fw3 := Fld.same W3 (Fld.other W2 P1_2 (Or.inr (slot_ne (Or.inr (own_w hw 133 rfl)) (Or.inl (own_w hw 131 rfl)) (by decide) (t := .boolean) (t' := .int) (by decide) (by decide))))
  show own_G p.tables e below _ (T3.setTop (mkF m 14 #[.val (.ref a1)] []))
  exact own_retV X3 hx hlk hret (hb hby d13_14) (by decide) (by decide) (by rw [e3]; exact ⟨rfl, N3, K3, (Exa.wr W3 (Exa.wr W2 P1_0))⟩)
theorem d12_0 : decode prog_30_method_1_code 0 = .ok (.aload_n 0, 1) := by decide +kernel
theorem d12_1 : decode prog_30_method_1_code 1 = .ok (.invokespecial 1, 3) := by decide +kernel
theorem d12_4 : decode prog_30_method_1_code 4 = .ok (.aload_n 0, 1) := by decide +kernel
theorem d12_5 : decode prog_30_method_1_code 5 = .ok (.new 7, 3) := by decide +kernel
theorem d12_8 : decode prog_30_method_1_code 8 = .ok (.dup, 1) := by decide +kernel
theorem d12_9 : decode prog_30_method_1_code 9 = .ok (.invokespecial 9, 3) := by decide +kernel
theorem d12_12 : decode prog_30_method_1_code 12 = .ok (.putfield 10, 3) := by decide +kernel
theorem d12_15 : decode prog_30_method_1_code 15 = .ok (.aload_n 0, 1) := by decide +kernel
theorem d12_16 : decode prog_30_method_1_code 16 = .ok (.new 7, 3) := by decide +kernel
theorem d12_19 : decode prog_30_method_1_code 19 = .ok (.dup, 1) := by decide +kernel
theorem d12_20 : decode prog_30_method_1_code 20 = .ok (.invokespecial 9, 3) := by decide +kernel
theorem d12_23 : decode prog_30_method_1_code 23 = .ok (.putfield 16, 3) := by decide +kernel
theorem d12_26 : decode prog_30_method_1_code 26 = .ok (.aload_n 1, 1) := by decide +kernel
theorem d12_27 : decode prog_30_method_1_code 27 = .ok (.getstatic 19, 3) := by decide +kernel
theorem d12_30 : decode prog_30_method_1_code 30 = .ok (.invokevirtual 25, 3) := by decide +kernel
theorem d12_33 : decode prog_30_method_1_code 33 = .ok (.invokeinterface 31 1, 5) := by decide +kernel
theorem d12_38 : decode prog_30_method_1_code 38 = .ok (.astore_n 2, 1) := by decide +kernel
theorem d12_39 : decode prog_30_method_1_code 39 = .ok (.aload_n 2, 1) := by decide +kernel
theorem d12_40 : decode prog_30_method_1_code 40 = .ok (.invokeinterface 37 1, 5) := by decide +kernel
theorem d12_45 : decode prog_30_method_1_code 45 = .ok (.ifCond .eq 31, 3) := by decide +kernel
theorem d12_48 : decode prog_30_method_1_code 48 = .ok (.aload_n 2, 1) := by decide +kernel
theorem d12_49 : decode prog_30_method_1_code 49 = .ok (.invokeinterface 43 1, 5) := by decide +kernel
theorem d12_54 : decode prog_30_method_1_code 54 = .ok (.checkcast 47, 3) := by decide +kernel
theorem d12_57 : decode prog_30_method_1_code 57 = .ok (.astore_n 3, 1) := by decide +kernel
theorem d12_58 : decode prog_30_method_1_code 58 = .ok (.aload_n 0, 1) := by decide +kernel
theorem d12_59 : decode prog_30_method_1_code 59 = .ok (.getfield 10, 3) := by decide +kernel
theorem d12_62 : decode prog_30_method_1_code 62 = .ok (.aload_n 3, 1) := by decide +kernel
theorem d12_63 : decode prog_30_method_1_code 63 = .ok (.iconst 0, 1) := by decide +kernel
theorem d12_64 : decode prog_30_method_1_code 64 = .ok (.invokestatic 49, 3) := by decide +kernel
theorem d12_67 : decode prog_30_method_1_code 67 = .ok (.invokeinterface 55 3, 5) := by decide +kernel
theorem d12_72 : decode prog_30_method_1_code 72 = .ok (.pop, 1) := by decide +kernel
theorem d12_73 : decode prog_30_method_1_code 73 = .ok (.goto (-34), 3) := by decide +kernel
theorem d12_76 : decode prog_30_method_1_code 76 = .ok (.aload_n 1, 1) := by decide +kernel
theorem d12_77 : decode prog_30_method_1_code 77 = .ok (.getstatic 61, 3) := by decide +kernel
theorem d12_80 : decode prog_30_method_1_code 80 = .ok (.invokevirtual 25, 3) := by decide +kernel
theorem d12_83 : decode prog_30_method_1_code 83 = .ok (.invokeinterface 31 1, 5) := by decide +kernel
theorem d12_88 : decode prog_30_method_1_code 88 = .ok (.astore_n 2, 1) := by decide +kernel
theorem d12_89 : decode prog_30_method_1_code 89 = .ok (.aload_n 2, 1) := by decide +kernel
theorem d12_90 : decode prog_30_method_1_code 90 = .ok (.invokeinterface 37 1, 5) := by decide +kernel
theorem d12_95 : decode prog_30_method_1_code 95 = .ok (.ifCond .eq 31, 3) := by decide +kernel
theorem d12_98 : decode prog_30_method_1_code 98 = .ok (.aload_n 2, 1) := by decide +kernel
theorem d12_99 : decode prog_30_method_1_code 99 = .ok (.invokeinterface 43 1, 5) := by decide +kernel
theorem d12_104 : decode prog_30_method_1_code 104 = .ok (.checkcast 47, 3) := by decide +kernel
theorem d12_107 : decode prog_30_method_1_code 107 = .ok (.astore_n 3, 1) := by decide +kernel
theorem d12_108 : decode prog_30_method_1_code 108 = .ok (.aload_n 0, 1) := by decide +kernel
theorem d12_109 : decode prog_30_method_1_code 109 = .ok (.getfield 16, 3) := by decide +kernel
theorem d12_112 : decode prog_30_method_1_code 112 = .ok (.aload_n 3, 1) := by decide +kernel
theorem d12_113 : decode prog_30_method_1_code 113 = .ok (.iconst 0, 1) := by decide +kernel
theorem d12_114 : decode prog_30_method_1_code 114 = .ok (.invokestatic 49, 3) := by decide +kernel
theorem d12_117 : decode prog_30_method_1_code 117 = .ok (.invokeinterface 55 3, 5) := by decide +kernel
theorem d12_122 : decode prog_30_method_1_code 122 = .ok (.pop, 1) := by decide +kernel
theorem d12_123 : decode prog_30_method_1_code 123 = .ok (.goto (-34), 3) := by decide +kernel
theorem d12_126 : decode prog_30_method_1_code 126 = .ok (.return_, 1) := by decide +kernel
theorem pn_12 : plainName "com/example/cartouche/cartouche/checking/Summary" = true := by first | (simp [plainName, overriddenIn]; done) | decide +kernel
theorem ef_sumInit0 (m : MethodId) (x0 : Addr) (x1 : Addr) : entryFrame m #[(.ref x0), (.ref x1)] 4 = mkF m 0 #[.val (.ref x0), .val (.ref x1), .unset, .unset] [] := by first | (simp [entryFrame, mkF, argsToLocals, Value.category]; done) | rfl
def Q_sumInit0 (Z : State) (a0s : Addr) (a1 : Addr) (wL : Addr) (wE : Addr) (kE : ClassId) (wD : Addr) (w_REQUIRED : Addr) (w_RECOMMENDED : Addr) (h0 : Heap) (n0 : Nat) (v : Option Value) (h : Heap) (L : List Loc) : Prop := v = none ∧ Fr n0 L ∧ Keep h0 h [a0s] ∧ Exa Z h a0s "com/example/cartouche/cartouche/checking/Summary" ∧ Fld Z h a0s "com/example/cartouche/cartouche/checking/Summary" "unreadable" "I" (.int (0 : Int32)) ∧ Fld Z h a0s "com/example/cartouche/cartouche/checking/Summary" "conforming" "I" (.int (0 : Int32)) ∧ Fld Z h a0s "com/example/cartouche/cartouche/checking/Summary" "records" "I" (.int (0 : Int32))
set_option maxRecDepth 65536 in
set_option maxHeartbeats 40000000 in
theorem rm_sumInit0 (l : Launch) (Z : State) (a0 : Array Value) (hw : ∀ d ∈ tables_1, d.before a0 Z = true) (ws : List Jvm.Cond) (a0s : Addr) (a1 : Addr) (wL : Addr) (wE : Addr) (kE : ClassId) (wD : Addr) (w_REQUIRED : Addr) (w_RECOMMENDED : Addr) (h0 : Heap) (n0 : Nat) (Z0 : n0 ≤ h0.size) (O0 : Old Z n0 h0) (E_0 : Exa Z h0 a0s "com/example/cartouche/cartouche/checking/Summary") (g_0 : n0 ≤ a0s) (ne01 : a0s ≠ a1) (F0_failingByRule : Fld Z h0 a0s "com/example/cartouche/cartouche/checking/Summary" "failingByRule" "Ljava/util/Map;" .null) (F0_warningsByRule : Fld Z h0 a0s "com/example/cartouche/cartouche/checking/Summary" "warningsByRule" "Ljava/util/Map;" .null) (F0_unreadable : Fld Z h0 a0s "com/example/cartouche/cartouche/checking/Summary" "unreadable" "I" (.int (0 : Int32))) (F0_conforming : Fld Z h0 a0s "com/example/cartouche/cartouche/checking/Summary" "conforming" "I" (.int (0 : Int32))) (F0_records : Fld Z h0 a0s "com/example/cartouche/cartouche/checking/Summary" "records" "I" (.int (0 : Int32))) (E_1 : Exa Z h0 a1 "com/example/cartouche/cartouche/checking/Profile") (F_r : Fld Z h0 a1 "com/example/cartouche/cartouche/checking/Profile" "rules" "Ljava/util/List;" (.ref wL)) (E_L : Exa Z Z.heap wL "java/util/ImmutableCollections$ListN") (F_el : Fld Z Z.heap wL "java/util/ImmutableCollections$ListN" "elements" "[Ljava/lang/Object;" (.ref wE)) (R_E : Arv Z Z.heap wE kE (.object "java/lang/Object") (0 : Int32) [] .null) (S_D : Sta Z Z.heap "java/util/ArrayList" "DEFAULTCAPACITY_EMPTY_ELEMENTDATA" "[Ljava/lang/Object;" (.ref wD)) (S_REQUIRED : Sta Z Z.heap "com/example/cartouche/cartouche/checking/Level" "REQUIRED" "Lcom/example/cartouche/cartouche/checking/Level;" (.ref w_REQUIRED)) (S_RECOMMENDED : Sta Z Z.heap "com/example/cartouche/cartouche/checking/Level" "RECOMMENDED" "Lcom/example/cartouche/cartouche/checking/Level;" (.ref w_RECOMMENDED)) :
    MetFree l (⟨"com/example/cartouche/cartouche/checking/Summary", "<init>", "(Lcom/example/cartouche/cartouche/checking/Profile;)V"⟩ : MethodName) (head1 (Jvm.Cond.code (⟨"com/example/cartouche/cartouche/checking/Summary", "<init>", "(Lcom/example/cartouche/cartouche/checking/Profile;)V"⟩ : MethodName) prog_30_method_1_code 4 none :: ws) ({ frames := 5, cells := 8, slots := 46, locals := 65 } : Room)) (fun a U => a = #[(.ref a0s), (.ref a1)] ∧ Z.Warmed39 U.vm ∧ U.heap = h0) (fun _ _ _ _ _ => True) (fun _ U o U' => ∃ v L, o = .returned v ∧ Q_sumInit0 Z a0s a1 wL wE kE wD w_REQUIRED w_RECOMMENDED h0 n0 v U'.heap L ∧ FrameEnd U o U' L ({ frames := 5, cells := 8, slots := 46, locals := 65 } : Room).cells ({ frames := 5, cells := 8, slots := 46, locals := 65 } : Room).slots) := by
  refine MetFree.of_bodySF (plainFor_of_name pn_12) hisR ?_
  intro p e s m args below meth c s₁ Bd hml0 hP hK
  obtain ⟨rfl, hZ, hh⟩ := hP
  have hx := Bd.exec
  have hby := Bd.bytes
  have hml : c.maxLocals = 4 := hml0
  have hown : s.vm.findClass "com/example/cartouche/cartouche/checking/Summary" = some m.cls := findClass_of_methodNamed Bd.named
  have hnm := (name_of_methodNamed Bd.named Bd.method).1
  have hlk := Bd.notSynchronized
  have hret := Bd.returns
  have X0 : Stand p l e ({ frames := 5, cells := 8, slots := 46, locals := 65 } : Room) s m #[(.ref a0s), (.ref a1)] below meth c s₁ [] 0 0 := Stand.of_body Bd
  have e0 : s₁.heap = h0 := by rw [← hh, Bd.state]; rfl
  have N0 := Fr.nil n0
  have K0 := Keep.refl h0 [a0s]
  refine own_in ({ frames := 5, cells := 8, slots := 46, locals := 65 } : Room).cells ({ frames := 5, cells := 8, slots := 46, locals := 65 } : Room).slots (Q_sumInit0 Z a0s a1 wL wE kE wD w_REQUIRED w_RECOMMENDED h0 n0) (ef_sumInit0 m a0s a1) ?_
  show own_G p.tables e below _ (s₁.setTop (mkF m 0 #[.val (.ref a0s), .val (.ref a1), .unset, .unset] []))
  refine own_st (fun _ kS => XS.aloadN X0.here hx rfl (hb hby d12_0) rfl rfl kS) ?_
  show own_G p.tables e below _ (s₁.setTop (mkF m 1 #[.val (.ref a0s), .val (.ref a1), .unset, .unset] [(.ref a0s)]))
  obtain ⟨T1, X1, e1, st1⟩ := initO X0 hx hZ hown (own_w hw 107 rfl) (own_w hw 31 rfl) (own_w hw 32 rfl) e0 (g := (mkF m 1 #[.val (.ref a0s), .val (.ref a1), .unset, .unset] [(.ref a0s)])) rfl (by rw [hml]; rfl) rfl (hb hby d12_1) (by decide) (W := 0) (by show 2 * 0 + _ ≤ _; exact Nat.le_of_eq rfl) (by decide)
  refine own_st st1 ?_
  show own_G p.tables e below _ (T1.setTop (mkF m 4 #[.val (.ref a0s), .val (.ref a1), .unset, .unset] []))
  refine own_st (fun _ kS => XS.aloadN X1.here hx rfl (hb hby d12_4) rfl rfl kS) ?_
  show own_G p.tables e below _ (T1.setTop (mkF m 5 #[.val (.ref a0s), .val (.ref a1), .unset, .unset] [(.ref a0s)]))
  obtain ⟨T2, h2, X2, e2, E2, A2, D2, -, st2⟩ := newO X1 hx hZ hown (own_w hw 108 rfl) (own_w hw 109 rfl) (own_w hw 110 rfl) e1 (g := (mkF m 5 #[.val (.ref a0s), .val (.ref a1), .unset, .unset] [(.ref a0s)])) rfl (hb hby d12_5) (by decide) (by decide)
  obtain ⟨b2, g2⟩ : ∃ z, z = h0.size := ⟨_, rfl⟩
  have ne_a0s_b2 : a0s ≠ b2 := Nat.ne_of_lt (Nat.lt_of_lt_of_eq E_0.lt g2.symm)
  have ne_a1_b2 : a1 ≠ b2 := Nat.ne_of_lt (Nat.lt_of_lt_of_eq E_1.lt g2.symm)
  have ge_b2 : n0 ≤ b2 := Nat.le_trans Z0 (Nat.le_of_eq g2.symm)
  have sz_b2 : h0.size ≤ b2 := Nat.le_trans K0.1 (Nat.le_of_eq g2.symm)
  rw [← g2] at A2 D2 st2
  have K2 := K0.ext E2
  have O2 := O0.ext E2
  have F2_loadFactor : Fld Z h2 b2 "java/util/HashMap" "loadFactor" "F" (.float (0 : UInt32)) := D2 (Or.inr (own_w hw 129 rfl)) (ty := .float) (by decide)
  have F2_putMode : Fld Z h2 b2 "java/util/LinkedHashMap" "putMode" "I" (.int (0 : Int32)) := D2 (Or.inl (own_w hw 131 rfl)) (ty := .int) (by decide)
  have F2_accessOrder : Fld Z h2 b2 "java/util/LinkedHashMap" "accessOrder" "Z" (.int (0 : Int32)) := D2 (Or.inr (own_w hw 133 rfl)) (ty := .boolean) (by decide)
  refine own_st st2 ?_
  show own_G p.tables e below _ (T2.setTop (mkF m 8 #[.val (.ref a0s), .val (.ref a1), .unset, .unset] [(.ref b2), (.ref a0s)]))
  refine own_st (fun _ kS => XS.dup X2.here hx rfl (hb hby d12_8) rfl rfl kS) ?_
  show own_G p.tables e below _ (T2.setTop (mkF m 9 #[.val (.ref a0s), .val (.ref a1), .unset, .unset] [(.ref b2), (.ref b2), (.ref a0s)]))
  obtain ⟨_, _, ⟨T3, L3, k3, n3⟩, -, X3, ⟨Lc3, hQ3, l3, y3, z3⟩, st3⟩ := X2.specialBack hx (y := (⟨"java/util/LinkedHashMap", "<init>", "()V"⟩ : MethodName)) rfl hown (mvT hZ (own_w hw 111 rfl)) (mvT hZ (own_w hw 112 rfl)) (mvT hZ (own_w hw 113 rfl)) (by decide) (backOf (W := 2) (rm_lhmInit l Z a0 hw [] b2 h2 n0 (Nat.le_trans Z0 E2.1)  A2 ge_b2 F2_loadFactor F2_putMode F2_accessOrder) hZ (own_w hw 113 rfl) (own_w hw 110 rfl) (by decide) (by decide)) (g := (mkF m 9 #[.val (.ref a0s), .val (.ref a1), .unset, .unset] [(.ref b2), (.ref b2), (.ref a0s)])) rfl (by rw [hml]; rfl) (Steps.refl _) (a := b2) (argsL := []) (rest := [(.ref b2), (.ref a0s)]) (lenOf own_pd0 rfl) rfl (by show 2 * 0 + _ ≤ _; exact Nat.le_of_eq rfl) (hb hby d12_9) (fun _ _ => ⟨rfl, e2, (by decide : 1 + 0 ≤ _), (by decide : 12 + 0 ≤ _)⟩)
  dsimp only [Pt.U, Pt.locs, Pt.cells, Pt.slots] at X3 l3 y3 z3 st3 hQ3
  subst l3 y3 z3
  obtain ⟨rfl, Nq3, Kc3, P3_0⟩ := hQ3
  have N3 := Fr.app N0 Nq3
  have K3 := K2.trans Kc3 (allS (Or.inr sz_b2) all0)
  have O3 := O2.keep Kc3 (allS ge_b2 all0)
  refine own_tr st3 ?_
  show own_G p.tables e below _ (T3.setTop (mkF m 12 #[.val (.ref a0s), .val (.ref a1), .unset, .unset] [(.ref b2), (.ref a0s)]))
  obtain ⟨T4, h4, X4, e4, W4, st4⟩ := putF X3 hx hZ hown (host := "") (Or.inl (own_w hw 134 rfl)) Via.refl rfl ((Fld.ext E2 F0_failingByRule).keep Kc3 (ninS ne_a0s_b2 nin0)) ((Exa.ext E2 E_0).keep Kc3) (Or.inr ⟨(own_w hw 135 rfl), rfl, hnm⟩) (own_w hw 102 rfl) (ty := (.object "java/util/Map")) (by decide) rfl rfl (g := (mkF m 12 #[.val (.ref a0s), .val (.ref a1), .unset, .unset] [(.ref b2), (.ref a0s)])) rfl rfl (hb hby d12_12)
  refine own_st st4 ?_
  have N4 := Fr.snoc X4 N3 g_0
  have K4 := K3.wr W4 (Or.inl (List.mem_of_getElem? (i := 0) rfl))
  have O4 := O3.wr W4 g_0
  have Fw4 := Fld.same W4 ((Fld.ext E2 F0_failingByRule).keep Kc3 (ninS ne_a0s_b2 nin0))
  show own_G p.tables e below _ (T4.setTop (mkF m 15 #[.val (.ref a0s), .val (.ref a1), .unset, .unset] []))
  refine own_st (fun _ kS => XS.aloadN X4.here hx rfl (hb hby d12_15) rfl rfl kS) ?_
  show own_G p.tables e below _ (T4.setTop (mkF m 16 #[.val (.ref a0s), .val (.ref a1), .unset, .unset] [(.ref a0s)]))
  obtain ⟨T5, h5, X5, e5, E5, A5, D5, -, st5⟩ := newO X4 hx hZ hown (own_w hw 108 rfl) (own_w hw 109 rfl) (own_w hw 110 rfl) e4 (g := (mkF m 16 #[.val (.ref a0s), .val (.ref a1), .unset, .unset] [(.ref a0s)])) rfl (hb hby d12_16) (by decide) (by decide)
  obtain ⟨b5, g5⟩ : ∃ z, z = h4.size := ⟨_, rfl⟩
  have ne_a0s_b5 : a0s ≠ b5 := Nat.ne_of_lt (Nat.lt_of_lt_of_eq (Exa.wr W4 ((Exa.ext E2 E_0).keep Kc3)).lt g5.symm)
  have ne_a1_b5 : a1 ≠ b5 := Nat.ne_of_lt (Nat.lt_of_lt_of_eq (Exa.wr W4 ((Exa.ext E2 E_1).keep Kc3)).lt g5.symm)
  have ne_b2_b5 : b2 ≠ b5 := Nat.ne_of_lt (Nat.lt_of_lt_of_eq (Exa.wr W4 P3_0).lt g5.symm)
  have ge_b5 : n0 ≤ b5 := Nat.le_trans (Nat.le_trans (Nat.le_trans (Nat.le_trans Z0 E2.1) Kc3.1) (Keep.of_wr W4).1) (Nat.le_of_eq g5.symm)
  have sz_b5 : h0.size ≤ b5 := Nat.le_trans K4.1 (Nat.le_of_eq g5.symm)
  rw [← g5] at A5 D5 st5
  have K5 := K4.ext E5
  have O5 := O4.ext E5
  have F5_loadFactor : Fld Z h5 b5 "java/util/HashMap" "loadFactor" "F" (.float (0 : UInt32)) := D5 (Or.inr (own_w hw 129 rfl)) (ty := .float) (by decide)
  have F5_putMode : Fld Z h5 b5 "java/util/LinkedHashMap" "putMode" "I" (.int (0 : Int32)) := D5 (Or.inl (own_w hw 131 rfl)) (ty := .int) (by decide)
  have F5_accessOrder : Fld Z h5 b5 "java/util/LinkedHashMap" "accessOrder" "Z" (.int (0 : Int32)) := D5 (Or.inr (own_w hw 133 rfl)) (ty := .boolean) (by decide)
  refine own_st st5 ?_
  show own_G p.tables e below _ (T5.setTop (mkF m 19 #[.val (.ref a0s), .val (.ref a1), .unset, .unset] [(.ref b5), (.ref a0s)]))
  refine own_st (fun _ kS => XS.dup X5.here hx rfl (hb hby d12_19) rfl rfl kS) ?_
  show own_G p.tables e below _ (T5.setTop (mkF m 20 #[.val (.ref a0s), .val (.ref a1), .unset, .unset] [(.ref b5), (.ref b5), (.ref a0s)]))
  obtain ⟨_, _, ⟨T6, L6, k6, n6⟩, -, X6, ⟨Lc6, hQ6, l6, y6, z6⟩, st6⟩ := X5.specialBack hx (y := (⟨"java/util/LinkedHashMap", "<init>", "()V"⟩ : MethodName)) rfl hown (mvT hZ (own_w hw 111 rfl)) (mvT hZ (own_w hw 112 rfl)) (mvT hZ (own_w hw 113 rfl)) (by decide) (backOf (W := 2) (rm_lhmInit l Z a0 hw [] b5 h5 n0 (Nat.le_trans (Nat.le_trans (Nat.le_trans (Nat.le_trans Z0 E2.1) Kc3.1) (Keep.of_wr W4).1) E5.1)  A5 ge_b5 F5_loadFactor F5_putMode F5_accessOrder) hZ (own_w hw 113 rfl) (own_w hw 110 rfl) (by decide) (by decide)) (g := (mkF m 20 #[.val (.ref a0s), .val (.ref a1), .unset, .unset] [(.ref b5), (.ref b5), (.ref a0s)])) rfl (by rw [hml]; rfl) (Steps.refl _) (a := b5) (argsL := []) (rest := [(.ref b5), (.ref a0s)]) (lenOf own_pd0 rfl) rfl (by show 2 * 0 + _ ≤ _; exact Nat.le_of_eq rfl) (hb hby d12_20) (fun _ _ => ⟨rfl, e5, (by decide : 2 + 0 ≤ _), (by decide : 24 + 0 ≤ _)⟩)
  dsimp only [Pt.U, Pt.locs, Pt.cells, Pt.slots] at X6 l6 y6 z6 st6 hQ6
  subst l6 y6 z6
  obtain ⟨rfl, Nq6, Kc6, P6_0⟩ := hQ6
  have N6 := Fr.app N4 Nq6
  have K6 := K5.trans Kc6 (allS (Or.inr sz_b5) all0)
  have O6 := O5.keep Kc6 (allS ge_b5 all0)
  refine own_tr st6 ?_
  show own_G p.tables e below _ (T6.setTop (mkF m 23 #[.val (.ref a0s), .val (.ref a1), .unset, .unset] [(.ref b5), (.ref a0s)]))
  obtain ⟨T7, h7, X7, e7, W7, st7⟩ := putF X6 hx hZ hown (host := "") (Or.inl (own_w hw 136 rfl)) Via.refl rfl ((Fld.ext E5 (Fld.other W4 ((Fld.ext E2 F0_warningsByRule).keep Kc3 (ninS ne_a0s_b2 nin0)) (Or.inr (slot_ne (Or.inr (own_w hw 137 rfl)) (Or.inr (own_w hw 135 rfl)) (by decide) (t := (.object "java/util/Map")) (t' := (.object "java/util/Map")) (by decide) (by decide))))).keep Kc6 (ninS ne_a0s_b5 nin0)) ((Exa.ext E5 (Exa.wr W4 ((Exa.ext E2 E_0).keep Kc3))).keep Kc6) (Or.inr ⟨(own_w hw 137 rfl), rfl, hnm⟩) (own_w hw 102 rfl) (ty := (.object "java/util/Map")) (by decide) rfl rfl (g := (mkF m 23 #[.val (.ref a0s), .val (.ref a1), .unset, .unset] [(.ref b5), (.ref a0s)])) rfl rfl (hb hby d12_23)
  refine own_st st7 ?_
  have N7 := Fr.snoc X7 N6 g_0
  have K7 := K6.wr W7 (Or.inl (List.mem_of_getElem? (i := 0) rfl))
  have O7 := O6.wr W7 g_0
  have Fw7 := Fld.same W7 ((Fld.ext E5 (Fld.other W4 ((Fld.ext E2 F0_warningsByRule).keep Kc3 (ninS ne_a0s_b2 nin0)) (Or.inr (slot_ne (Or.inr (own_w hw 137 rfl)) (Or.inr (own_w hw 135 rfl)) (by decide) (t := (.object "java/util/Map")) (t' := (.object "java/util/Map")) (by decide) (by decide))))).keep Kc6 (ninS ne_a0s_b5 nin0))
  show own_G p.tables e below _ (T7.setTop (mkF m 26 #[.val (.ref a0s), .val (.ref a1), .unset, .unset] []))
  refine own_st (fun _ kS => XS.aloadN X7.here hx rfl (hb hby d12_26) rfl rfl kS) ?_
  show own_G p.tables e below _ (T7.setTop (mkF m 27 #[.val (.ref a0s), .val (.ref a1), .unset, .unset] [(.ref a1)]))
  obtain ⟨T8, X8, e8, st8⟩ := getS2 X7 hx hZ hown (host := "") (Or.inl (own_w hw 138 rfl)) Via.refl e7 (Sta.ext O7.2 S_REQUIRED) (g := (mkF m 27 #[.val (.ref a0s), .val (.ref a1), .unset, .unset] [(.ref a1)])) rfl (hb hby d12_27)
  refine own_st st8 ?_
  show own_G p.tables e below _ (T8.setTop (mkF m 30 #[.val (.ref a0s), .val (.ref a1), .unset, .unset] [(.ref w_REQUIRED), (.ref a1)]))
  obtain ⟨cq9, kq9, q9a, q9b, q9c⟩ := isOf hZ e8 (Exa.wr W7 ((Exa.ext E5 (Exa.wr W4 ((Exa.ext E2 E_1).keep Kc3))).keep Kc6))
  obtain ⟨_, _, ⟨T9, L9, k9, n9⟩, -, X9, ⟨Lc9, hQ9, l9, y9, z9⟩, st9⟩ := X8.virtualBack hx (y := (⟨"com/example/cartouche/cartouche/checking/Profile", "ruleIds", "(Lcom/example/cartouche/cartouche/checking/Level;)Ljava/util/List;"⟩ : MethodName)) (z := (⟨"com/example/cartouche/cartouche/checking/Profile", "ruleIds", "(Lcom/example/cartouche/cartouche/checking/Level;)Ljava/util/List;"⟩ : MethodName)) hown (mvT hZ (own_w hw 141 rfl)) (mvT hZ (own_w hw 142 rfl)) (notFace_of_selects (args := #[]) (mvT hZ (own_w hw 144 rfl))) (mvT hZ (own_w hw 144 rfl)) (mvT hZ (own_w hw 143 rfl)) (by decide) (backOf (W := 0) (rm_ruleIds0 l Z a0 hw [] a1 w_REQUIRED wL wE kE wD h7 n0 (Nat.le_trans (Nat.le_trans (Nat.le_trans (Nat.le_trans (Nat.le_trans (Nat.le_trans Z0 E2.1) Kc3.1) (Keep.of_wr W4).1) E5.1) Kc6.1) (Keep.of_wr W7).1) O7 (Exa.wr W7 ((Exa.ext E5 (Exa.wr W4 ((Exa.ext E2 E_1).keep Kc3))).keep Kc6)) (Fld.other W7 ((Fld.ext E5 (Fld.other W4 ((Fld.ext E2 F_r).keep Kc3 (ninS ne_a1_b2 nin0)) (Or.inl (Ne.symm ne01)))).keep Kc6 (ninS ne_a1_b5 nin0)) (Or.inl (Ne.symm ne01))) E_L F_el R_E S_D) hZ (own_w hw 145 rfl) (own_w hw 3 rfl) (by decide) (by decide)) q9a q9c (g := (mkF m 30 #[.val (.ref a0s), .val (.ref a1), .unset, .unset] [(.ref w_REQUIRED), (.ref a1)])) rfl (by rw [hml]; rfl) (Steps.refl _) (argsL := [(.ref w_REQUIRED)]) (rest := []) (lenOf own_pd9 rfl) rfl (by show 2 * 0 + _ ≤ _; exact Nat.le_of_eq rfl) (hb hby d12_30) (fun _ _ => ⟨rfl, e8, (by decide : 2 + 2 ≤ _), (by decide : 24 + 7 ≤ _)⟩)
  dsimp only [Pt.U, Pt.locs, Pt.cells, Pt.slots] at X9 l9 y9 z9 st9 hQ9
  subst l9 y9 z9
  obtain ⟨b_9, rfl, Nq9, Kc9, P9_0, P9_1, P9_2, P9_3⟩ := hQ9
  have N9 := Fr.app N7 Nq9
  have ne_a0s_b_9 : a0s ≠ b_9 := Nat.ne_of_lt (Nat.lt_of_lt_of_le (Exa.wr W7 ((Exa.ext E5 (Exa.wr W4 ((Exa.ext E2 E_0).keep Kc3))).keep Kc6)).lt P9_0)
  have ne_a1_b_9 : a1 ≠ b_9 := Nat.ne_of_lt (Nat.lt_of_lt_of_le (Exa.wr W7 ((Exa.ext E5 (Exa.wr W4 ((Exa.ext E2 E_1).keep Kc3))).keep Kc6)).lt P9_0)
  have ne_b2_b_9 : b2 ≠ b_9 := Nat.ne_of_lt (Nat.lt_of_lt_of_le (Exa.wr W7 ((Exa.ext E5 (Exa.wr W4 P3_0)).keep Kc6)).lt P9_0)
  have ne_b5_b_9 : b5 ≠ b_9 := Nat.ne_of_lt (Nat.lt_of_lt_of_le (Exa.wr W7 P6_0).lt P9_0)
  have ge_b_9 : n0 ≤ b_9 := Nat.le_trans (Nat.le_trans (Nat.le_trans (Nat.le_trans (Nat.le_trans (Nat.le_trans (Nat.le_trans Z0 E2.1) Kc3.1) (Keep.of_wr W4).1) E5.1) Kc6.1) (Keep.of_wr W7).1) P9_0
  have sz_b_9 : h0.size ≤ b_9 := Nat.le_trans K7.1 P9_0
  have K9 := K7.trans Kc9 all0
  have O9 := O7.keep Kc9 all0
  refine own_tr st9 ?_
  show own_G p.tables e below _ (T9.setTop (mkF m 33 #[.val (.ref a0s), .val (.ref a1), .unset, .unset] [(.ref b_9)]))
  obtain ⟨cq10, kq10, q10a, q10b, q10c⟩ := isOf hZ rfl P9_1
  obtain ⟨_, _, ⟨T10, L10, k10, n10⟩, -, X10, ⟨Lc10, hQ10, l10, y10, z10⟩, st10⟩ := X9.interfaceBack hx (xi := (⟨"java/util/List", "iterator", "()Ljava/util/Iterator;"⟩ : MethodName)) (y := (⟨"java/util/ArrayList", "iterator", "()Ljava/util/Iterator;"⟩ : MethodName)) hown (mvT hZ (own_w hw 191 rfl)) (mvT hZ (own_w hw 149 rfl)) (mvT hZ (own_w hw 150 rfl)) (mvT hZ (own_w hw 192 rfl)) (mvT hZ (own_w hw 193 rfl)) (mvT hZ (own_w hw 194 rfl)) (mvT hZ (own_w hw 195 rfl)) (mvT hZ (own_w hw 196 rfl)) (by decide) (backOf (W := 0) (rm_itA l Z a0 hw [] b_9 T9.heap n0 (Nat.le_trans (Nat.le_trans (Nat.le_trans (Nat.le_trans (Nat.le_trans (Nat.le_trans (Nat.le_trans Z0 E2.1) Kc3.1) (Keep.of_wr W4).1) E5.1) Kc6.1) (Keep.of_wr W7).1) Kc9.1)  P9_1 P9_3) hZ (own_w hw 197 rfl) (own_w hw 14 rfl) (by decide) (by decide)) q10a q10b q10c (g := (mkF m 33 #[.val (.ref a0s), .val (.ref a1), .unset, .unset] [(.ref b_9)])) rfl (by rw [hml]; rfl) (Steps.refl _) (argsL := []) (rest := []) (lenOf own_pd8 rfl) rfl (by show 2 * 0 + _ ≤ _; exact Nat.le_of_eq rfl) (hb hby d12_33) (fun _ _ => ⟨rfl, rfl, (by decide : 4 + 1 ≤ _), (by decide : 31 + 4 ≤ _)⟩)
  dsimp only [Pt.U, Pt.locs, Pt.cells, Pt.slots] at X10 l10 y10 z10 st10 hQ10
  subst l10 y10 z10
  obtain ⟨b_10, rfl, Nq10, Kc10, P10_0, P10_1, P10_2, P10_3⟩ := hQ10
  have N10 := Fr.app N9 Nq10
  have ne_a0s_b_10 : a0s ≠ b_10 := Nat.ne_of_lt (Nat.lt_of_lt_of_le ((Exa.wr W7 ((Exa.ext E5 (Exa.wr W4 ((Exa.ext E2 E_0).keep Kc3))).keep Kc6)).keep Kc9).lt P10_0)
  have ne_a1_b_10 : a1 ≠ b_10 := Nat.ne_of_lt (Nat.lt_of_lt_of_le ((Exa.wr W7 ((Exa.ext E5 (Exa.wr W4 ((Exa.ext E2 E_1).keep Kc3))).keep Kc6)).keep Kc9).lt P10_0)
  have ne_b2_b_10 : b2 ≠ b_10 := Nat.ne_of_lt (Nat.lt_of_lt_of_le ((Exa.wr W7 ((Exa.ext E5 (Exa.wr W4 P3_0)).keep Kc6)).keep Kc9).lt P10_0)
  have ne_b5_b_10 : b5 ≠ b_10 := Nat.ne_of_lt (Nat.lt_of_lt_of_le ((Exa.wr W7 P6_0).keep Kc9).lt P10_0)
  have ne_b_9_b_10 : b_9 ≠ b_10 := Nat.ne_of_lt (Nat.lt_of_lt_of_le P9_1.lt P10_0)
  have ge_b_10 : n0 ≤ b_10 := Nat.le_trans (Nat.le_trans (Nat.le_trans (Nat.le_trans (Nat.le_trans (Nat.le_trans (Nat.le_trans (Nat.le_trans Z0 E2.1) Kc3.1) (Keep.of_wr W4).1) E5.1) Kc6.1) (Keep.of_wr W7).1) Kc9.1) P10_0
  have sz_b_10 : h0.size ≤ b_10 := Nat.le_trans K9.1 P10_0
  have K10 := K9.trans Kc10 all0
  have O10 := O9.keep Kc10 all0
  refine own_tr st10 ?_
  show own_G p.tables e below _ (T10.setTop (mkF m 38 #[.val (.ref a0s), .val (.ref a1), .unset, .unset] [(.ref b_10)]))
  refine own_st (fun _ kS => XS.astoreN X10.here hx rfl (hb hby d12_38) rfl rfl (l' := #[.val (.ref a0s), .val (.ref a1), .val (.ref b_10), .unset]) rfl kS) ?_
  show own_G p.tables e below _ (T10.setTop (mkF m 39 #[.val (.ref a0s), .val (.ref a1), .val (.ref b_10), .unset] []))
  refine own_st (fun _ kS => XS.aloadN X10.here hx rfl (hb hby d12_39) rfl rfl kS) ?_
  show own_G p.tables e below _ (T10.setTop (mkF m 40 #[.val (.ref a0s), .val (.ref a1), .val (.ref b_10), .unset] [(.ref b_10)]))
  obtain ⟨cq11, kq11, q11a, q11b, q11c⟩ := isOf hZ rfl P10_1
  obtain ⟨_, _, ⟨T11, L11, k11, n11⟩, -, X11, ⟨Lc11, hQ11, l11, y11, z11⟩, st11⟩ := X10.interfaceBack hx (xi := (⟨"java/util/Iterator", "hasNext", "()Z"⟩ : MethodName)) (y := (⟨"java/util/ArrayList$Itr", "hasNext", "()Z"⟩ : MethodName)) hown (mvT hZ (own_w hw 214 rfl)) (mvT hZ (own_w hw 183 rfl)) (mvT hZ (own_w hw 184 rfl)) (mvT hZ (own_w hw 215 rfl)) (mvT hZ (own_w hw 216 rfl)) (mvT hZ (own_w hw 217 rfl)) (mvT hZ (own_w hw 218 rfl)) (mvT hZ (own_w hw 219 rfl)) (by decide) (backOf (W := 0) (rm_hnA l Z a0 hw [] b_10 b_9 T10.heap n0 (Nat.le_trans (Nat.le_trans (Nat.le_trans (Nat.le_trans (Nat.le_trans (Nat.le_trans (Nat.le_trans (Nat.le_trans Z0 E2.1) Kc3.1) (Keep.of_wr W4).1) E5.1) Kc6.1) (Keep.of_wr W7).1) Kc9.1) Kc10.1)  P10_2 P10_3 (P9_2.keep Kc10 nin0)) hZ (own_w hw 220 rfl) (own_w hw 200 rfl) (by decide) (by decide)) q11a q11b q11c (g := (mkF m 40 #[.val (.ref a0s), .val (.ref a1), .val (.ref b_10), .unset] [(.ref b_10)])) rfl (by rw [hml]; rfl) (Steps.refl _) (argsL := []) (rest := []) (lenOf own_pd1 rfl) rfl (by show 2 * 0 + _ ≤ _; exact Nat.le_of_eq rfl) (hb hby d12_40) (fun _ _ => ⟨rfl, rfl, (by decide : 5 + 0 ≤ _), (by decide : 35 + 0 ≤ _)⟩)
  dsimp only [Pt.U, Pt.locs, Pt.cells, Pt.slots] at X11 l11 y11 z11 st11 hQ11
  subst l11 y11 z11
  obtain ⟨rfl, Nq11, eq11⟩ := hQ11
  have N11 := Fr.app N10 Nq11
  refine own_tr st11 ?_
  show own_G p.tables e below _ (T11.setTop (mkF m 45 #[.val (.ref a0s), .val (.ref a1), .val (.ref b_10), .unset] [(.int (0 : Int32))]))
  refine own_st (fun _ kS => XS.ifYes X11.here hx rfl (pc0 := 45) (pc' := 76) rfl (hb hby d12_45) rfl ((if0 _ _).trans (teq (by decide : (0 : Int32) = (0 : Int32))).1) (by decide) (by decide) kS) ?_
  show own_G p.tables e below _ (T11.setTop (mkF m 76 #[.val (.ref a0s), .val (.ref a1), .val (.ref b_10), .unset] []))
  refine own_st (fun _ kS => XS.aloadN X11.here hx rfl (hb hby d12_76) rfl rfl kS) ?_
  show own_G p.tables e below _ (T11.setTop (mkF m 77 #[.val (.ref a0s), .val (.ref a1), .val (.ref b_10), .unset] [(.ref a1)]))
  obtain ⟨T12, X12, e12, st12⟩ := getS2 X11 hx hZ hown (host := "") (Or.inl (own_w hw 224 rfl)) Via.refl eq11 (Sta.ext O10.2 S_RECOMMENDED) (g := (mkF m 77 #[.val (.ref a0s), .val (.ref a1), .val (.ref b_10), .unset] [(.ref a1)])) rfl (hb hby d12_77)
  refine own_st st12 ?_
  show own_G p.tables e below _ (T12.setTop (mkF m 80 #[.val (.ref a0s), .val (.ref a1), .val (.ref b_10), .unset] [(.ref w_RECOMMENDED), (.ref a1)]))
  obtain ⟨cq13, kq13, q13a, q13b, q13c⟩ := isOf hZ e12 (((Exa.wr W7 ((Exa.ext E5 (Exa.wr W4 ((Exa.ext E2 E_1).keep Kc3))).keep Kc6)).keep Kc9).keep Kc10)
  obtain ⟨_, _, ⟨T13, L13, k13, n13⟩, -, X13, ⟨Lc13, hQ13, l13, y13, z13⟩, st13⟩ := X12.virtualBack hx (y := (⟨"com/example/cartouche/cartouche/checking/Profile", "ruleIds", "(Lcom/example/cartouche/cartouche/checking/Level;)Ljava/util/List;"⟩ : MethodName)) (z := (⟨"com/example/cartouche/cartouche/checking/Profile", "ruleIds", "(Lcom/example/cartouche/cartouche/checking/Level;)Ljava/util/List;"⟩ : MethodName)) hown (mvT hZ (own_w hw 141 rfl)) (mvT hZ (own_w hw 142 rfl)) (notFace_of_selects (args := #[]) (mvT hZ (own_w hw 144 rfl))) (mvT hZ (own_w hw 144 rfl)) (mvT hZ (own_w hw 143 rfl)) (by decide) (backOf (W := 0) (rm_ruleIds0 l Z a0 hw [] a1 w_RECOMMENDED wL wE kE wD T10.heap n0 (Nat.le_trans (Nat.le_trans (Nat.le_trans (Nat.le_trans (Nat.le_trans (Nat.le_trans (Nat.le_trans (Nat.le_trans Z0 E2.1) Kc3.1) (Keep.of_wr W4).1) E5.1) Kc6.1) (Keep.of_wr W7).1) Kc9.1) Kc10.1) O10 (((Exa.wr W7 ((Exa.ext E5 (Exa.wr W4 ((Exa.ext E2 E_1).keep Kc3))).keep Kc6)).keep Kc9).keep Kc10) (((Fld.other W7 ((Fld.ext E5 (Fld.other W4 ((Fld.ext E2 F_r).keep Kc3 (ninS ne_a1_b2 nin0)) (Or.inl (Ne.symm ne01)))).keep Kc6 (ninS ne_a1_b5 nin0)) (Or.inl (Ne.symm ne01))).keep Kc9 nin0).keep Kc10 nin0) E_L F_el R_E S_D) hZ (own_w hw 145 rfl) (own_w hw 3 rfl) (by decide) (by decide)) q13a q13c (g := (mkF m 80 #[.val (.ref a0s), .val (.ref a1), .val (.ref b_10), .unset] [(.ref w_RECOMMENDED), (.ref a1)])) rfl (by rw [hml]; rfl) (Steps.refl _) (argsL := [(.ref w_RECOMMENDED)]) (rest := []) (lenOf own_pd9 rfl) rfl (by show 2 * 0 + _ ≤ _; exact Nat.le_of_eq rfl) (hb hby d12_80) (fun _ _ => ⟨rfl, e12, (by decide : 5 + 2 ≤ _), (by decide : 35 + 7 ≤ _)⟩)
  dsimp only [Pt.U, Pt.locs, Pt.cells, Pt.slots] at X13 l13 y13 z13 st13 hQ13
  subst l13 y13 z13
  obtain ⟨b_13, rfl, Nq13, Kc13, P13_0, P13_1, P13_2, P13_3⟩ := hQ13
  have N13 := Fr.app N11 Nq13
  have ne_a0s_b_13 : a0s ≠ b_13 := Nat.ne_of_lt (Nat.lt_of_lt_of_le (((Exa.wr W7 ((Exa.ext E5 (Exa.wr W4 ((Exa.ext E2 E_0).keep Kc3))).keep Kc6)).keep Kc9).keep Kc10).lt P13_0)
  have ne_a1_b_13 : a1 ≠ b_13 := Nat.ne_of_lt (Nat.lt_of_lt_of_le (((Exa.wr W7 ((Exa.ext E5 (Exa.wr W4 ((Exa.ext E2 E_1).keep Kc3))).keep Kc6)).keep Kc9).keep Kc10).lt P13_0)
  have ne_b2_b_13 : b2 ≠ b_13 := Nat.ne_of_lt (Nat.lt_of_lt_of_le (((Exa.wr W7 ((Exa.ext E5 (Exa.wr W4 P3_0)).keep Kc6)).keep Kc9).keep Kc10).lt P13_0)
  have ne_b5_b_13 : b5 ≠ b_13 := Nat.ne_of_lt (Nat.lt_of_lt_of_le (((Exa.wr W7 P6_0).keep Kc9).keep Kc10).lt P13_0)
  have ne_b_9_b_13 : b_9 ≠ b_13 := Nat.ne_of_lt (Nat.lt_of_lt_of_le (P9_1.keep Kc10).lt P13_0)
  have ne_b_10_b_13 : b_10 ≠ b_13 := Nat.ne_of_lt (Nat.lt_of_lt_of_le P10_1.lt P13_0)
  have ge_b_13 : n0 ≤ b_13 := Nat.le_trans (Nat.le_trans (Nat.le_trans (Nat.le_trans (Nat.le_trans (Nat.le_trans (Nat.le_trans (Nat.le_trans (Nat.le_trans Z0 E2.1) Kc3.1) (Keep.of_wr W4).1) E5.1) Kc6.1) (Keep.of_wr W7).1) Kc9.1) Kc10.1) P13_0
  have sz_b_13 : h0.size ≤ b_13 := Nat.le_trans K10.1 P13_0
  have K13 := K10.trans Kc13 all0
  have O13 := O10.keep Kc13 all0
  refine own_tr st13 ?_
  show own_G p.tables e below _ (T13.setTop (mkF m 83 #[.val (.ref a0s), .val (.ref a1), .val (.ref b_10), .unset] [(.ref b_13)]))
  obtain ⟨cq14, kq14, q14a, q14b, q14c⟩ := isOf hZ rfl P13_1
  obtain ⟨_, _, ⟨T14, L14, k14, n14⟩, -, X14, ⟨Lc14, hQ14, l14, y14, z14⟩, st14⟩ := X13.interfaceBack hx (xi := (⟨"java/util/List", "iterator", "()Ljava/util/Iterator;"⟩ : MethodName)) (y := (⟨"java/util/ArrayList", "iterator", "()Ljava/util/Iterator;"⟩ : MethodName)) hown (mvT hZ (own_w hw 191 rfl)) (mvT hZ (own_w hw 149 rfl)) (mvT hZ (own_w hw 150 rfl)) (mvT hZ (own_w hw 192 rfl)) (mvT hZ (own_w hw 193 rfl)) (mvT hZ (own_w hw 194 rfl)) (mvT hZ (own_w hw 195 rfl)) (mvT hZ (own_w hw 196 rfl)) (by decide) (backOf (W := 0) (rm_itA l Z a0 hw [] b_13 T13.heap n0 (Nat.le_trans (Nat.le_trans (Nat.le_trans (Nat.le_trans (Nat.le_trans (Nat.le_trans (Nat.le_trans (Nat.le_trans (Nat.le_trans Z0 E2.1) Kc3.1) (Keep.of_wr W4).1) E5.1) Kc6.1) (Keep.of_wr W7).1) Kc9.1) Kc10.1) Kc13.1)  P13_1 P13_3) hZ (own_w hw 197 rfl) (own_w hw 14 rfl) (by decide) (by decide)) q14a q14b q14c (g := (mkF m 83 #[.val (.ref a0s), .val (.ref a1), .val (.ref b_10), .unset] [(.ref b_13)])) rfl (by rw [hml]; rfl) (Steps.refl _) (argsL := []) (rest := []) (lenOf own_pd8 rfl) rfl (by show 2 * 0 + _ ≤ _; exact Nat.le_of_eq rfl) (hb hby d12_83) (fun _ _ => ⟨rfl, rfl, (by decide : 7 + 1 ≤ _), (by decide : 42 + 4 ≤ _)⟩)
  dsimp only [Pt.U, Pt.locs, Pt.cells, Pt.slots] at X14 l14 y14 z14 st14 hQ14
  subst l14 y14 z14
  obtain ⟨b_14, rfl, Nq14, Kc14, P14_0, P14_1, P14_2, P14_3⟩ := hQ14
  have N14 := Fr.app N13 Nq14
  have ne_a0s_b_14 : a0s ≠ b_14 := Nat.ne_of_lt (Nat.lt_of_lt_of_le ((((Exa.wr W7 ((Exa.ext E5 (Exa.wr W4 ((Exa.ext E2 E_0).keep Kc3))).keep Kc6)).keep Kc9).keep Kc10).keep Kc13).lt P14_0)
  have ne_a1_b_14 : a1 ≠ b_14 := Nat.ne_of_lt (Nat.lt_of_lt_of_le ((((Exa.wr W7 ((Exa.ext E5 (Exa.wr W4 ((Exa.ext E2 E_1).keep Kc3))).keep Kc6)).keep Kc9).keep Kc10).keep Kc13).lt P14_0)
  have ne_b2_b_14 : b2 ≠ b_14 := Nat.ne_of_lt (Nat.lt_of_lt_of_le ((((Exa.wr W7 ((Exa.ext E5 (Exa.wr W4 P3_0)).keep Kc6)).keep Kc9).keep Kc10).keep Kc13).lt P14_0)
  have ne_b5_b_14 : b5 ≠ b_14 := Nat.ne_of_lt (Nat.lt_of_lt_of_le ((((Exa.wr W7 P6_0).keep Kc9).keep Kc10).keep Kc13).lt P14_0)
  have ne_b_9_b_14 : b_9 ≠ b_14 := Nat.ne_of_lt (Nat.lt_of_lt_of_le ((P9_1.keep Kc10).keep Kc13).lt P14_0)
  have ne_b_10_b_14 : b_10 ≠ b_14 := Nat.ne_of_lt (Nat.lt_of_lt_of_le (P10_1.keep Kc13).lt P14_0)
  have ne_b_13_b_14 : b_13 ≠ b_14 := Nat.ne_of_lt (Nat.lt_of_lt_of_le P13_1.lt P14_0)
  have ge_b_14 : n0 ≤ b_14 := Nat.le_trans (Nat.le_trans (Nat.le_trans (Nat.le_trans (Nat.le_trans (Nat.le_trans (Nat.le_trans (Nat.le_trans (Nat.le_trans (Nat.le_trans Z0 E2.1) Kc3.1) (Keep.of_wr W4).1) E5.1) Kc6.1) (Keep.of_wr W7).1) Kc9.1) Kc10.1) Kc13.1) P14_0
  have sz_b_14 : h0.size ≤ b_14 := Nat.le_trans K13.1 P14_0
  have K14 := K13.trans Kc14 all0
  have O14 := O13.keep Kc14 all0
  refine own_tr st14 ?_
  show own_G p.tables e below _ (T14.setTop (mkF m 88 #[.val (.ref a0s), .val (.ref a1), .val (.ref b_10), .unset] [(.ref b_14)]))
  refine own_st (fun _ kS => XS.astoreN X14.here hx rfl (hb hby d12_88) rfl rfl (l' := #[.val (.ref a0s), .val (.ref a1), .val (.ref b_14), .unset]) rfl kS) ?_
  show own_G p.tables e below _ (T14.setTop (mkF m 89 #[.val (.ref a0s), .val (.ref a1), .val (.ref b_14), .unset] []))
  refine own_st (fun _ kS => XS.aloadN X14.here hx rfl (hb hby d12_89) rfl rfl kS) ?_
  show own_G p.tables e below _ (T14.setTop (mkF m 90 #[.val (.ref a0s), .val (.ref a1), .val (.ref b_14), .unset] [(.ref b_14)]))
  obtain ⟨cq15, kq15, q15a, q15b, q15c⟩ := isOf hZ rfl P14_1
  obtain ⟨_, _, ⟨T15, L15, k15, n15⟩, -, X15, ⟨Lc15, hQ15, l15, y15, z15⟩, st15⟩ := X14.interfaceBack hx (xi := (⟨"java/util/Iterator", "hasNext", "()Z"⟩ : MethodName)) (y := (⟨"java/util/ArrayList$Itr", "hasNext", "()Z"⟩ : MethodName)) hown (mvT hZ (own_w hw 214 rfl)) (mvT hZ (own_w hw 183 rfl)) (mvT hZ (own_w hw 184 rfl)) (mvT hZ (own_w hw 215 rfl)) (mvT hZ (own_w hw 216 rfl)) (mvT hZ (own_w hw 217 rfl)) (mvT hZ (own_w hw 218 rfl)) (mvT hZ (own_w hw 219 rfl)) (by decide) (backOf (W := 0) (rm_hnA l Z a0 hw [] b_14 b_13 T14.heap n0 (Nat.le_trans (Nat.le_trans (Nat.le_trans (Nat.le_trans (Nat.le_trans (Nat.le_trans (Nat.le_trans (Nat.le_trans (Nat.le_trans (Nat.le_trans Z0 E2.1) Kc3.1) (Keep.of_wr W4).1) E5.1) Kc6.1) (Keep.of_wr W7).1) Kc9.1) Kc10.1) Kc13.1) Kc14.1)  P14_2 P14_3 (P13_2.keep Kc14 nin0)) hZ (own_w hw 220 rfl) (own_w hw 200 rfl) (by decide) (by decide)) q15a q15b q15c (g := (mkF m 90 #[.val (.ref a0s), .val (.ref a1), .val (.ref b_14), .unset] [(.ref b_14)])) rfl (by rw [hml]; rfl) (Steps.refl _) (argsL := []) (rest := []) (lenOf own_pd1 rfl) rfl (by show 2 * 0 + _ ≤ _; exact Nat.le_of_eq rfl) (hb hby d12_90) (fun _ _ => ⟨rfl, rfl, (by decide : 8 + 0 ≤ _), (by decide : 46 + 0 ≤ _)⟩)
  dsimp only [Pt.U, Pt.locs, Pt.cells, Pt.slots] at X15 l15 y15 z15 st15 hQ15
  subst l15 y15 z15
  obtain ⟨rfl, Nq15, eq15⟩ := hQ15
  have N15 := Fr.app N14 Nq15
  refine own_tr st15 ?_
  show own_G p.tables e below _ (T15.setTop (mkF m 95 #[.val (.ref a0s), .val (.ref a1), .val (.ref b_14), .unset] [(.int (0 : Int32))]))
  refine own_st (fun _ kS => XS.ifYes X15.here hx rfl (pc0 := 95) (pc' := 126) rfl (hb hby d12_95) rfl ((if0 _ _).trans (teq (by decide : (0 : Int32) = (0 : Int32))).1) (by decide) (by decide) kS) ?_
  show own_G p.tables e below _ (T15.setTop (mkF m 126 #[.val (.ref a0s), .val (.ref a1), .val (.ref b_14), .unset] []))
  exact own_retV X15 hx hlk hret (hb hby d12_126) (by decide) (by decide) (by rw [eq15]; exact ⟨rfl, N15, K14, (((((Exa.wr W7 ((Exa.ext E5 (Exa.wr W4 ((Exa.ext E2 E_0).keep Kc3))).keep Kc6)).keep Kc9).keep Kc10).keep Kc13).keep Kc14), (((((Fld.other W7 ((Fld.ext E5 (Fld.other W4 ((Fld.ext E2 F0_unreadable).keep Kc3 (ninS ne_a0s_b2 nin0)) (Or.inr (slot_ne (Or.inl (own_w hw 232 rfl)) (Or.inr (own_w hw 135 rfl)) (by decide) (t := .int) (t' := (.object "java/util/Map")) (by decide) (by decide))))).keep Kc6 (ninS ne_a0s_b5 nin0)) (Or.inr (slot_ne (Or.inl (own_w hw 232 rfl)) (Or.inr (own_w hw 137 rfl)) (by decide) (t := .int) (t' := (.object "java/util/Map")) (by decide) (by decide)))).keep Kc9 nin0).keep Kc10 nin0).keep Kc13 nin0).keep Kc14 nin0), (((((Fld.other W7 ((Fld.ext E5 (Fld.other W4 ((Fld.ext E2 F0_conforming).keep Kc3 (ninS ne_a0s_b2 nin0)) (Or.inr (slot_ne (Or.inl (own_w hw 234 rfl)) (Or.inr (own_w hw 135 rfl)) (by decide) (t := .int) (t' := (.object "java/util/Map")) (by decide) (by decide))))).keep Kc6 (ninS ne_a0s_b5 nin0)) (Or.inr (slot_ne (Or.inl (own_w hw 234 rfl)) (Or.inr (own_w hw 137 rfl)) (by decide) (t := .int) (t' := (.object "java/util/Map")) (by decide) (by decide)))).keep Kc9 nin0).keep Kc10 nin0).keep Kc13 nin0).keep Kc14 nin0), (((((Fld.other W7 ((Fld.ext E5 (Fld.other W4 ((Fld.ext E2 F0_records).keep Kc3 (ninS ne_a0s_b2 nin0)) (Or.inr (slot_ne (Or.inl (own_w hw 236 rfl)) (Or.inr (own_w hw 135 rfl)) (by decide) (t := .int) (t' := (.object "java/util/Map")) (by decide) (by decide))))).keep Kc6 (ninS ne_a0s_b5 nin0)) (Or.inr (slot_ne (Or.inl (own_w hw 236 rfl)) (Or.inr (own_w hw 137 rfl)) (by decide) (t := .int) (t' := (.object "java/util/Map")) (by decide) (by decide)))).keep Kc9 nin0).keep Kc10 nin0).keep Kc13 nin0).keep Kc14 nin0)⟩)
theorem ef_sumInit1 (m : MethodId) (x0 : Addr) (x1 : Addr) : entryFrame m #[(.ref x0), (.ref x1)] 4 = mkF m 0 #[.val (.ref x0), .val (.ref x1), .unset, .unset] [] := by first | (simp [entryFrame, mkF, argsToLocals, Value.category]; done) | rfl
def Q_sumInit1 (Z : State) (a0s : Addr) (a1 : Addr) (a3 : Addr) (wL : Addr) (wE : Addr) (kE : ClassId) (wD : Addr) (w_REQUIRED : Addr) (w_RECOMMENDED : Addr) (h0 : Heap) (n0 : Nat) (v : Option Value) (h : Heap) (L : List Loc) : Prop := v = none ∧ Fr n0 L ∧ Keep h0 h [a0s] ∧ Exa Z h a0s "com/example/cartouche/cartouche/checking/Summary" ∧ Fld Z h a0s "com/example/cartouche/cartouche/checking/Summary" "unreadable" "I" (.int (0 : Int32)) ∧ Fld Z h a0s "com/example/cartouche/cartouche/checking/Summary" "conforming" "I" (.int (0 : Int32)) ∧ Fld Z h a0s "com/example/cartouche/cartouche/checking/Summary" "records" "I" (.int (0 : Int32))
set_option maxRecDepth 65536 in
set_option maxHeartbeats 40000000 in
theorem rm_sumInit1 (l : Launch) (Z : State) (a0 : Array Value) (hw : ∀ d ∈ tables_1, d.before a0 Z = true) (ws : List Jvm.Cond) (a0s : Addr) (a1 : Addr) (a3 : Addr) (wL : Addr) (wE : Addr) (kE : ClassId) (wD : Addr) (w_REQUIRED : Addr) (w_RECOMMENDED : Addr) (h0 : Heap) (n0 : Nat) (Z0 : n0 ≤ h0.size) (O0 : Old Z n0 h0) (E_0 : Exa Z h0 a0s "com/example/cartouche/cartouche/checking/Summary") (g_0 : n0 ≤ a0s) (ne01 : a0s ≠ a1) (ne03 : a0s ≠ a3) (F0_failingByRule : Fld Z h0 a0s "com/example/cartouche/cartouche/checking/Summary" "failingByRule" "Ljava/util/Map;" .null) (F0_warningsByRule : Fld Z h0 a0s "com/example/cartouche/cartouche/checking/Summary" "warningsByRule" "Ljava/util/Map;" .null) (F0_unreadable : Fld Z h0 a0s "com/example/cartouche/cartouche/checking/Summary" "unreadable" "I" (.int (0 : Int32))) (F0_conforming : Fld Z h0 a0s "com/example/cartouche/cartouche/checking/Summary" "conforming" "I" (.int (0 : Int32))) (F0_records : Fld Z h0 a0s "com/example/cartouche/cartouche/checking/Summary" "records" "I" (.int (0 : Int32))) (E_1 : Exa Z h0 a1 "com/example/cartouche/cartouche/checking/Profile") (F_r : Fld Z h0 a1 "com/example/cartouche/cartouche/checking/Profile" "rules" "Ljava/util/List;" (.ref a3)) (E_3 : Exa Z h0 a3 "java/util/ArrayList") (F_s3 : Fld Z h0 a3 "java/util/ArrayList" "size" "I" (.int (0 : Int32))) (F_m3 : Fld Z h0 a3 "java/util/AbstractList" "modCount" "I" (.int (0 : Int32))) (E_L : Exa Z Z.heap wL "java/util/ImmutableCollections$ListN") (F_el : Fld Z Z.heap wL "java/util/ImmutableCollections$ListN" "elements" "[Ljava/lang/Object;" (.ref wE)) (R_E : Arv Z Z.heap wE kE (.object "java/lang/Object") (0 : Int32) [] .null) (S_D : Sta Z Z.heap "java/util/ArrayList" "DEFAULTCAPACITY_EMPTY_ELEMENTDATA" "[Ljava/lang/Object;" (.ref wD)) (S_REQUIRED : Sta Z Z.heap "com/example/cartouche/cartouche/checking/Level" "REQUIRED" "Lcom/example/cartouche/cartouche/checking/Level;" (.ref w_REQUIRED)) (S_RECOMMENDED : Sta Z Z.heap "com/example/cartouche/cartouche/checking/Level" "RECOMMENDED" "Lcom/example/cartouche/cartouche/checking/Level;" (.ref w_RECOMMENDED)) :
    MetFree l (⟨"com/example/cartouche/cartouche/checking/Summary", "<init>", "(Lcom/example/cartouche/cartouche/checking/Profile;)V"⟩ : MethodName) (head1 (Jvm.Cond.code (⟨"com/example/cartouche/cartouche/checking/Summary", "<init>", "(Lcom/example/cartouche/cartouche/checking/Profile;)V"⟩ : MethodName) prog_30_method_1_code 4 none :: ws) ({ frames := 5, cells := 8, slots := 46, locals := 65 } : Room)) (fun a U => a = #[(.ref a0s), (.ref a1)] ∧ Z.Warmed39 U.vm ∧ U.heap = h0) (fun _ _ _ _ _ => True) (fun _ U o U' => ∃ v L, o = .returned v ∧ Q_sumInit1 Z a0s a1 a3 wL wE kE wD w_REQUIRED w_RECOMMENDED h0 n0 v U'.heap L ∧ FrameEnd U o U' L ({ frames := 5, cells := 8, slots := 46, locals := 65 } : Room).cells ({ frames := 5, cells := 8, slots := 46, locals := 65 } : Room).slots) := by
  refine MetFree.of_bodySF (plainFor_of_name pn_12) hisR ?_
  intro p e s m args below meth c s₁ Bd hml0 hP hK
  obtain ⟨rfl, hZ, hh⟩ := hP
  have hx := Bd.exec
  have hby := Bd.bytes
  have hml : c.maxLocals = 4 := hml0
  have hown : s.vm.findClass "com/example/cartouche/cartouche/checking/Summary" = some m.cls := findClass_of_methodNamed Bd.named
  have hnm := (name_of_methodNamed Bd.named Bd.method).1
  have hlk := Bd.notSynchronized
  have hret := Bd.returns
  have X0 : Stand p l e ({ frames := 5, cells := 8, slots := 46, locals := 65 } : Room) s m #[(.ref a0s), (.ref a1)] below meth c s₁ [] 0 0 := Stand.of_body Bd
  have e0 : s₁.heap = h0 := by rw [← hh, Bd.state]; rfl
  have N0 := Fr.nil n0
  have K0 := Keep.refl h0 [a0s]
  refine own_in ({ frames := 5, cells := 8, slots := 46, locals := 65 } : Room).cells ({ frames := 5, cells := 8, slots := 46, locals := 65 } : Room).slots (Q_sumInit1 Z a0s a1 a3 wL wE kE wD w_REQUIRED w_RECOMMENDED h0 n0) (ef_sumInit1 m a0s a1) ?_
  show own_G p.tables e below _ (s₁.setTop (mkF m 0 #[.val (.ref a0s), .val (.ref a1), .unset, .unset] []))
  refine own_st (fun _ kS => XS.aloadN X0.here hx rfl (hb hby d12_0) rfl rfl kS) ?_
  show own_G p.tables e below _ (s₁.setTop (mkF m 1 #[.val (.ref a0s), .val (.ref a1), .unset, .unset] [(.ref a0s)]))
  obtain ⟨T1, X1, e1, st1⟩ := initO X0 hx hZ hown (own_w hw 107 rfl) (own_w hw 31 rfl) (own_w hw 32 rfl) e0 (g := (mkF m 1 #[.val (.ref a0s), .val (.ref a1), .unset, .unset] [(.ref a0s)])) rfl (by rw [hml]; rfl) rfl (hb hby d12_1) (by decide) (W := 0) (by show 2 * 0 + _ ≤ _; exact Nat.le_of_eq rfl) (by decide)
  refine own_st st1 ?_
  show own_G p.tables e below _ (T1.setTop (mkF m 4 #[.val (.ref a0s), .val (.ref a1), .unset, .unset] []))
  refine own_st (fun _ kS => XS.aloadN X1.here hx rfl (hb hby d12_4) rfl rfl kS) ?_
  show own_G p.tables e below _ (T1.setTop (mkF m 5 #[.val (.ref a0s), .val (.ref a1), .unset, .unset] [(.ref a0s)]))
  obtain ⟨T2, h2, X2, e2, E2, A2, D2, -, st2⟩ := newO X1 hx hZ hown (own_w hw 108 rfl) (own_w hw 109 rfl) (own_w hw 110 rfl) e1 (g := (mkF m 5 #[.val (.ref a0s), .val (.ref a1), .unset, .unset] [(.ref a0s)])) rfl (hb hby d12_5) (by decide) (by decide)
  obtain ⟨b2, g2⟩ : ∃ z, z = h0.size := ⟨_, rfl⟩
  have ne_a0s_b2 : a0s ≠ b2 := Nat.ne_of_lt (Nat.lt_of_lt_of_eq E_0.lt g2.symm)
  have ne_a1_b2 : a1 ≠ b2 := Nat.ne_of_lt (Nat.lt_of_lt_of_eq E_1.lt g2.symm)
  have ne_a3_b2 : a3 ≠ b2 := Nat.ne_of_lt (Nat.lt_of_lt_of_eq E_3.lt g2.symm)
  have ge_b2 : n0 ≤ b2 := Nat.le_trans Z0 (Nat.le_of_eq g2.symm)
  have sz_b2 : h0.size ≤ b2 := Nat.le_trans K0.1 (Nat.le_of_eq g2.symm)
  rw [← g2] at A2 D2 st2
  have K2 := K0.ext E2
  have O2 := O0.ext E2
  have F2_loadFactor : Fld Z h2 b2 "java/util/HashMap" "loadFactor" "F" (.float (0 : UInt32)) := D2 (Or.inr (own_w hw 129 rfl)) (ty := .float) (by decide)
  have F2_putMode : Fld Z h2 b2 "java/util/LinkedHashMap" "putMode" "I" (.int (0 : Int32)) := D2 (Or.inl (own_w hw 131 rfl)) (ty := .int) (by decide)
  have F2_accessOrder : Fld Z h2 b2 "java/util/LinkedHashMap" "accessOrder" "Z" (.int (0 : Int32)) := D2 (Or.inr (own_w hw 133 rfl)) (ty := .boolean) (by decide)
  refine own_st st2 ?_
  show own_G p.tables e below _ (T2.setTop (mkF m 8 #[.val (.ref a0s), .val (.ref a1), .unset, .unset] [(.ref b2), (.ref a0s)]))
  refine own_st (fun _ kS => XS.dup X2.here hx rfl (hb hby d12_8) rfl rfl kS) ?_
  show own_G p.tables e below _ (T2.setTop (mkF m 9 #[.val (.ref a0s), .val (.ref a1), .unset, .unset] [(.ref b2), (.ref b2), (.ref a0s)]))
  obtain ⟨_, _, ⟨T3, L3, k3, n3⟩, -, X3, ⟨Lc3, hQ3, l3, y3, z3⟩, st3⟩ := X2.specialBack hx (y := (⟨"java/util/LinkedHashMap", "<init>", "()V"⟩ : MethodName)) rfl hown (mvT hZ (own_w hw 111 rfl)) (mvT hZ (own_w hw 112 rfl)) (mvT hZ (own_w hw 113 rfl)) (by decide) (backOf (W := 2) (rm_lhmInit l Z a0 hw [] b2 h2 n0 (Nat.le_trans Z0 E2.1)  A2 ge_b2 F2_loadFactor F2_putMode F2_accessOrder) hZ (own_w hw 113 rfl) (own_w hw 110 rfl) (by decide) (by decide)) (g := (mkF m 9 #[.val (.ref a0s), .val (.ref a1), .unset, .unset] [(.ref b2), (.ref b2), (.ref a0s)])) rfl (by rw [hml]; rfl) (Steps.refl _) (a := b2) (argsL := []) (rest := [(.ref b2), (.ref a0s)]) (lenOf own_pd0 rfl) rfl (by show 2 * 0 + _ ≤ _; exact Nat.le_of_eq rfl) (hb hby d12_9) (fun _ _ => ⟨rfl, e2, (by decide : 1 + 0 ≤ _), (by decide : 12 + 0 ≤ _)⟩)
  dsimp only [Pt.U, Pt.locs, Pt.cells, Pt.slots] at X3 l3 y3 z3 st3 hQ3
  subst l3 y3 z3
  obtain ⟨rfl, Nq3, Kc3, P3_0⟩ := hQ3
  have N3 := Fr.app N0 Nq3
  have K3 := K2.trans Kc3 (allS (Or.inr sz_b2) all0)
  have O3 := O2.keep Kc3 (allS ge_b2 all0)
  refine own_tr st3 ?_
  show own_G p.tables e below _ (T3.setTop (mkF m 12 #[.val (.ref a0s), .val (.ref a1), .unset, .unset] [(.ref b2), (.ref a0s)]))
  obtain ⟨T4, h4, X4, e4, W4, st4⟩ := putF X3 hx hZ hown (host := "") (Or.inl (own_w hw 134 rfl)) Via.refl rfl ((Fld.ext E2 F0_failingByRule).keep Kc3 (ninS ne_a0s_b2 nin0)) ((Exa.ext E2 E_0).keep Kc3) (Or.inr ⟨(own_w hw 135 rfl), rfl, hnm⟩) (own_w hw 102 rfl) (ty := (.object "java/util/Map")) (by decide) rfl rfl (g := (mkF m 12 #[.val (.ref a0s), .val (.ref a1), .unset, .unset] [(.ref b2), (.ref a0s)])) rfl rfl (hb hby d12_12)
  refine own_st st4 ?_
  have N4 := Fr.snoc X4 N3 g_0
  have K4 := K3.wr W4 (Or.inl (List.mem_of_getElem? (i := 0) rfl))
  have O4 := O3.wr W4 g_0
  have Fw4 := Fld.same W4 ((Fld.ext E2 F0_failingByRule).keep Kc3 (ninS ne_a0s_b2 nin0))
  show own_G p.tables e below _ (T4.setTop (mkF m 15 #[.val (.ref a0s), .val (.ref a1), .unset, .unset] []))
  refine own_st (fun _ kS => XS.aloadN X4.here hx rfl (hb hby d12_15) rfl rfl kS) ?_
  show own_G p.tables e below _ (T4.setTop (mkF m 16 #[.val (.ref a0s), .val (.ref a1), .unset, .unset] [(.ref a0s)]))
  obtain ⟨T5, h5, X5, e5, E5, A5, D5, -, st5⟩ := newO X4 hx hZ hown (own_w hw 108 rfl) (own_w hw 109 rfl) (own_w hw 110 rfl) e4 (g := (mkF m 16 #[.val (.ref a0s), .val (.ref a1), .unset, .unset] [(.ref a0s)])) rfl (hb hby d12_16) (by decide) (by decide)
  obtain ⟨b5, g5⟩ : ∃ z, z = h4.size := ⟨_, rfl⟩
  have ne_a0s_b5 : a0s ≠ b5 := Nat.ne_of_lt (Nat.lt_of_lt_of_eq (Exa.wr W4 ((Exa.ext E2 E_0).keep Kc3)).lt g5.symm)
  have ne_a1_b5 : a1 ≠ b5 := Nat.ne_of_lt (Nat.lt_of_lt_of_eq (Exa.wr W4 ((Exa.ext E2 E_1).keep Kc3)).lt g5.symm)
  have ne_a3_b5 : a3 ≠ b5 := Nat.ne_of_lt (Nat.lt_of_lt_of_eq (Exa.wr W4 ((Exa.ext E2 E_3).keep Kc3)).lt g5.symm)
  have ne_b2_b5 : b2 ≠ b5 := Nat.ne_of_lt (Nat.lt_of_lt_of_eq (Exa.wr W4 P3_0).lt g5.symm)
  have ge_b5 : n0 ≤ b5 := Nat.le_trans (Nat.le_trans (Nat.le_trans (Nat.le_trans Z0 E2.1) Kc3.1) (Keep.of_wr W4).1) (Nat.le_of_eq g5.symm)
  have sz_b5 : h0.size ≤ b5 := Nat.le_trans K4.1 (Nat.le_of_eq g5.symm)
  rw [← g5] at A5 D5 st5
  have K5 := K4.ext E5
  have O5 := O4.ext E5
  have F5_loadFactor : Fld Z h5 b5 "java/util/HashMap" "loadFactor" "F" (.float (0 : UInt32)) := D5 (Or.inr (own_w hw 129 rfl)) (ty := .float) (by decide)
  have F5_putMode : Fld Z h5 b5 "java/util/LinkedHashMap" "putMode" "I" (.int (0 : Int32)) := D5 (Or.inl (own_w hw 131 rfl)) (ty := .int) (by decide)
  have F5_accessOrder : Fld Z h5 b5 "java/util/LinkedHashMap" "accessOrder" "Z" (.int (0 : Int32)) := D5 (Or.inr (own_w hw 133 rfl)) (ty := .boolean) (by decide)
  refine own_st st5 ?_
  show own_G p.tables e below _ (T5.setTop (mkF m 19 #[.val (.ref a0s), .val (.ref a1), .unset, .unset] [(.ref b5), (.ref a0s)]))
  refine own_st (fun _ kS => XS.dup X5.here hx rfl (hb hby d12_19) rfl rfl kS) ?_
  show own_G p.tables e below _ (T5.setTop (mkF m 20 #[.val (.ref a0s), .val (.ref a1), .unset, .unset] [(.ref b5), (.ref b5), (.ref a0s)]))
  obtain ⟨_, _, ⟨T6, L6, k6, n6⟩, -, X6, ⟨Lc6, hQ6, l6, y6, z6⟩, st6⟩ := X5.specialBack hx (y := (⟨"java/util/LinkedHashMap", "<init>", "()V"⟩ : MethodName)) rfl hown (mvT hZ (own_w hw 111 rfl)) (mvT hZ (own_w hw 112 rfl)) (mvT hZ (own_w hw 113 rfl)) (by decide) (backOf (W := 2) (rm_lhmInit l Z a0 hw [] b5 h5 n0 (Nat.le_trans (Nat.le_trans (Nat.le_trans (Nat.le_trans Z0 E2.1) Kc3.1) (Keep.of_wr W4).1) E5.1)  A5 ge_b5 F5_loadFactor F5_putMode F5_accessOrder) hZ (own_w hw 113 rfl) (own_w hw 110 rfl) (by decide) (by decide)) (g := (mkF m 20 #[.val (.ref a0s), .val (.ref a1), .unset, .unset] [(.ref b5), (.ref b5), (.ref a0s)])) rfl (by rw [hml]; rfl) (Steps.refl _) (a := b5) (argsL := []) (rest := [(.ref b5), (.ref a0s)]) (lenOf own_pd0 rfl) rfl (by show 2 * 0 + _ ≤ _; exact Nat.le_of_eq rfl) (hb hby d12_20) (fun _ _ => ⟨rfl, e5, (by decide : 2 + 0 ≤ _), (by decide : 24 + 0 ≤ _)⟩)
  dsimp only [Pt.U, Pt.locs, Pt.cells, Pt.slots] at X6 l6 y6 z6 st6 hQ6
  subst l6 y6 z6
  obtain ⟨rfl, Nq6, Kc6, P6_0⟩ := hQ6
  have N6 := Fr.app N4 Nq6
  have K6 := K5.trans Kc6 (allS (Or.inr sz_b5) all0)
  have O6 := O5.keep Kc6 (allS ge_b5 all0)
  refine own_tr st6 ?_
  show own_G p.tables e below _ (T6.setTop (mkF m 23 #[.val (.ref a0s), .val (.ref a1), .unset, .unset] [(.ref b5), (.ref a0s)]))
  obtain ⟨T7, h7, X7, e7, W7, st7⟩ := putF X6 hx hZ hown (host := "") (Or.inl (own_w hw 136 rfl)) Via.refl rfl ((Fld.ext E5 (Fld.other W4 ((Fld.ext E2 F0_warningsByRule).keep Kc3 (ninS ne_a0s_b2 nin0)) (Or.inr (slot_ne (Or.inr (own_w hw 137 rfl)) (Or.inr (own_w hw 135 rfl)) (by decide) (t := (.object "java/util/Map")) (t' := (.object "java/util/Map")) (by decide) (by decide))))).keep Kc6 (ninS ne_a0s_b5 nin0)) ((Exa.ext E5 (Exa.wr W4 ((Exa.ext E2 E_0).keep Kc3))).keep Kc6) (Or.inr ⟨(own_w hw 137 rfl), rfl, hnm⟩) (own_w hw 102 rfl) (ty := (.object "java/util/Map")) (by decide) rfl rfl (g := (mkF m 23 #[.val (.ref a0s), .val (.ref a1), .unset, .unset] [(.ref b5), (.ref a0s)])) rfl rfl (hb hby d12_23)
  refine own_st st7 ?_
  have N7 := Fr.snoc X7 N6 g_0
  have K7 := K6.wr W7 (Or.inl (List.mem_of_getElem? (i := 0) rfl))
  have O7 := O6.wr W7 g_0
  have Fw7 := Fld.same W7 ((Fld.ext E5 (Fld.other W4 ((Fld.ext E2 F0_warningsByRule).keep Kc3 (ninS ne_a0s_b2 nin0)) (Or.inr (slot_ne (Or.inr (own_w hw 137 rfl)) (Or.inr (own_w hw 135 rfl)) (by decide) (t := (.object "java/util/Map")) (t' := (.object "java/util/Map")) (by decide) (by decide))))).keep Kc6 (ninS ne_a0s_b5 nin0))
  show own_G p.tables e below _ (T7.setTop (mkF m 26 #[.val (.ref a0s), .val (.ref a1), .unset, .unset] []))
  refine own_st (fun _ kS => XS.aloadN X7.here hx rfl (hb hby d12_26) rfl rfl kS) ?_
  show own_G p.tables e below _ (T7.setTop (mkF m 27 #[.val (.ref a0s), .val (.ref a1), .unset, .unset] [(.ref a1)]))
  obtain ⟨T8, X8, e8, st8⟩ := getS2 X7 hx hZ hown (host := "") (Or.inl (own_w hw 138 rfl)) Via.refl e7 (Sta.ext O7.2 S_REQUIRED) (g := (mkF m 27 #[.val (.ref a0s), .val (.ref a1), .unset, .unset] [(.ref a1)])) rfl (hb hby d12_27)
  refine own_st st8 ?_
  show own_G p.tables e below _ (T8.setTop (mkF m 30 #[.val (.ref a0s), .val (.ref a1), .unset, .unset] [(.ref w_REQUIRED), (.ref a1)]))
  obtain ⟨cq9, kq9, q9a, q9b, q9c⟩ := isOf hZ e8 (Exa.wr W7 ((Exa.ext E5 (Exa.wr W4 ((Exa.ext E2 E_1).keep Kc3))).keep Kc6))
  obtain ⟨_, _, ⟨T9, L9, k9, n9⟩, -, X9, ⟨Lc9, hQ9, l9, y9, z9⟩, st9⟩ := X8.virtualBack hx (y := (⟨"com/example/cartouche/cartouche/checking/Profile", "ruleIds", "(Lcom/example/cartouche/cartouche/checking/Level;)Ljava/util/List;"⟩ : MethodName)) (z := (⟨"com/example/cartouche/cartouche/checking/Profile", "ruleIds", "(Lcom/example/cartouche/cartouche/checking/Level;)Ljava/util/List;"⟩ : MethodName)) hown (mvT hZ (own_w hw 141 rfl)) (mvT hZ (own_w hw 142 rfl)) (notFace_of_selects (args := #[]) (mvT hZ (own_w hw 144 rfl))) (mvT hZ (own_w hw 144 rfl)) (mvT hZ (own_w hw 143 rfl)) (by decide) (backOf (W := 0) (rm_ruleIds1 l Z a0 hw [] a1 w_REQUIRED a3 wL wE kE wD h7 n0 (Nat.le_trans (Nat.le_trans (Nat.le_trans (Nat.le_trans (Nat.le_trans (Nat.le_trans Z0 E2.1) Kc3.1) (Keep.of_wr W4).1) E5.1) Kc6.1) (Keep.of_wr W7).1) O7 (Exa.wr W7 ((Exa.ext E5 (Exa.wr W4 ((Exa.ext E2 E_1).keep Kc3))).keep Kc6)) (Fld.other W7 ((Fld.ext E5 (Fld.other W4 ((Fld.ext E2 F_r).keep Kc3 (ninS ne_a1_b2 nin0)) (Or.inl (Ne.symm ne01)))).keep Kc6 (ninS ne_a1_b5 nin0)) (Or.inl (Ne.symm ne01))) (Exa.wr W7 ((Exa.ext E5 (Exa.wr W4 ((Exa.ext E2 E_3).keep Kc3))).keep Kc6)) (Fld.other W7 ((Fld.ext E5 (Fld.other W4 ((Fld.ext E2 F_s3).keep Kc3 (ninS ne_a3_b2 nin0)) (Or.inl (Ne.symm ne03)))).keep Kc6 (ninS ne_a3_b5 nin0)) (Or.inl (Ne.symm ne03))) (Fld.other W7 ((Fld.ext E5 (Fld.other W4 ((Fld.ext E2 F_m3).keep Kc3 (ninS ne_a3_b2 nin0)) (Or.inl (Ne.symm ne03)))).keep Kc6 (ninS ne_a3_b5 nin0)) (Or.inl (Ne.symm ne03))) E_L F_el R_E S_D) hZ (own_w hw 145 rfl) (own_w hw 3 rfl) (by decide) (by decide)) q9a q9c (g := (mkF m 30 #[.val (.ref a0s), .val (.ref a1), .unset, .unset] [(.ref w_REQUIRED), (.ref a1)])) rfl (by rw [hml]; rfl) (Steps.refl _) (argsL := [(.ref w_REQUIRED)]) (rest := []) (lenOf own_pd9 rfl) rfl (by show 2 * 0 + _ ≤ _; exact Nat.le_of_eq rfl) (hb hby d12_30) (fun _ _ => ⟨rfl, e8, (by decide : 2 + 2 ≤ _), (by decide : 24 + 7 ≤ _)⟩)
  dsimp only [Pt.U, Pt.locs, Pt.cells, Pt.slots] at X9 l9 y9 z9 st9 hQ9
  subst l9 y9 z9
  obtain ⟨b_9, rfl, Nq9, Kc9, P9_0, P9_1, P9_2, P9_3⟩ := hQ9
  have N9 := Fr.app N7 Nq9
  have ne_a0s_b_9 : a0s ≠ b_9 := Nat.ne_of_lt (Nat.lt_of_lt_of_le (Exa.wr W7 ((Exa.ext E5 (Exa.wr W4 ((Exa.ext E2 E_0).keep Kc3))).keep Kc6)).lt P9_0)
  have ne_a1_b_9 : a1 ≠ b_9 := Nat.ne_of_lt (Nat.lt_of_lt_of_le (Exa.wr W7 ((Exa.ext E5 (Exa.wr W4 ((Exa.ext E2 E_1).keep Kc3))).keep Kc6)).lt P9_0)
  have ne_a3_b_9 : a3 ≠ b_9 := Nat.ne_of_lt (Nat.lt_of_lt_of_le (Exa.wr W7 ((Exa.ext E5 (Exa.wr W4 ((Exa.ext E2 E_3).keep Kc3))).keep Kc6)).lt P9_0)
  have ne_b2_b_9 : b2 ≠ b_9 := Nat.ne_of_lt (Nat.lt_of_lt_of_le (Exa.wr W7 ((Exa.ext E5 (Exa.wr W4 P3_0)).keep Kc6)).lt P9_0)
  have ne_b5_b_9 : b5 ≠ b_9 := Nat.ne_of_lt (Nat.lt_of_lt_of_le (Exa.wr W7 P6_0).lt P9_0)
  have ge_b_9 : n0 ≤ b_9 := Nat.le_trans (Nat.le_trans (Nat.le_trans (Nat.le_trans (Nat.le_trans (Nat.le_trans (Nat.le_trans Z0 E2.1) Kc3.1) (Keep.of_wr W4).1) E5.1) Kc6.1) (Keep.of_wr W7).1) P9_0
  have sz_b_9 : h0.size ≤ b_9 := Nat.le_trans K7.1 P9_0
  have K9 := K7.trans Kc9 all0
  have O9 := O7.keep Kc9 all0
  refine own_tr st9 ?_
  show own_G p.tables e below _ (T9.setTop (mkF m 33 #[.val (.ref a0s), .val (.ref a1), .unset, .unset] [(.ref b_9)]))
  obtain ⟨cq10, kq10, q10a, q10b, q10c⟩ := isOf hZ rfl P9_1
  obtain ⟨_, _, ⟨T10, L10, k10, n10⟩, -, X10, ⟨Lc10, hQ10, l10, y10, z10⟩, st10⟩ := X9.interfaceBack hx (xi := (⟨"java/util/List", "iterator", "()Ljava/util/Iterator;"⟩ : MethodName)) (y := (⟨"java/util/ArrayList", "iterator", "()Ljava/util/Iterator;"⟩ : MethodName)) hown (mvT hZ (own_w hw 191 rfl)) (mvT hZ (own_w hw 149 rfl)) (mvT hZ (own_w hw 150 rfl)) (mvT hZ (own_w hw 192 rfl)) (mvT hZ (own_w hw 193 rfl)) (mvT hZ (own_w hw 194 rfl)) (mvT hZ (own_w hw 195 rfl)) (mvT hZ (own_w hw 196 rfl)) (by decide) (backOf (W := 0) (rm_itA l Z a0 hw [] b_9 T9.heap n0 (Nat.le_trans (Nat.le_trans (Nat.le_trans (Nat.le_trans (Nat.le_trans (Nat.le_trans (Nat.le_trans Z0 E2.1) Kc3.1) (Keep.of_wr W4).1) E5.1) Kc6.1) (Keep.of_wr W7).1) Kc9.1)  P9_1 P9_3) hZ (own_w hw 197 rfl) (own_w hw 14 rfl) (by decide) (by decide)) q10a q10b q10c (g := (mkF m 33 #[.val (.ref a0s), .val (.ref a1), .unset, .unset] [(.ref b_9)])) rfl (by rw [hml]; rfl) (Steps.refl _) (argsL := []) (rest := []) (lenOf own_pd8 rfl) rfl (by show 2 * 0 + _ ≤ _; exact Nat.le_of_eq rfl) (hb hby d12_33) (fun _ _ => ⟨rfl, rfl, (by decide : 4 + 1 ≤ _), (by decide : 31 + 4 ≤ _)⟩)
  dsimp only [Pt.U, Pt.locs, Pt.cells, Pt.slots] at X10 l10 y10 z10 st10 hQ10
  subst l10 y10 z10
  obtain ⟨b_10, rfl, Nq10, Kc10, P10_0, P10_1, P10_2, P10_3⟩ := hQ10
  have N10 := Fr.app N9 Nq10
  have ne_a0s_b_10 : a0s ≠ b_10 := Nat.ne_of_lt (Nat.lt_of_lt_of_le ((Exa.wr W7 ((Exa.ext E5 (Exa.wr W4 ((Exa.ext E2 E_0).keep Kc3))).keep Kc6)).keep Kc9).lt P10_0)
  have ne_a1_b_10 : a1 ≠ b_10 := Nat.ne_of_lt (Nat.lt_of_lt_of_le ((Exa.wr W7 ((Exa.ext E5 (Exa.wr W4 ((Exa.ext E2 E_1).keep Kc3))).keep Kc6)).keep Kc9).lt P10_0)
  have ne_a3_b_10 : a3 ≠ b_10 := Nat.ne_of_lt (Nat.lt_of_lt_of_le ((Exa.wr W7 ((Exa.ext E5 (Exa.wr W4 ((Exa.ext E2 E_3).keep Kc3))).keep Kc6)).keep Kc9).lt P10_0)
  have ne_b2_b_10 : b2 ≠ b_10 := Nat.ne_of_lt (Nat.lt_of_lt_of_le ((Exa.wr W7 ((Exa.ext E5 (Exa.wr W4 P3_0)).keep Kc6)).keep Kc9).lt P10_0)
  have ne_b5_b_10 : b5 ≠ b_10 := Nat.ne_of_lt (Nat.lt_of_lt_of_le ((Exa.wr W7 P6_0).keep Kc9).lt P10_0)
  have ne_b_9_b_10 : b_9 ≠ b_10 := Nat.ne_of_lt (Nat.lt_of_lt_of_le P9_1.lt P10_0)
  have ge_b_10 : n0 ≤ b_10 := Nat.le_trans (Nat.le_trans (Nat.le_trans (Nat.le_trans (Nat.le_trans (Nat.le_trans (Nat.le_trans (Nat.le_trans Z0 E2.1) Kc3.1) (Keep.of_wr W4).1) E5.1) Kc6.1) (Keep.of_wr W7).1) Kc9.1) P10_0
  have sz_b_10 : h0.size ≤ b_10 := Nat.le_trans K9.1 P10_0
  have K10 := K9.trans Kc10 all0
  have O10 := O9.keep Kc10 all0
  refine own_tr st10 ?_
  show own_G p.tables e below _ (T10.setTop (mkF m 38 #[.val (.ref a0s), .val (.ref a1), .unset, .unset] [(.ref b_10)]))
  refine own_st (fun _ kS => XS.astoreN X10.here hx rfl (hb hby d12_38) rfl rfl (l' := #[.val (.ref a0s), .val (.ref a1), .val (.ref b_10), .unset]) rfl kS) ?_
  show own_G p.tables e below _ (T10.setTop (mkF m 39 #[.val (.ref a0s), .val (.ref a1), .val (.ref b_10), .unset] []))
  refine own_st (fun _ kS => XS.aloadN X10.here hx rfl (hb hby d12_39) rfl rfl kS) ?_
  show own_G p.tables e below _ (T10.setTop (mkF m 40 #[.val (.ref a0s), .val (.ref a1), .val (.ref b_10), .unset] [(.ref b_10)]))
  obtain ⟨cq11, kq11, q11a, q11b, q11c⟩ := isOf hZ rfl P10_1
  obtain ⟨_, _, ⟨T11, L11, k11, n11⟩, -, X11, ⟨Lc11, hQ11, l11, y11, z11⟩, st11⟩ := X10.interfaceBack hx (xi := (⟨"java/util/Iterator", "hasNext", "()Z"⟩ : MethodName)) (y := (⟨"java/util/ArrayList$Itr", "hasNext", "()Z"⟩ : MethodName)) hown (mvT hZ (own_w hw 214 rfl)) (mvT hZ (own_w hw 183 rfl)) (mvT hZ (own_w hw 184 rfl)) (mvT hZ (own_w hw 215 rfl)) (mvT hZ (own_w hw 216 rfl)) (mvT hZ (own_w hw 217 rfl)) (mvT hZ (own_w hw 218 rfl)) (mvT hZ (own_w hw 219 rfl)) (by decide) (backOf (W := 0) (rm_hnA l Z a0 hw [] b_10 b_9 T10.heap n0 (Nat.le_trans (Nat.le_trans (Nat.le_trans (Nat.le_trans (Nat.le_trans (Nat.le_trans (Nat.le_trans (Nat.le_trans Z0 E2.1) Kc3.1) (Keep.of_wr W4).1) E5.1) Kc6.1) (Keep.of_wr W7).1) Kc9.1) Kc10.1)  P10_2 P10_3 (P9_2.keep Kc10 nin0)) hZ (own_w hw 220 rfl) (own_w hw 200 rfl) (by decide) (by decide)) q11a q11b q11c (g := (mkF m 40 #[.val (.ref a0s), .val (.ref a1), .val (.ref b_10), .unset] [(.ref b_10)])) rfl (by rw [hml]; rfl) (Steps.refl _) (argsL := []) (rest := []) (lenOf own_pd1 rfl) rfl (by show 2 * 0 + _ ≤ _; exact Nat.le_of_eq rfl) (hb hby d12_40) (fun _ _ => ⟨rfl, rfl, (by decide : 5 + 0 ≤ _), (by decide : 35 + 0 ≤ _)⟩)
  dsimp only [Pt.U, Pt.locs, Pt.cells, Pt.slots] at X11 l11 y11 z11 st11 hQ11
  subst l11 y11 z11
  obtain ⟨rfl, Nq11, eq11⟩ := hQ11
  have N11 := Fr.app N10 Nq11
  refine own_tr st11 ?_
  show own_G p.tables e below _ (T11.setTop (mkF m 45 #[.val (.ref a0s), .val (.ref a1), .val (.ref b_10), .unset] [(.int (0 : Int32))]))
  refine own_st (fun _ kS => XS.ifYes X11.here hx rfl (pc0 := 45) (pc' := 76) rfl (hb hby d12_45) rfl ((if0 _ _).trans (teq (by decide : (0 : Int32) = (0 : Int32))).1) (by decide) (by decide) kS) ?_
  show own_G p.tables e below _ (T11.setTop (mkF m 76 #[.val (.ref a0s), .val (.ref a1), .val (.ref b_10), .unset] []))
  refine own_st (fun _ kS => XS.aloadN X11.here hx rfl (hb hby d12_76) rfl rfl kS) ?_
  show own_G p.tables e below _ (T11.setTop (mkF m 77 #[.val (.ref a0s), .val (.ref a1), .val (.ref b_10), .unset] [(.ref a1)]))
  obtain ⟨T12, X12, e12, st12⟩ := getS2 X11 hx hZ hown (host := "") (Or.inl (own_w hw 224 rfl)) Via.refl eq11 (Sta.ext O10.2 S_RECOMMENDED) (g := (mkF m 77 #[.val (.ref a0s), .val (.ref a1), .val (.ref b_10), .unset] [(.ref a1)])) rfl (hb hby d12_77)
  refine own_st st12 ?_
  show own_G p.tables e below _ (T12.setTop (mkF m 80 #[.val (.ref a0s), .val (.ref a1), .val (.ref b_10), .unset] [(.ref w_RECOMMENDED), (.ref a1)]))
  obtain ⟨cq13, kq13, q13a, q13b, q13c⟩ := isOf hZ e12 (((Exa.wr W7 ((Exa.ext E5 (Exa.wr W4 ((Exa.ext E2 E_1).keep Kc3))).keep Kc6)).keep Kc9).keep Kc10)
  obtain ⟨_, _, ⟨T13, L13, k13, n13⟩, -, X13, ⟨Lc13, hQ13, l13, y13, z13⟩, st13⟩ := X12.virtualBack hx (y := (⟨"com/example/cartouche/cartouche/checking/Profile", "ruleIds", "(Lcom/example/cartouche/cartouche/checking/Level;)Ljava/util/List;"⟩ : MethodName)) (z := (⟨"com/example/cartouche/cartouche/checking/Profile", "ruleIds", "(Lcom/example/cartouche/cartouche/checking/Level;)Ljava/util/List;"⟩ : MethodName)) hown (mvT hZ (own_w hw 141 rfl)) (mvT hZ (own_w hw 142 rfl)) (notFace_of_selects (args := #[]) (mvT hZ (own_w hw 144 rfl))) (mvT hZ (own_w hw 144 rfl)) (mvT hZ (own_w hw 143 rfl)) (by decide) (backOf (W := 0) (rm_ruleIds1 l Z a0 hw [] a1 w_RECOMMENDED a3 wL wE kE wD T10.heap n0 (Nat.le_trans (Nat.le_trans (Nat.le_trans (Nat.le_trans (Nat.le_trans (Nat.le_trans (Nat.le_trans (Nat.le_trans Z0 E2.1) Kc3.1) (Keep.of_wr W4).1) E5.1) Kc6.1) (Keep.of_wr W7).1) Kc9.1) Kc10.1) O10 (((Exa.wr W7 ((Exa.ext E5 (Exa.wr W4 ((Exa.ext E2 E_1).keep Kc3))).keep Kc6)).keep Kc9).keep Kc10) (((Fld.other W7 ((Fld.ext E5 (Fld.other W4 ((Fld.ext E2 F_r).keep Kc3 (ninS ne_a1_b2 nin0)) (Or.inl (Ne.symm ne01)))).keep Kc6 (ninS ne_a1_b5 nin0)) (Or.inl (Ne.symm ne01))).keep Kc9 nin0).keep Kc10 nin0) (((Exa.wr W7 ((Exa.ext E5 (Exa.wr W4 ((Exa.ext E2 E_3).keep Kc3))).keep Kc6)).keep Kc9).keep Kc10) (((Fld.other W7 ((Fld.ext E5 (Fld.other W4 ((Fld.ext E2 F_s3).keep Kc3 (ninS ne_a3_b2 nin0)) (Or.inl (Ne.symm ne03)))).keep Kc6 (ninS ne_a3_b5 nin0)) (Or.inl (Ne.symm ne03))).keep Kc9 nin0).keep Kc10 nin0) (((Fld.other W7 ((Fld.ext E5 (Fld.other W4 ((Fld.ext E2 F_m3).keep Kc3 (ninS ne_a3_b2 nin0)) (Or.inl (Ne.symm ne03)))).keep Kc6 (ninS ne_a3_b5 nin0)) (Or.inl (Ne.symm ne03))).keep Kc9 nin0).keep Kc10 nin0) E_L F_el R_E S_D) hZ (own_w hw 145 rfl) (own_w hw 3 rfl) (by decide) (by decide)) q13a q13c (g := (mkF m 80 #[.val (.ref a0s), .val (.ref a1), .val (.ref b_10), .unset] [(.ref w_RECOMMENDED), (.ref a1)])) rfl (by rw [hml]; rfl) (Steps.refl _) (argsL := [(.ref w_RECOMMENDED)]) (rest := []) (lenOf own_pd9 rfl) rfl (by show 2 * 0 + _ ≤ _; exact Nat.le_of_eq rfl) (hb hby d12_80) (fun _ _ => ⟨rfl, e12, (by decide : 5 + 2 ≤ _), (by decide : 35 + 7 ≤ _)⟩)
  dsimp only [Pt.U, Pt.locs, Pt.cells, Pt.slots] at X13 l13 y13 z13 st13 hQ13
  subst l13 y13 z13
  obtain ⟨b_13, rfl, Nq13, Kc13, P13_0, P13_1, P13_2, P13_3⟩ := hQ13
  have N13 := Fr.app N11 Nq13
  have ne_a0s_b_13 : a0s ≠ b_13 := Nat.ne_of_lt (Nat.lt_of_lt_of_le (((Exa.wr W7 ((Exa.ext E5 (Exa.wr W4 ((Exa.ext E2 E_0).keep Kc3))).keep Kc6)).keep Kc9).keep Kc10).lt P13_0)
  have ne_a1_b_13 : a1 ≠ b_13 := Nat.ne_of_lt (Nat.lt_of_lt_of_le (((Exa.wr W7 ((Exa.ext E5 (Exa.wr W4 ((Exa.ext E2 E_1).keep Kc3))).keep Kc6)).keep Kc9).keep Kc10).lt P13_0)
  have ne_a3_b_13 : a3 ≠ b_13 := Nat.ne_of_lt (Nat.lt_of_lt_of_le (((Exa.wr W7 ((Exa.ext E5 (Exa.wr W4 ((Exa.ext E2 E_3).keep Kc3))).keep Kc6)).keep Kc9).keep Kc10).lt P13_0)
  have ne_b2_b_13 : b2 ≠ b_13 := Nat.ne_of_lt (Nat.lt_of_lt_of_le (((Exa.wr W7 ((Exa.ext E5 (Exa.wr W4 P3_0)).keep Kc6)).keep Kc9).keep Kc10).lt P13_0)
  have ne_b5_b_13 : b5 ≠ b_13 := Nat.ne_of_lt (Nat.lt_of_lt_of_le (((Exa.wr W7 P6_0).keep Kc9).keep Kc10).lt P13_0)
  have ne_b_9_b_13 : b_9 ≠ b_13 := Nat.ne_of_lt (Nat.lt_of_lt_of_le (P9_1.keep Kc10).lt P13_0)
  have ne_b_10_b_13 : b_10 ≠ b_13 := Nat.ne_of_lt (Nat.lt_of_lt_of_le P10_1.lt P13_0)
  have ge_b_13 : n0 ≤ b_13 := Nat.le_trans (Nat.le_trans (Nat.le_trans (Nat.le_trans (Nat.le_trans (Nat.le_trans (Nat.le_trans (Nat.le_trans (Nat.le_trans Z0 E2.1) Kc3.1) (Keep.of_wr W4).1) E5.1) Kc6.1) (Keep.of_wr W7).1) Kc9.1) Kc10.1) P13_0
  have sz_b_13 : h0.size ≤ b_13 := Nat.le_trans K10.1 P13_0
  have K13 := K10.trans Kc13 all0
  have O13 := O10.keep Kc13 all0
  refine own_tr st13 ?_
  show own_G p.tables e below _ (T13.setTop (mkF m 83 #[.val (.ref a0s), .val (.ref a1), .val (.ref b_10), .unset] [(.ref b_13)]))
  obtain ⟨cq14, kq14, q14a, q14b, q14c⟩ := isOf hZ rfl P13_1
  obtain ⟨_, _, ⟨T14, L14, k14, n14⟩, -, X14, ⟨Lc14, hQ14, l14, y14, z14⟩, st14⟩ := X13.interfaceBack hx (xi := (⟨"java/util/List", "iterator", "()Ljava/util/Iterator;"⟩ : MethodName)) (y := (⟨"java/util/ArrayList", "iterator", "()Ljava/util/Iterator;"⟩ : MethodName)) hown (mvT hZ (own_w hw 191 rfl)) (mvT hZ (own_w hw 149 rfl)) (mvT hZ (own_w hw 150 rfl)) (mvT hZ (own_w hw 192 rfl)) (mvT hZ (own_w hw 193 rfl)) (mvT hZ (own_w hw 194 rfl)) (mvT hZ (own_w hw 195 rfl)) (mvT hZ (own_w hw 196 rfl)) (by decide) (backOf (W := 0) (rm_itA l Z a0 hw [] b_13 T13.heap n0 (Nat.le_trans (Nat.le_trans (Nat.le_trans (Nat.le_trans (Nat.le_trans (Nat.le_trans (Nat.le_trans (Nat.le_trans (Nat.le_trans Z0 E2.1) Kc3.1) (Keep.of_wr W4).1) E5.1) Kc6.1) (Keep.of_wr W7).1) Kc9.1) Kc10.1) Kc13.1)  P13_1 P13_3) hZ (own_w hw 197 rfl) (own_w hw 14 rfl) (by decide) (by decide)) q14a q14b q14c (g := (mkF m 83 #[.val (.ref a0s), .val (.ref a1), .val (.ref b_10), .unset] [(.ref b_13)])) rfl (by rw [hml]; rfl) (Steps.refl _) (argsL := []) (rest := []) (lenOf own_pd8 rfl) rfl (by show 2 * 0 + _ ≤ _; exact Nat.le_of_eq rfl) (hb hby d12_83) (fun _ _ => ⟨rfl, rfl, (by decide : 7 + 1 ≤ _), (by decide : 42 + 4 ≤ _)⟩)
  dsimp only [Pt.U, Pt.locs, Pt.cells, Pt.slots] at X14 l14 y14 z14 st14 hQ14
  subst l14 y14 z14
  obtain ⟨b_14, rfl, Nq14, Kc14, P14_0, P14_1, P14_2, P14_3⟩ := hQ14
  have N14 := Fr.app N13 Nq14
  have ne_a0s_b_14 : a0s ≠ b_14 := Nat.ne_of_lt (Nat.lt_of_lt_of_le ((((Exa.wr W7 ((Exa.ext E5 (Exa.wr W4 ((Exa.ext E2 E_0).keep Kc3))).keep Kc6)).keep Kc9).keep Kc10).keep Kc13).lt P14_0)
  have ne_a1_b_14 : a1 ≠ b_14 := Nat.ne_of_lt (Nat.lt_of_lt_of_le ((((Exa.wr W7 ((Exa.ext E5 (Exa.wr W4 ((Exa.ext E2 E_1).keep Kc3))).keep Kc6)).keep Kc9).keep Kc10).keep Kc13).lt P14_0)
  have ne_a3_b_14 : a3 ≠ b_14 := Nat.ne_of_lt (Nat.lt_of_lt_of_le ((((Exa.wr W7 ((Exa.ext E5 (Exa.wr W4 ((Exa.ext E2 E_3).keep Kc3))).keep Kc6)).keep Kc9).keep Kc10).keep Kc13).lt P14_0)
  have ne_b2_b_14 : b2 ≠ b_14 := Nat.ne_of_lt (Nat.lt_of_lt_of_le ((((Exa.wr W7 ((Exa.ext E5 (Exa.wr W4 P3_0)).keep Kc6)).keep Kc9).keep Kc10).keep Kc13).lt P14_0)
  have ne_b5_b_14 : b5 ≠ b_14 := Nat.ne_of_lt (Nat.lt_of_lt_of_le ((((Exa.wr W7 P6_0).keep Kc9).keep Kc10).keep Kc13).lt P14_0)
  have ne_b_9_b_14 : b_9 ≠ b_14 := Nat.ne_of_lt (Nat.lt_of_lt_of_le ((P9_1.keep Kc10).keep Kc13).lt P14_0)
  have ne_b_10_b_14 : b_10 ≠ b_14 := Nat.ne_of_lt (Nat.lt_of_lt_of_le (P10_1.keep Kc13).lt P14_0)
  have ne_b_13_b_14 : b_13 ≠ b_14 := Nat.ne_of_lt (Nat.lt_of_lt_of_le P13_1.lt P14_0)
  have ge_b_14 : n0 ≤ b_14 := Nat.le_trans (Nat.le_trans (Nat.le_trans (Nat.le_trans (Nat.le_trans (Nat.le_trans (Nat.le_trans (Nat.le_trans (Nat.le_trans (Nat.le_trans Z0 E2.1) Kc3.1) (Keep.of_wr W4).1) E5.1) Kc6.1) (Keep.of_wr W7).1) Kc9.1) Kc10.1) Kc13.1) P14_0
  have sz_b_14 : h0.size ≤ b_14 := Nat.le_trans K13.1 P14_0
  have K14 := K13.trans Kc14 all0
  have O14 := O13.keep Kc14 all0
  refine own_tr st14 ?_
  show own_G p.tables e below _ (T14.setTop (mkF m 88 #[.val (.ref a0s), .val (.ref a1), .val (.ref b_10), .unset] [(.ref b_14)]))
  refine own_st (fun _ kS => XS.astoreN X14.here hx rfl (hb hby d12_88) rfl rfl (l' := #[.val (.ref a0s), .val (.ref a1), .val (.ref b_14), .unset]) rfl kS) ?_
  show own_G p.tables e below _ (T14.setTop (mkF m 89 #[.val (.ref a0s), .val (.ref a1), .val (.ref b_14), .unset] []))
  refine own_st (fun _ kS => XS.aloadN X14.here hx rfl (hb hby d12_89) rfl rfl kS) ?_
  show own_G p.tables e below _ (T14.setTop (mkF m 90 #[.val (.ref a0s), .val (.ref a1), .val (.ref b_14), .unset] [(.ref b_14)]))
  obtain ⟨cq15, kq15, q15a, q15b, q15c⟩ := isOf hZ rfl P14_1
  obtain ⟨_, _, ⟨T15, L15, k15, n15⟩, -, X15, ⟨Lc15, hQ15, l15, y15, z15⟩, st15⟩ := X14.interfaceBack hx (xi := (⟨"java/util/Iterator", "hasNext", "()Z"⟩ : MethodName)) (y := (⟨"java/util/ArrayList$Itr", "hasNext", "()Z"⟩ : MethodName)) hown (mvT hZ (own_w hw 214 rfl)) (mvT hZ (own_w hw 183 rfl)) (mvT hZ (own_w hw 184 rfl)) (mvT hZ (own_w hw 215 rfl)) (mvT hZ (own_w hw 216 rfl)) (mvT hZ (own_w hw 217 rfl)) (mvT hZ (own_w hw 218 rfl)) (mvT hZ (own_w hw 219 rfl)) (by decide) (backOf (W := 0) (rm_hnA l Z a0 hw [] b_14 b_13 T14.heap n0 (Nat.le_trans (Nat.le_trans (Nat.le_trans (Nat.le_trans (Nat.le_trans (Nat.le_trans (Nat.le_trans (Nat.le_trans (Nat.le_trans (Nat.le_trans Z0 E2.1) Kc3.1) (Keep.of_wr W4).1) E5.1) Kc6.1) (Keep.of_wr W7).1) Kc9.1) Kc10.1) Kc13.1) Kc14.1)  P14_2 P14_3 (P13_2.keep Kc14 nin0)) hZ (own_w hw 220 rfl) (own_w hw 200 rfl) (by decide) (by decide)) q15a q15b q15c (g := (mkF m 90 #[.val (.ref a0s), .val (.ref a1), .val (.ref b_14), .unset] [(.ref b_14)])) rfl (by rw [hml]; rfl) (Steps.refl _) (argsL := []) (rest := []) (lenOf own_pd1 rfl) rfl (by show 2 * 0 + _ ≤ _; exact Nat.le_of_eq rfl) (hb hby d12_90) (fun _ _ => ⟨rfl, rfl, (by decide : 8 + 0 ≤ _), (by decide : 46 + 0 ≤ _)⟩)
  dsimp only [Pt.U, Pt.locs, Pt.cells, Pt.slots] at X15 l15 y15 z15 st15 hQ15
  subst l15 y15 z15
  obtain ⟨rfl, Nq15, eq15⟩ := hQ15
  have N15 := Fr.app N14 Nq15
  refine own_tr st15 ?_
  show own_G p.tables e below _ (T15.setTop (mkF m 95 #[.val (.ref a0s), .val (.ref a1), .val (.ref b_14), .unset] [(.int (0 : Int32))]))
  refine own_st (fun _ kS => XS.ifYes X15.here hx rfl (pc0 := 95) (pc' := 126) rfl (hb hby d12_95) rfl ((if0 _ _).trans (teq (by decide : (0 : Int32) = (0 : Int32))).1) (by decide) (by decide) kS) ?_
  show own_G p.tables e below _ (T15.setTop (mkF m 126 #[.val (.ref a0s), .val (.ref a1), .val (.ref b_14), .unset] []))
  exact own_retV X15 hx hlk hret (hb hby d12_126) (by decide) (by decide) (by rw [eq15]; exact ⟨rfl, N15, K14, (((((Exa.wr W7 ((Exa.ext E5 (Exa.wr W4 ((Exa.ext E2 E_0).keep Kc3))).keep Kc6)).keep Kc9).keep Kc10).keep Kc13).keep Kc14), (((((Fld.other W7 ((Fld.ext E5 (Fld.other W4 ((Fld.ext E2 F0_unreadable).keep Kc3 (ninS ne_a0s_b2 nin0)) (Or.inr (slot_ne (Or.inl (own_w hw 232 rfl)) (Or.inr (own_w hw 135 rfl)) (by decide) (t := .int) (t' := (.object "java/util/Map")) (by decide) (by decide))))).keep Kc6 (ninS ne_a0s_b5 nin0)) (Or.inr (slot_ne (Or.inl (own_w hw 232 rfl)) (Or.inr (own_w hw 137 rfl)) (by decide) (t := .int) (t' := (.object "java/util/Map")) (by decide) (by decide)))).keep Kc9 nin0).keep Kc10 nin0).keep Kc13 nin0).keep Kc14 nin0), (((((Fld.other W7 ((Fld.ext E5 (Fld.other W4 ((Fld.ext E2 F0_conforming).keep Kc3 (ninS ne_a0s_b2 nin0)) (Or.inr (slot_ne (Or.inl (own_w hw 234 rfl)) (Or.inr (own_w hw 135 rfl)) (by decide) (t := .int) (t' := (.object "java/util/Map")) (by decide) (by decide))))).keep Kc6 (ninS ne_a0s_b5 nin0)) (Or.inr (slot_ne (Or.inl (own_w hw 234 rfl)) (Or.inr (own_w hw 137 rfl)) (by decide) (t := .int) (t' := (.object "java/util/Map")) (by decide) (by decide)))).keep Kc9 nin0).keep Kc10 nin0).keep Kc13 nin0).keep Kc14 nin0), (((((Fld.other W7 ((Fld.ext E5 (Fld.other W4 ((Fld.ext E2 F0_records).keep Kc3 (ninS ne_a0s_b2 nin0)) (Or.inr (slot_ne (Or.inl (own_w hw 236 rfl)) (Or.inr (own_w hw 135 rfl)) (by decide) (t := .int) (t' := (.object "java/util/Map")) (by decide) (by decide))))).keep Kc6 (ninS ne_a0s_b5 nin0)) (Or.inr (slot_ne (Or.inl (own_w hw 236 rfl)) (Or.inr (own_w hw 137 rfl)) (by decide) (t := .int) (t' := (.object "java/util/Map")) (by decide) (by decide)))).keep Kc9 nin0).keep Kc10 nin0).keep Kc13 nin0).keep Kc14 nin0)⟩)
theorem d24_0 : decode prog_30_method_9_code 0 = .ok (.aload_n 0, 1) := by decide +kernel
theorem d24_1 : decode prog_30_method_9_code 1 = .ok (.getfield 91, 3) := by decide +kernel
theorem d24_4 : decode prog_30_method_9_code 4 = .ok (.ifCond .ne 18, 3) := by decide +kernel
theorem d24_7 : decode prog_30_method_9_code 7 = .ok (.aload_n 0, 1) := by decide +kernel
theorem d24_8 : decode prog_30_method_9_code 8 = .ok (.getfield 73, 3) := by decide +kernel
theorem d24_11 : decode prog_30_method_9_code 11 = .ok (.aload_n 0, 1) := by decide +kernel
theorem d24_12 : decode prog_30_method_9_code 12 = .ok (.getfield 64, 3) := by decide +kernel
theorem d24_15 : decode prog_30_method_9_code 15 = .ok (.if_icmp .ne 7, 3) := by decide +kernel
theorem d24_18 : decode prog_30_method_9_code 18 = .ok (.iconst 1, 1) := by decide +kernel
theorem d24_19 : decode prog_30_method_9_code 19 = .ok (.goto 4, 3) := by decide +kernel
theorem d24_22 : decode prog_30_method_9_code 22 = .ok (.iconst 0, 1) := by decide +kernel
theorem d24_23 : decode prog_30_method_9_code 23 = .ok (.ireturn, 1) := by decide +kernel
theorem pn_24 : plainName "com/example/cartouche/cartouche/checking/Summary" = true := by first | (simp [plainName, overriddenIn]; done) | decide +kernel
theorem ef_passed0_0 (m : MethodId) (x0 : Addr) : entryFrame m #[(.ref x0)] 1 = mkF m 0 #[.val (.ref x0)] [] := by first | (simp [entryFrame, mkF, argsToLocals, Value.category]; done) | rfl
def Q_passed0_0 (Z : State) (a1 : Addr) (h0 : Heap) (n0 : Nat) (v : Option Value) (h : Heap) (L : List Loc) : Prop := v = some (.int (1 : Int32)) ∧ Fr n0 L ∧ h = h0
set_option maxRecDepth 65536 in
set_option maxHeartbeats 40000000 in
theorem rm_passed0_0 (l : Launch) (Z : State) (a0 : Array Value) (hw : ∀ d ∈ tables_1, d.before a0 Z = true) (ws : List Jvm.Cond) (a1 : Addr) (h0 : Heap) (n0 : Nat) (Z0 : n0 ≤ h0.size) (IFu : Fld Z h0 a1 "com/example/cartouche/cartouche/checking/Summary" "unreadable" "I" (.int (0 : Int32))) (IFc : Fld Z h0 a1 "com/example/cartouche/cartouche/checking/Summary" "conforming" "I" (.int (0 : Int32))) (IFr : Fld Z h0 a1 "com/example/cartouche/cartouche/checking/Summary" "records" "I" (.int (0 : Int32))) :
    MetFree l (⟨"com/example/cartouche/cartouche/checking/Summary", "passed", "()Z"⟩ : MethodName) (head1 (Jvm.Cond.code (⟨"com/example/cartouche/cartouche/checking/Summary", "passed", "()Z"⟩ : MethodName) prog_30_method_9_code 1 (some .boolean) :: ws) ({ frames := 0, cells := 0, slots := 0, locals := 0 } : Room)) (fun a U => a = #[(.ref a1)] ∧ Z.Warmed39 U.vm ∧ U.heap = h0) (fun _ _ _ _ _ => True) (fun _ U o U' => ∃ v L, o = .returned v ∧ Q_passed0_0 Z a1 h0 n0 v U'.heap L ∧ FrameEnd U o U' L ({ frames := 0, cells := 0, slots := 0, locals := 0 } : Room).cells ({ frames := 0, cells := 0, slots := 0, locals := 0 } : Room).slots) := by
  refine MetFree.of_bodySF (plainFor_of_name pn_24) hisR ?_
  intro p e s m args below meth c s₁ Bd hml0 hP hK
  obtain ⟨rfl, hZ, hh⟩ := hP
  have hx := Bd.exec
  have hby := Bd.bytes
  have hml : c.maxLocals = 1 := hml0
  have hown : s.vm.findClass "com/example/cartouche/cartouche/checking/Summary" = some m.cls := findClass_of_methodNamed Bd.named
  have hnm := (name_of_methodNamed Bd.named Bd.method).1
  have hlk := Bd.notSynchronized
  have hret := Bd.returns
  have X0 : Stand p l e ({ frames := 0, cells := 0, slots := 0, locals := 0 } : Room) s m #[(.ref a1)] below meth c s₁ [] 0 0 := Stand.of_body Bd
  have e0 : s₁.heap = h0 := by rw [← hh, Bd.state]; rfl
  have N0 := Fr.nil n0
  refine own_in ({ frames := 0, cells := 0, slots := 0, locals := 0 } : Room).cells ({ frames := 0, cells := 0, slots := 0, locals := 0 } : Room).slots (Q_passed0_0 Z a1 h0 n0) (ef_passed0_0 m a1) ?_
  show own_G p.tables e below _ (s₁.setTop (mkF m 0 #[.val (.ref a1)] []))
  refine own_st (fun _ kS => XS.aloadN X0.here hx rfl (hb hby d24_0) rfl rfl kS) ?_
  show own_G p.tables e below _ (s₁.setTop (mkF m 1 #[.val (.ref a1)] [(.ref a1)]))
  obtain ⟨T1, X1, e1, st1⟩ := getF X0 hx hZ hown (host := "") (Or.inl (own_w hw 231 rfl)) Via.refl e0 IFu (g := (mkF m 1 #[.val (.ref a1)] [(.ref a1)])) rfl rfl (hb hby d24_1)
  refine own_st st1 ?_
  show own_G p.tables e below _ (T1.setTop (mkF m 4 #[.val (.ref a1)] [(.int (0 : Int32))]))
  refine own_st (fun _ kS => XS.ifNo X1.here hx rfl (hb hby d24_4) rfl ((if0 _ _).trans (teq (by decide : (0 : Int32) = (0 : Int32))).2) kS) ?_
  show own_G p.tables e below _ (T1.setTop (mkF m 7 #[.val (.ref a1)] []))
  refine own_st (fun _ kS => XS.aloadN X1.here hx rfl (hb hby d24_7) rfl rfl kS) ?_
  show own_G p.tables e below _ (T1.setTop (mkF m 8 #[.val (.ref a1)] [(.ref a1)]))
  obtain ⟨T2, X2, e2, st2⟩ := getF X1 hx hZ hown (host := "") (Or.inl (own_w hw 233 rfl)) Via.refl e1 IFc (g := (mkF m 8 #[.val (.ref a1)] [(.ref a1)])) rfl rfl (hb hby d24_8)
  refine own_st st2 ?_
  show own_G p.tables e below _ (T2.setTop (mkF m 11 #[.val (.ref a1)] [(.int (0 : Int32))]))
  refine own_st (fun _ kS => XS.aloadN X2.here hx rfl (hb hby d24_11) rfl rfl kS) ?_
  show own_G p.tables e below _ (T2.setTop (mkF m 12 #[.val (.ref a1)] [(.ref a1), (.int (0 : Int32))]))
  obtain ⟨T3, X3, e3, st3⟩ := getF X2 hx hZ hown (host := "") (Or.inl (own_w hw 235 rfl)) Via.refl e2 IFr (g := (mkF m 12 #[.val (.ref a1)] [(.ref a1), (.int (0 : Int32))])) rfl rfl (hb hby d24_12)
  refine own_st st3 ?_
  show own_G p.tables e below _ (T3.setTop (mkF m 15 #[.val (.ref a1)] [(.int (0 : Int32)), (.int (0 : Int32))]))
  refine own_st (fun _ kS => XS.icmpNo X3.here hx rfl (hb hby d24_15) rfl (teq (by decide : (0 : Int32) = (0 : Int32))).2 kS) ?_
  show own_G p.tables e below _ (T3.setTop (mkF m 18 #[.val (.ref a1)] []))
  refine own_st (fun _ kS => XS.iconst X3.here hx rfl (hb hby d24_18) kS) ?_
  refine own_st (fun _ kS => XS.goto X3.here hx rfl (pc0 := 19) (pc' := 23) rfl (hb hby d24_19) (by decide) (by decide) kS) ?_
  show own_G p.tables e below _ (T3.setTop (mkF m 23 #[.val (.ref a1)] [(.int (1 : Int32))]))
  exact own_retN X3 hx hlk (t := .boolean) hret (by simp) (hb hby d24_23) (by decide) (by decide) (v' := (1 : Int32)) rfl (by rw [e3]; exact ⟨rfl, N0, rfl⟩)
theorem ef_passed0_1 (m : MethodId) (x0 : Addr) : entryFrame m #[(.ref x0)] 1 = mkF m 0 #[.val (.ref x0)] [] := by first | (simp [entryFrame, mkF, argsToLocals, Value.category]; done) | rfl
def Q_passed0_1 (Z : State) (a1 : Addr) (h0 : Heap) (n0 : Nat) (v : Option Value) (h : Heap) (L : List Loc) : Prop := v = some (.int (1 : Int32)) ∧ Fr n0 L ∧ h = h0
set_option maxRecDepth 65536 in
set_option maxHeartbeats 40000000 in
theorem rm_passed0_1 (l : Launch) (Z : State) (a0 : Array Value) (hw : ∀ d ∈ tables_1, d.before a0 Z = true) (ws : List Jvm.Cond) (a1 : Addr) (h0 : Heap) (n0 : Nat) (Z0 : n0 ≤ h0.size) (IFu : Fld Z h0 a1 "com/example/cartouche/cartouche/checking/Summary" "unreadable" "I" (.int (0 : Int32))) (IFc : Fld Z h0 a1 "com/example/cartouche/cartouche/checking/Summary" "conforming" "I" (.int (1 : Int32))) (IFr : Fld Z h0 a1 "com/example/cartouche/cartouche/checking/Summary" "records" "I" (.int (1 : Int32))) :
    MetFree l (⟨"com/example/cartouche/cartouche/checking/Summary", "passed", "()Z"⟩ : MethodName) (head1 (Jvm.Cond.code (⟨"com/example/cartouche/cartouche/checking/Summary", "passed", "()Z"⟩ : MethodName) prog_30_method_9_code 1 (some .boolean) :: ws) ({ frames := 0, cells := 0, slots := 0, locals := 0 } : Room)) (fun a U => a = #[(.ref a1)] ∧ Z.Warmed39 U.vm ∧ U.heap = h0) (fun _ _ _ _ _ => True) (fun _ U o U' => ∃ v L, o = .returned v ∧ Q_passed0_1 Z a1 h0 n0 v U'.heap L ∧ FrameEnd U o U' L ({ frames := 0, cells := 0, slots := 0, locals := 0 } : Room).cells ({ frames := 0, cells := 0, slots := 0, locals := 0 } : Room).slots) := by
  refine MetFree.of_bodySF (plainFor_of_name pn_24) hisR ?_
  intro p e s m args below meth c s₁ Bd hml0 hP hK
  obtain ⟨rfl, hZ, hh⟩ := hP
  have hx := Bd.exec
  have hby := Bd.bytes
  have hml : c.maxLocals = 1 := hml0
  have hown : s.vm.findClass "com/example/cartouche/cartouche/checking/Summary" = some m.cls := findClass_of_methodNamed Bd.named
  have hnm := (name_of_methodNamed Bd.named Bd.method).1
  have hlk := Bd.notSynchronized
  have hret := Bd.returns
  have X0 : Stand p l e ({ frames := 0, cells := 0, slots := 0, locals := 0 } : Room) s m #[(.ref a1)] below meth c s₁ [] 0 0 := Stand.of_body Bd
  have e0 : s₁.heap = h0 := by rw [← hh, Bd.state]; rfl
  have N0 := Fr.nil n0
  refine own_in ({ frames := 0, cells := 0, slots := 0, locals := 0 } : Room).cells ({ frames := 0, cells := 0, slots := 0, locals := 0 } : Room).slots (Q_passed0_1 Z a1 h0 n0) (ef_passed0_1 m a1) ?_
  show own_G p.tables e below _ (s₁.setTop (mkF m 0 #[.val (.ref a1)] []))
  refine own_st (fun _ kS => XS.aloadN X0.here hx rfl (hb hby d24_0) rfl rfl kS) ?_
  show own_G p.tables e below _ (s₁.setTop (mkF m 1 #[.val (.ref a1)] [(.ref a1)]))
  obtain ⟨T1, X1, e1, st1⟩ := getF X0 hx hZ hown (host := "") (Or.inl (own_w hw 231 rfl)) Via.refl e0 IFu (g := (mkF m 1 #[.val (.ref a1)] [(.ref a1)])) rfl rfl (hb hby d24_1)
  refine own_st st1 ?_
  show own_G p.tables e below _ (T1.setTop (mkF m 4 #[.val (.ref a1)] [(.int (0 : Int32))]))
  refine own_st (fun _ kS => XS.ifNo X1.here hx rfl (hb hby d24_4) rfl ((if0 _ _).trans (teq (by decide : (0 : Int32) = (0 : Int32))).2) kS) ?_
  show own_G p.tables e below _ (T1.setTop (mkF m 7 #[.val (.ref a1)] []))
  refine own_st (fun _ kS => XS.aloadN X1.here hx rfl (hb hby d24_7) rfl rfl kS) ?_
  show own_G p.tables e below _ (T1.setTop (mkF m 8 #[.val (.ref a1)] [(.ref a1)]))
  obtain ⟨T2, X2, e2, st2⟩ := getF X1 hx hZ hown (host := "") (Or.inl (own_w hw 233 rfl)) Via.refl e1 IFc (g := (mkF m 8 #[.val (.ref a1)] [(.ref a1)])) rfl rfl (hb hby d24_8)
  refine own_st st2 ?_
  show own_G p.tables e below _ (T2.setTop (mkF m 11 #[.val (.ref a1)] [(.int (1 : Int32))]))
  refine own_st (fun _ kS => XS.aloadN X2.here hx rfl (hb hby d24_11) rfl rfl kS) ?_
  show own_G p.tables e below _ (T2.setTop (mkF m 12 #[.val (.ref a1)] [(.ref a1), (.int (1 : Int32))]))
  obtain ⟨T3, X3, e3, st3⟩ := getF X2 hx hZ hown (host := "") (Or.inl (own_w hw 235 rfl)) Via.refl e2 IFr (g := (mkF m 12 #[.val (.ref a1)] [(.ref a1), (.int (1 : Int32))])) rfl rfl (hb hby d24_12)
  refine own_st st3 ?_
  show own_G p.tables e below _ (T3.setTop (mkF m 15 #[.val (.ref a1)] [(.int (1 : Int32)), (.int (1 : Int32))]))
  refine own_st (fun _ kS => XS.icmpNo X3.here hx rfl (hb hby d24_15) rfl (teq (by decide : (1 : Int32) = (1 : Int32))).2 kS) ?_
  show own_G p.tables e below _ (T3.setTop (mkF m 18 #[.val (.ref a1)] []))
  refine own_st (fun _ kS => XS.iconst X3.here hx rfl (hb hby d24_18) kS) ?_
  refine own_st (fun _ kS => XS.goto X3.here hx rfl (pc0 := 19) (pc' := 23) rfl (hb hby d24_19) (by decide) (by decide) kS) ?_
  show own_G p.tables e below _ (T3.setTop (mkF m 23 #[.val (.ref a1)] [(.int (1 : Int32))]))
  exact own_retN X3 hx hlk (t := .boolean) hret (by simp) (hb hby d24_23) (by decide) (by decide) (v' := (1 : Int32)) rfl (by rw [e3]; exact ⟨rfl, N0, rfl⟩)
theorem ef_passed0_2 (m : MethodId) (x0 : Addr) : entryFrame m #[(.ref x0)] 1 = mkF m 0 #[.val (.ref x0)] [] := by first | (simp [entryFrame, mkF, argsToLocals, Value.category]; done) | rfl
def Q_passed0_2 (Z : State) (a1 : Addr) (h0 : Heap) (n0 : Nat) (v : Option Value) (h : Heap) (L : List Loc) : Prop := v = some (.int (1 : Int32)) ∧ Fr n0 L ∧ h = h0
set_option maxRecDepth 65536 in
set_option maxHeartbeats 40000000 in
theorem rm_passed0_2 (l : Launch) (Z : State) (a0 : Array Value) (hw : ∀ d ∈ tables_1, d.before a0 Z = true) (ws : List Jvm.Cond) (a1 : Addr) (h0 : Heap) (n0 : Nat) (Z0 : n0 ≤ h0.size) (IFu : Fld Z h0 a1 "com/example/cartouche/cartouche/checking/Summary" "unreadable" "I" (.int (0 : Int32))) (IFc : Fld Z h0 a1 "com/example/cartouche/cartouche/checking/Summary" "conforming" "I" (.int (2 : Int32))) (IFr : Fld Z h0 a1 "com/example/cartouche/cartouche/checking/Summary" "records" "I" (.int (2 : Int32))) :
    MetFree l (⟨"com/example/cartouche/cartouche/checking/Summary", "passed", "()Z"⟩ : MethodName) (head1 (Jvm.Cond.code (⟨"com/example/cartouche/cartouche/checking/Summary", "passed", "()Z"⟩ : MethodName) prog_30_method_9_code 1 (some .boolean) :: ws) ({ frames := 0, cells := 0, slots := 0, locals := 0 } : Room)) (fun a U => a = #[(.ref a1)] ∧ Z.Warmed39 U.vm ∧ U.heap = h0) (fun _ _ _ _ _ => True) (fun _ U o U' => ∃ v L, o = .returned v ∧ Q_passed0_2 Z a1 h0 n0 v U'.heap L ∧ FrameEnd U o U' L ({ frames := 0, cells := 0, slots := 0, locals := 0 } : Room).cells ({ frames := 0, cells := 0, slots := 0, locals := 0 } : Room).slots) := by
  refine MetFree.of_bodySF (plainFor_of_name pn_24) hisR ?_
  intro p e s m args below meth c s₁ Bd hml0 hP hK
  obtain ⟨rfl, hZ, hh⟩ := hP
  have hx := Bd.exec
  have hby := Bd.bytes
  have hml : c.maxLocals = 1 := hml0
  have hown : s.vm.findClass "com/example/cartouche/cartouche/checking/Summary" = some m.cls := findClass_of_methodNamed Bd.named
  have hnm := (name_of_methodNamed Bd.named Bd.method).1
  have hlk := Bd.notSynchronized
  have hret := Bd.returns
  have X0 : Stand p l e ({ frames := 0, cells := 0, slots := 0, locals := 0 } : Room) s m #[(.ref a1)] below meth c s₁ [] 0 0 := Stand.of_body Bd
  have e0 : s₁.heap = h0 := by rw [← hh, Bd.state]; rfl
  have N0 := Fr.nil n0
  refine own_in ({ frames := 0, cells := 0, slots := 0, locals := 0 } : Room).cells ({ frames := 0, cells := 0, slots := 0, locals := 0 } : Room).slots (Q_passed0_2 Z a1 h0 n0) (ef_passed0_2 m a1) ?_
  show own_G p.tables e below _ (s₁.setTop (mkF m 0 #[.val (.ref a1)] []))
  refine own_st (fun _ kS => XS.aloadN X0.here hx rfl (hb hby d24_0) rfl rfl kS) ?_
  show own_G p.tables e below _ (s₁.setTop (mkF m 1 #[.val (.ref a1)] [(.ref a1)]))
  obtain ⟨T1, X1, e1, st1⟩ := getF X0 hx hZ hown (host := "") (Or.inl (own_w hw 231 rfl)) Via.refl e0 IFu (g := (mkF m 1 #[.val (.ref a1)] [(.ref a1)])) rfl rfl (hb hby d24_1)
  refine own_st st1 ?_
  show own_G p.tables e below _ (T1.setTop (mkF m 4 #[.val (.ref a1)] [(.int (0 : Int32))]))
  refine own_st (fun _ kS => XS.ifNo X1.here hx rfl (hb hby d24_4) rfl ((if0 _ _).trans (teq (by decide : (0 : Int32) = (0 : Int32))).2) kS) ?_
  show own_G p.tables e below _ (T1.setTop (mkF m 7 #[.val (.ref a1)] []))
  refine own_st (fun _ kS => XS.aloadN X1.here hx rfl (hb hby d24_7) rfl rfl kS) ?_
  show own_G p.tables e below _ (T1.setTop (mkF m 8 #[.val (.ref a1)] [(.ref a1)]))
  obtain ⟨T2, X2, e2, st2⟩ := getF X1 hx hZ hown (host := "") (Or.inl (own_w hw 233 rfl)) Via.refl e1 IFc (g := (mkF m 8 #[.val (.ref a1)] [(.ref a1)])) rfl rfl (hb hby d24_8)
  refine own_st st2 ?_
  show own_G p.tables e below _ (T2.setTop (mkF m 11 #[.val (.ref a1)] [(.int (2 : Int32))]))
  refine own_st (fun _ kS => XS.aloadN X2.here hx rfl (hb hby d24_11) rfl rfl kS) ?_
  show own_G p.tables e below _ (T2.setTop (mkF m 12 #[.val (.ref a1)] [(.ref a1), (.int (2 : Int32))]))
  obtain ⟨T3, X3, e3, st3⟩ := getF X2 hx hZ hown (host := "") (Or.inl (own_w hw 235 rfl)) Via.refl e2 IFr (g := (mkF m 12 #[.val (.ref a1)] [(.ref a1), (.int (2 : Int32))])) rfl rfl (hb hby d24_12)
  refine own_st st3 ?_
  show own_G p.tables e below _ (T3.setTop (mkF m 15 #[.val (.ref a1)] [(.int (2 : Int32)), (.int (2 : Int32))]))
  refine own_st (fun _ kS => XS.icmpNo X3.here hx rfl (hb hby d24_15) rfl (teq (by decide : (2 : Int32) = (2 : Int32))).2 kS) ?_
  show own_G p.tables e below _ (T3.setTop (mkF m 18 #[.val (.ref a1)] []))
  refine own_st (fun _ kS => XS.iconst X3.here hx rfl (hb hby d24_18) kS) ?_
  refine own_st (fun _ kS => XS.goto X3.here hx rfl (pc0 := 19) (pc' := 23) rfl (hb hby d24_19) (by decide) (by decide) kS) ?_
  show own_G p.tables e below _ (T3.setTop (mkF m 23 #[.val (.ref a1)] [(.int (1 : Int32))]))
  exact own_retN X3 hx hlk (t := .boolean) hret (by simp) (hb hby d24_23) (by decide) (by decide) (v' := (1 : Int32)) rfl (by rw [e3]; exact ⟨rfl, N0, rfl⟩)
theorem ef_passed1_0 (m : MethodId) (x0 : Addr) : entryFrame m #[(.ref x0)] 1 = mkF m 0 #[.val (.ref x0)] [] := by first | (simp [entryFrame, mkF, argsToLocals, Value.category]; done) | rfl
def Q_passed1_0 (Z : State) (a1 : Addr) (h0 : Heap) (n0 : Nat) (v : Option Value) (h : Heap) (L : List Loc) : Prop := v = some (.int (0 : Int32)) ∧ Fr n0 L ∧ h = h0
set_option maxRecDepth 65536 in
set_option maxHeartbeats 40000000 in
theorem rm_passed1_0 (l : Launch) (Z : State) (a0 : Array Value) (hw : ∀ d ∈ tables_1, d.before a0 Z = true) (ws : List Jvm.Cond) (a1 : Addr) (h0 : Heap) (n0 : Nat) (Z0 : n0 ≤ h0.size) (IFu : Fld Z h0 a1 "com/example/cartouche/cartouche/checking/Summary" "unreadable" "I" (.int (1 : Int32))) :
    MetFree l (⟨"com/example/cartouche/cartouche/checking/Summary", "passed", "()Z"⟩ : MethodName) (head1 (Jvm.Cond.code (⟨"com/example/cartouche/cartouche/checking/Summary", "passed", "()Z"⟩ : MethodName) prog_30_method_9_code 1 (some .boolean) :: ws) ({ frames := 0, cells := 0, slots := 0, locals := 0 } : Room)) (fun a U => a = #[(.ref a1)] ∧ Z.Warmed39 U.vm ∧ U.heap = h0) (fun _ _ _ _ _ => True) (fun _ U o U' => ∃ v L, o = .returned v ∧ Q_passed1_0 Z a1 h0 n0 v U'.heap L ∧ FrameEnd U o U' L ({ frames := 0, cells := 0, slots := 0, locals := 0 } : Room).cells ({ frames := 0, cells := 0, slots := 0, locals := 0 } : Room).slots) := by
  refine MetFree.of_bodySF (plainFor_of_name pn_24) hisR ?_
  intro p e s m args below meth c s₁ Bd hml0 hP hK
  obtain ⟨rfl, hZ, hh⟩ := hP
  have hx := Bd.exec
  have hby := Bd.bytes
  have hml : c.maxLocals = 1 := hml0
  have hown : s.vm.findClass "com/example/cartouche/cartouche/checking/Summary" = some m.cls := findClass_of_methodNamed Bd.named
  have hnm := (name_of_methodNamed Bd.named Bd.method).1
  have hlk := Bd.notSynchronized
  have hret := Bd.returns
  have X0 : Stand p l e ({ frames := 0, cells := 0, slots := 0, locals := 0 } : Room) s m #[(.ref a1)] below meth c s₁ [] 0 0 := Stand.of_body Bd
  have e0 : s₁.heap = h0 := by rw [← hh, Bd.state]; rfl
  have N0 := Fr.nil n0
  refine own_in ({ frames := 0, cells := 0, slots := 0, locals := 0 } : Room).cells ({ frames := 0, cells := 0, slots := 0, locals := 0 } : Room).slots (Q_passed1_0 Z a1 h0 n0) (ef_passed1_0 m a1) ?_
  show own_G p.tables e below _ (s₁.setTop (mkF m 0 #[.val (.ref a1)] []))
  refine own_st (fun _ kS => XS.aloadN X0.here hx rfl (hb hby d24_0) rfl rfl kS) ?_
  show own_G p.tables e below _ (s₁.setTop (mkF m 1 #[.val (.ref a1)] [(.ref a1)]))
  obtain ⟨T1, X1, e1, st1⟩ := getF X0 hx hZ hown (host := "") (Or.inl (own_w hw 231 rfl)) Via.refl e0 IFu (g := (mkF m 1 #[.val (.ref a1)] [(.ref a1)])) rfl rfl (hb hby d24_1)
  refine own_st st1 ?_
  show own_G p.tables e below _ (T1.setTop (mkF m 4 #[.val (.ref a1)] [(.int (1 : Int32))]))
  refine own_st (fun _ kS => XS.ifYes X1.here hx rfl (pc0 := 4) (pc' := 22) rfl (hb hby d24_4) rfl ((if0 _ _).trans (feq (by decide : ¬ ((1 : Int32) = (0 : Int32)))).2) (by decide) (by decide) kS) ?_
  show own_G p.tables e below _ (T1.setTop (mkF m 22 #[.val (.ref a1)] []))
  refine own_st (fun _ kS => XS.iconst X1.here hx rfl (hb hby d24_22) kS) ?_
  show own_G p.tables e below _ (T1.setTop (mkF m 23 #[.val (.ref a1)] [(.int (0 : Int32))]))
  exact own_retN X1 hx hlk (t := .boolean) hret (by simp) (hb hby d24_23) (by decide) (by decide) (v' := (0 : Int32)) rfl (by rw [e1]; exact ⟨rfl, N0, rfl⟩)
theorem ef_passed1_1 (m : MethodId) (x0 : Addr) : entryFrame m #[(.ref x0)] 1 = mkF m 0 #[.val (.ref x0)] [] := by first | (simp [entryFrame, mkF, argsToLocals, Value.category]; done) | rfl
def Q_passed1_1 (Z : State) (a1 : Addr) (h0 : Heap) (n0 : Nat) (v : Option Value) (h : Heap) (L : List Loc) : Prop := v = some (.int (0 : Int32)) ∧ Fr n0 L ∧ h = h0
set_option maxRecDepth 65536 in
set_option maxHeartbeats 40000000 in
theorem rm_passed1_1 (l : Launch) (Z : State) (a0 : Array Value) (hw : ∀ d ∈ tables_1, d.before a0 Z = true) (ws : List Jvm.Cond) (a1 : Addr) (h0 : Heap) (n0 : Nat) (Z0 : n0 ≤ h0.size) (IFu : Fld Z h0 a1 "com/example/cartouche/cartouche/checking/Summary" "unreadable" "I" (.int (1 : Int32))) :
    MetFree l (⟨"com/example/cartouche/cartouche/checking/Summary", "passed", "()Z"⟩ : MethodName) (head1 (Jvm.Cond.code (⟨"com/example/cartouche/cartouche/checking/Summary", "passed", "()Z"⟩ : MethodName) prog_30_method_9_code 1 (some .boolean) :: ws) ({ frames := 0, cells := 0, slots := 0, locals := 0 } : Room)) (fun a U => a = #[(.ref a1)] ∧ Z.Warmed39 U.vm ∧ U.heap = h0) (fun _ _ _ _ _ => True) (fun _ U o U' => ∃ v L, o = .returned v ∧ Q_passed1_1 Z a1 h0 n0 v U'.heap L ∧ FrameEnd U o U' L ({ frames := 0, cells := 0, slots := 0, locals := 0 } : Room).cells ({ frames := 0, cells := 0, slots := 0, locals := 0 } : Room).slots) := by
  refine MetFree.of_bodySF (plainFor_of_name pn_24) hisR ?_
  intro p e s m args below meth c s₁ Bd hml0 hP hK
  obtain ⟨rfl, hZ, hh⟩ := hP
  have hx := Bd.exec
  have hby := Bd.bytes
  have hml : c.maxLocals = 1 := hml0
  have hown : s.vm.findClass "com/example/cartouche/cartouche/checking/Summary" = some m.cls := findClass_of_methodNamed Bd.named
  have hnm := (name_of_methodNamed Bd.named Bd.method).1
  have hlk := Bd.notSynchronized
  have hret := Bd.returns
  have X0 : Stand p l e ({ frames := 0, cells := 0, slots := 0, locals := 0 } : Room) s m #[(.ref a1)] below meth c s₁ [] 0 0 := Stand.of_body Bd
  have e0 : s₁.heap = h0 := by rw [← hh, Bd.state]; rfl
  have N0 := Fr.nil n0
  refine own_in ({ frames := 0, cells := 0, slots := 0, locals := 0 } : Room).cells ({ frames := 0, cells := 0, slots := 0, locals := 0 } : Room).slots (Q_passed1_1 Z a1 h0 n0) (ef_passed1_1 m a1) ?_
  show own_G p.tables e below _ (s₁.setTop (mkF m 0 #[.val (.ref a1)] []))
  refine own_st (fun _ kS => XS.aloadN X0.here hx rfl (hb hby d24_0) rfl rfl kS) ?_
  show own_G p.tables e below _ (s₁.setTop (mkF m 1 #[.val (.ref a1)] [(.ref a1)]))
  obtain ⟨T1, X1, e1, st1⟩ := getF X0 hx hZ hown (host := "") (Or.inl (own_w hw 231 rfl)) Via.refl e0 IFu (g := (mkF m 1 #[.val (.ref a1)] [(.ref a1)])) rfl rfl (hb hby d24_1)
  refine own_st st1 ?_
  show own_G p.tables e below _ (T1.setTop (mkF m 4 #[.val (.ref a1)] [(.int (1 : Int32))]))
  refine own_st (fun _ kS => XS.ifYes X1.here hx rfl (pc0 := 4) (pc' := 22) rfl (hb hby d24_4) rfl ((if0 _ _).trans (feq (by decide : ¬ ((1 : Int32) = (0 : Int32)))).2) (by decide) (by decide) kS) ?_
  show own_G p.tables e below _ (T1.setTop (mkF m 22 #[.val (.ref a1)] []))
  refine own_st (fun _ kS => XS.iconst X1.here hx rfl (hb hby d24_22) kS) ?_
  show own_G p.tables e below _ (T1.setTop (mkF m 23 #[.val (.ref a1)] [(.int (0 : Int32))]))
  exact own_retN X1 hx hlk (t := .boolean) hret (by simp) (hb hby d24_23) (by decide) (by decide) (v' := (0 : Int32)) rfl (by rw [e1]; exact ⟨rfl, N0, rfl⟩)
theorem ef_passed1_2 (m : MethodId) (x0 : Addr) : entryFrame m #[(.ref x0)] 1 = mkF m 0 #[.val (.ref x0)] [] := by first | (simp [entryFrame, mkF, argsToLocals, Value.category]; done) | rfl
def Q_passed1_2 (Z : State) (a1 : Addr) (h0 : Heap) (n0 : Nat) (v : Option Value) (h : Heap) (L : List Loc) : Prop := v = some (.int (0 : Int32)) ∧ Fr n0 L ∧ h = h0
set_option maxRecDepth 65536 in
set_option maxHeartbeats 40000000 in
theorem rm_passed1_2 (l : Launch) (Z : State) (a0 : Array Value) (hw : ∀ d ∈ tables_1, d.before a0 Z = true) (ws : List Jvm.Cond) (a1 : Addr) (h0 : Heap) (n0 : Nat) (Z0 : n0 ≤ h0.size) (IFu : Fld Z h0 a1 "com/example/cartouche/cartouche/checking/Summary" "unreadable" "I" (.int (1 : Int32))) :
    MetFree l (⟨"com/example/cartouche/cartouche/checking/Summary", "passed", "()Z"⟩ : MethodName) (head1 (Jvm.Cond.code (⟨"com/example/cartouche/cartouche/checking/Summary", "passed", "()Z"⟩ : MethodName) prog_30_method_9_code 1 (some .boolean) :: ws) ({ frames := 0, cells := 0, slots := 0, locals := 0 } : Room)) (fun a U => a = #[(.ref a1)] ∧ Z.Warmed39 U.vm ∧ U.heap = h0) (fun _ _ _ _ _ => True) (fun _ U o U' => ∃ v L, o = .returned v ∧ Q_passed1_2 Z a1 h0 n0 v U'.heap L ∧ FrameEnd U o U' L ({ frames := 0, cells := 0, slots := 0, locals := 0 } : Room).cells ({ frames := 0, cells := 0, slots := 0, locals := 0 } : Room).slots) := by
  refine MetFree.of_bodySF (plainFor_of_name pn_24) hisR ?_
  intro p e s m args below meth c s₁ Bd hml0 hP hK
  obtain ⟨rfl, hZ, hh⟩ := hP
  have hx := Bd.exec
  have hby := Bd.bytes
  have hml : c.maxLocals = 1 := hml0
  have hown : s.vm.findClass "com/example/cartouche/cartouche/checking/Summary" = some m.cls := findClass_of_methodNamed Bd.named
  have hnm := (name_of_methodNamed Bd.named Bd.method).1
  have hlk := Bd.notSynchronized
  have hret := Bd.returns
  have X0 : Stand p l e ({ frames := 0, cells := 0, slots := 0, locals := 0 } : Room) s m #[(.ref a1)] below meth c s₁ [] 0 0 := Stand.of_body Bd
  have e0 : s₁.heap = h0 := by rw [← hh, Bd.state]; rfl
  have N0 := Fr.nil n0
  refine own_in ({ frames := 0, cells := 0, slots := 0, locals := 0 } : Room).cells ({ frames := 0, cells := 0, slots := 0, locals := 0 } : Room).slots (Q_passed1_2 Z a1 h0 n0) (ef_passed1_2 m a1) ?_
  show own_G p.tables e below _ (s₁.setTop (mkF m 0 #[.val (.ref a1)] []))
  refine own_st (fun _ kS => XS.aloadN X0.here hx rfl (hb hby d24_0) rfl rfl kS) ?_
  show own_G p.tables e below _ (s₁.setTop (mkF m 1 #[.val (.ref a1)] [(.ref a1)]))
  obtain ⟨T1, X1, e1, st1⟩ := getF X0 hx hZ hown (host := "") (Or.inl (own_w hw 231 rfl)) Via.refl e0 IFu (g := (mkF m 1 #[.val (.ref a1)] [(.ref a1)])) rfl rfl (hb hby d24_1)
  refine own_st st1 ?_
  show own_G p.tables e below _ (T1.setTop (mkF m 4 #[.val (.ref a1)] [(.int (1 : Int32))]))
  refine own_st (fun _ kS => XS.ifYes X1.here hx rfl (pc0 := 4) (pc' := 22) rfl (hb hby d24_4) rfl ((if0 _ _).trans (feq (by decide : ¬ ((1 : Int32) = (0 : Int32)))).2) (by decide) (by decide) kS) ?_
  show own_G p.tables e below _ (T1.setTop (mkF m 22 #[.val (.ref a1)] []))
  refine own_st (fun _ kS => XS.iconst X1.here hx rfl (hb hby d24_22) kS) ?_
  show own_G p.tables e below _ (T1.setTop (mkF m 23 #[.val (.ref a1)] [(.int (0 : Int32))]))
  exact own_retN X1 hx hlk (t := .boolean) hret (by simp) (hb hby d24_23) (by decide) (by decide) (v' := (0 : Int32)) rfl (by rw [e1]; exact ⟨rfl, N0, rfl⟩)
theorem ef_passed2_0 (m : MethodId) (x0 : Addr) : entryFrame m #[(.ref x0)] 1 = mkF m 0 #[.val (.ref x0)] [] := by first | (simp [entryFrame, mkF, argsToLocals, Value.category]; done) | rfl
def Q_passed2_0 (Z : State) (a1 : Addr) (h0 : Heap) (n0 : Nat) (v : Option Value) (h : Heap) (L : List Loc) : Prop := v = some (.int (0 : Int32)) ∧ Fr n0 L ∧ h = h0
set_option maxRecDepth 65536 in
set_option maxHeartbeats 40000000 in
theorem rm_passed2_0 (l : Launch) (Z : State) (a0 : Array Value) (hw : ∀ d ∈ tables_1, d.before a0 Z = true) (ws : List Jvm.Cond) (a1 : Addr) (h0 : Heap) (n0 : Nat) (Z0 : n0 ≤ h0.size) (IFu : Fld Z h0 a1 "com/example/cartouche/cartouche/checking/Summary" "unreadable" "I" (.int (2 : Int32))) :
    MetFree l (⟨"com/example/cartouche/cartouche/checking/Summary", "passed", "()Z"⟩ : MethodName) (head1 (Jvm.Cond.code (⟨"com/example/cartouche/cartouche/checking/Summary", "passed", "()Z"⟩ : MethodName) prog_30_method_9_code 1 (some .boolean) :: ws) ({ frames := 0, cells := 0, slots := 0, locals := 0 } : Room)) (fun a U => a = #[(.ref a1)] ∧ Z.Warmed39 U.vm ∧ U.heap = h0) (fun _ _ _ _ _ => True) (fun _ U o U' => ∃ v L, o = .returned v ∧ Q_passed2_0 Z a1 h0 n0 v U'.heap L ∧ FrameEnd U o U' L ({ frames := 0, cells := 0, slots := 0, locals := 0 } : Room).cells ({ frames := 0, cells := 0, slots := 0, locals := 0 } : Room).slots) := by
  refine MetFree.of_bodySF (plainFor_of_name pn_24) hisR ?_
  intro p e s m args below meth c s₁ Bd hml0 hP hK
  obtain ⟨rfl, hZ, hh⟩ := hP
  have hx := Bd.exec
  have hby := Bd.bytes
  have hml : c.maxLocals = 1 := hml0
  have hown : s.vm.findClass "com/example/cartouche/cartouche/checking/Summary" = some m.cls := findClass_of_methodNamed Bd.named
  have hnm := (name_of_methodNamed Bd.named Bd.method).1
  have hlk := Bd.notSynchronized
  have hret := Bd.returns
  have X0 : Stand p l e ({ frames := 0, cells := 0, slots := 0, locals := 0 } : Room) s m #[(.ref a1)] below meth c s₁ [] 0 0 := Stand.of_body Bd
  have e0 : s₁.heap = h0 := by rw [← hh, Bd.state]; rfl
  have N0 := Fr.nil n0
  refine own_in ({ frames := 0, cells := 0, slots := 0, locals := 0 } : Room).cells ({ frames := 0, cells := 0, slots := 0, locals := 0 } : Room).slots (Q_passed2_0 Z a1 h0 n0) (ef_passed2_0 m a1) ?_
  show own_G p.tables e below _ (s₁.setTop (mkF m 0 #[.val (.ref a1)] []))
  refine own_st (fun _ kS => XS.aloadN X0.here hx rfl (hb hby d24_0) rfl rfl kS) ?_
  show own_G p.tables e below _ (s₁.setTop (mkF m 1 #[.val (.ref a1)] [(.ref a1)]))
  obtain ⟨T1, X1, e1, st1⟩ := getF X0 hx hZ hown (host := "") (Or.inl (own_w hw 231 rfl)) Via.refl e0 IFu (g := (mkF m 1 #[.val (.ref a1)] [(.ref a1)])) rfl rfl (hb hby d24_1)
  refine own_st st1 ?_
  show own_G p.tables e below _ (T1.setTop (mkF m 4 #[.val (.ref a1)] [(.int (2 : Int32))]))
  refine own_st (fun _ kS => XS.ifYes X1.here hx rfl (pc0 := 4) (pc' := 22) rfl (hb hby d24_4) rfl ((if0 _ _).trans (feq (by decide : ¬ ((2 : Int32) = (0 : Int32)))).2) (by decide) (by decide) kS) ?_
  show own_G p.tables e below _ (T1.setTop (mkF m 22 #[.val (.ref a1)] []))
  refine own_st (fun _ kS => XS.iconst X1.here hx rfl (hb hby d24_22) kS) ?_
  show own_G p.tables e below _ (T1.setTop (mkF m 23 #[.val (.ref a1)] [(.int (0 : Int32))]))
  exact own_retN X1 hx hlk (t := .boolean) hret (by simp) (hb hby d24_23) (by decide) (by decide) (v' := (0 : Int32)) rfl (by rw [e1]; exact ⟨rfl, N0, rfl⟩)
theorem ef_passed2_1 (m : MethodId) (x0 : Addr) : entryFrame m #[(.ref x0)] 1 = mkF m 0 #[.val (.ref x0)] [] := by first | (simp [entryFrame, mkF, argsToLocals, Value.category]; done) | rfl
def Q_passed2_1 (Z : State) (a1 : Addr) (h0 : Heap) (n0 : Nat) (v : Option Value) (h : Heap) (L : List Loc) : Prop := v = some (.int (0 : Int32)) ∧ Fr n0 L ∧ h = h0
set_option maxRecDepth 65536 in
set_option maxHeartbeats 40000000 in
theorem rm_passed2_1 (l : Launch) (Z : State) (a0 : Array Value) (hw : ∀ d ∈ tables_1, d.before a0 Z = true) (ws : List Jvm.Cond) (a1 : Addr) (h0 : Heap) (n0 : Nat) (Z0 : n0 ≤ h0.size) (IFu : Fld Z h0 a1 "com/example/cartouche/cartouche/checking/Summary" "unreadable" "I" (.int (2 : Int32))) :
    MetFree l (⟨"com/example/cartouche/cartouche/checking/Summary", "passed", "()Z"⟩ : MethodName) (head1 (Jvm.Cond.code (⟨"com/example/cartouche/cartouche/checking/Summary", "passed", "()Z"⟩ : MethodName) prog_30_method_9_code 1 (some .boolean) :: ws) ({ frames := 0, cells := 0, slots := 0, locals := 0 } : Room)) (fun a U => a = #[(.ref a1)] ∧ Z.Warmed39 U.vm ∧ U.heap = h0) (fun _ _ _ _ _ => True) (fun _ U o U' => ∃ v L, o = .returned v ∧ Q_passed2_1 Z a1 h0 n0 v U'.heap L ∧ FrameEnd U o U' L ({ frames := 0, cells := 0, slots := 0, locals := 0 } : Room).cells ({ frames := 0, cells := 0, slots := 0, locals := 0 } : Room).slots) := by
  refine MetFree.of_bodySF (plainFor_of_name pn_24) hisR ?_
  intro p e s m args below meth c s₁ Bd hml0 hP hK
  obtain ⟨rfl, hZ, hh⟩ := hP
  have hx := Bd.exec
  have hby := Bd.bytes
  have hml : c.maxLocals = 1 := hml0
  have hown : s.vm.findClass "com/example/cartouche/cartouche/checking/Summary" = some m.cls := findClass_of_methodNamed Bd.named
  have hnm := (name_of_methodNamed Bd.named Bd.method).1
  have hlk := Bd.notSynchronized
  have hret := Bd.returns
  have X0 : Stand p l e ({ frames := 0, cells := 0, slots := 0, locals := 0 } : Room) s m #[(.ref a1)] below meth c s₁ [] 0 0 := Stand.of_body Bd
  have e0 : s₁.heap = h0 := by rw [← hh, Bd.state]; rfl
  have N0 := Fr.nil n0
  refine own_in ({ frames := 0, cells := 0, slots := 0, locals := 0 } : Room).cells ({ frames := 0, cells := 0, slots := 0, locals := 0 } : Room).slots (Q_passed2_1 Z a1 h0 n0) (ef_passed2_1 m a1) ?_
  show own_G p.tables e below _ (s₁.setTop (mkF m 0 #[.val (.ref a1)] []))
  refine own_st (fun _ kS => XS.aloadN X0.here hx rfl (hb hby d24_0) rfl rfl kS) ?_
  show own_G p.tables e below _ (s₁.setTop (mkF m 1 #[.val (.ref a1)] [(.ref a1)]))
  obtain ⟨T1, X1, e1, st1⟩ := getF X0 hx hZ hown (host := "") (Or.inl (own_w hw 231 rfl)) Via.refl e0 IFu (g := (mkF m 1 #[.val (.ref a1)] [(.ref a1)])) rfl rfl (hb hby d24_1)
  refine own_st st1 ?_
  show own_G p.tables e below _ (T1.setTop (mkF m 4 #[.val (.ref a1)] [(.int (2 : Int32))]))
  refine own_st (fun _ kS => XS.ifYes X1.here hx rfl (pc0 := 4) (pc' := 22) rfl (hb hby d24_4) rfl ((if0 _ _).trans (feq (by decide : ¬ ((2 : Int32) = (0 : Int32)))).2) (by decide) (by decide) kS) ?_
  show own_G p.tables e below _ (T1.setTop (mkF m 22 #[.val (.ref a1)] []))
  refine own_st (fun _ kS => XS.iconst X1.here hx rfl (hb hby d24_22) kS) ?_
  show own_G p.tables e below _ (T1.setTop (mkF m 23 #[.val (.ref a1)] [(.int (0 : Int32))]))
  exact own_retN X1 hx hlk (t := .boolean) hret (by simp) (hb hby d24_23) (by decide) (by decide) (v' := (0 : Int32)) rfl (by rw [e1]; exact ⟨rfl, N0, rfl⟩)
theorem ef_passed2_2 (m : MethodId) (x0 : Addr) : entryFrame m #[(.ref x0)] 1 = mkF m 0 #[.val (.ref x0)] [] := by first | (simp [entryFrame, mkF, argsToLocals, Value.category]; done) | rfl
def Q_passed2_2 (Z : State) (a1 : Addr) (h0 : Heap) (n0 : Nat) (v : Option Value) (h : Heap) (L : List Loc) : Prop := v = some (.int (0 : Int32)) ∧ Fr n0 L ∧ h = h0
set_option maxRecDepth 65536 in
set_option maxHeartbeats 40000000 in
theorem rm_passed2_2 (l : Launch) (Z : State) (a0 : Array Value) (hw : ∀ d ∈ tables_1, d.before a0 Z = true) (ws : List Jvm.Cond) (a1 : Addr) (h0 : Heap) (n0 : Nat) (Z0 : n0 ≤ h0.size) (IFu : Fld Z h0 a1 "com/example/cartouche/cartouche/checking/Summary" "unreadable" "I" (.int (2 : Int32))) :
    MetFree l (⟨"com/example/cartouche/cartouche/checking/Summary", "passed", "()Z"⟩ : MethodName) (head1 (Jvm.Cond.code (⟨"com/example/cartouche/cartouche/checking/Summary", "passed", "()Z"⟩ : MethodName) prog_30_method_9_code 1 (some .boolean) :: ws) ({ frames := 0, cells := 0, slots := 0, locals := 0 } : Room)) (fun a U => a = #[(.ref a1)] ∧ Z.Warmed39 U.vm ∧ U.heap = h0) (fun _ _ _ _ _ => True) (fun _ U o U' => ∃ v L, o = .returned v ∧ Q_passed2_2 Z a1 h0 n0 v U'.heap L ∧ FrameEnd U o U' L ({ frames := 0, cells := 0, slots := 0, locals := 0 } : Room).cells ({ frames := 0, cells := 0, slots := 0, locals := 0 } : Room).slots) := by
  refine MetFree.of_bodySF (plainFor_of_name pn_24) hisR ?_
  intro p e s m args below meth c s₁ Bd hml0 hP hK
  obtain ⟨rfl, hZ, hh⟩ := hP
  have hx := Bd.exec
  have hby := Bd.bytes
  have hml : c.maxLocals = 1 := hml0
  have hown : s.vm.findClass "com/example/cartouche/cartouche/checking/Summary" = some m.cls := findClass_of_methodNamed Bd.named
  have hnm := (name_of_methodNamed Bd.named Bd.method).1
  have hlk := Bd.notSynchronized
  have hret := Bd.returns
  have X0 : Stand p l e ({ frames := 0, cells := 0, slots := 0, locals := 0 } : Room) s m #[(.ref a1)] below meth c s₁ [] 0 0 := Stand.of_body Bd
  have e0 : s₁.heap = h0 := by rw [← hh, Bd.state]; rfl
  have N0 := Fr.nil n0
  refine own_in ({ frames := 0, cells := 0, slots := 0, locals := 0 } : Room).cells ({ frames := 0, cells := 0, slots := 0, locals := 0 } : Room).slots (Q_passed2_2 Z a1 h0 n0) (ef_passed2_2 m a1) ?_
  show own_G p.tables e below _ (s₁.setTop (mkF m 0 #[.val (.ref a1)] []))
  refine own_st (fun _ kS => XS.aloadN X0.here hx rfl (hb hby d24_0) rfl rfl kS) ?_
  show own_G p.tables e below _ (s₁.setTop (mkF m 1 #[.val (.ref a1)] [(.ref a1)]))
  obtain ⟨T1, X1, e1, st1⟩ := getF X0 hx hZ hown (host := "") (Or.inl (own_w hw 231 rfl)) Via.refl e0 IFu (g := (mkF m 1 #[.val (.ref a1)] [(.ref a1)])) rfl rfl (hb hby d24_1)
  refine own_st st1 ?_
  show own_G p.tables e below _ (T1.setTop (mkF m 4 #[.val (.ref a1)] [(.int (2 : Int32))]))
  refine own_st (fun _ kS => XS.ifYes X1.here hx rfl (pc0 := 4) (pc' := 22) rfl (hb hby d24_4) rfl ((if0 _ _).trans (feq (by decide : ¬ ((2 : Int32) = (0 : Int32)))).2) (by decide) (by decide) kS) ?_
  show own_G p.tables e below _ (T1.setTop (mkF m 22 #[.val (.ref a1)] []))
  refine own_st (fun _ kS => XS.iconst X1.here hx rfl (hb hby d24_22) kS) ?_
  show own_G p.tables e below _ (T1.setTop (mkF m 23 #[.val (.ref a1)] [(.int (0 : Int32))]))
  exact own_retN X1 hx hlk (t := .boolean) hret (by simp) (hb hby d24_23) (by decide) (by decide) (v' := (0 : Int32)) rfl (by rw [e1]; exact ⟨rfl, N0, rfl⟩)
theorem d25_0 : decode prog_30_method_2_code 0 = .ok (.aload_n 0, 1) := by decide +kernel
theorem d25_1 : decode prog_30_method_2_code 1 = .ok (.dup, 1) := by decide +kernel
theorem d25_2 : decode prog_30_method_2_code 2 = .ok (.getfield 64, 3) := by decide +kernel
theorem d25_5 : decode prog_30_method_2_code 5 = .ok (.iconst 1, 1) := by decide +kernel
theorem d25_6 : decode prog_30_method_2_code 6 = .ok (.iadd, 1) := by decide +kernel
theorem d25_7 : decode prog_30_method_2_code 7 = .ok (.putfield 64, 3) := by decide +kernel
theorem d25_10 : decode prog_30_method_2_code 10 = .ok (.aload_n 1, 1) := by decide +kernel
theorem d25_11 : decode prog_30_method_2_code 11 = .ok (.invokevirtual 68, 3) := by decide +kernel
theorem d25_14 : decode prog_30_method_2_code 14 = .ok (.ifCond .eq 13, 3) := by decide +kernel
theorem d25_17 : decode prog_30_method_2_code 17 = .ok (.aload_n 0, 1) := by decide +kernel
theorem d25_18 : decode prog_30_method_2_code 18 = .ok (.dup, 1) := by decide +kernel
theorem d25_19 : decode prog_30_method_2_code 19 = .ok (.getfield 73, 3) := by decide +kernel
theorem d25_22 : decode prog_30_method_2_code 22 = .ok (.iconst 1, 1) := by decide +kernel
theorem d25_23 : decode prog_30_method_2_code 23 = .ok (.iadd, 1) := by decide +kernel
theorem d25_24 : decode prog_30_method_2_code 24 = .ok (.putfield 73, 3) := by decide +kernel
theorem d25_27 : decode prog_30_method_2_code 27 = .ok (.aload_n 1, 1) := by decide +kernel
theorem d25_28 : decode prog_30_method_2_code 28 = .ok (.invokevirtual 76, 3) := by decide +kernel
theorem d25_31 : decode prog_30_method_2_code 31 = .ok (.invokeinterface 31 1, 5) := by decide +kernel
theorem d25_36 : decode prog_30_method_2_code 36 = .ok (.astore_n 2, 1) := by decide +kernel
theorem d25_37 : decode prog_30_method_2_code 37 = .ok (.aload_n 2, 1) := by decide +kernel
theorem d25_38 : decode prog_30_method_2_code 38 = .ok (.invokeinterface 37 1, 5) := by decide +kernel
theorem d25_43 : decode prog_30_method_2_code 43 = .ok (.ifCond .eq 36, 3) := by decide +kernel
theorem d25_46 : decode prog_30_method_2_code 46 = .ok (.aload_n 2, 1) := by decide +kernel
theorem d25_47 : decode prog_30_method_2_code 47 = .ok (.invokeinterface 43 1, 5) := by decide +kernel
theorem d25_52 : decode prog_30_method_2_code 52 = .ok (.checkcast 47, 3) := by decide +kernel
theorem d25_55 : decode prog_30_method_2_code 55 = .ok (.astore_n 3, 1) := by decide +kernel
theorem d25_56 : decode prog_30_method_2_code 56 = .ok (.aload_n 0, 1) := by decide +kernel
theorem d25_57 : decode prog_30_method_2_code 57 = .ok (.getfield 10, 3) := by decide +kernel
theorem d25_60 : decode prog_30_method_2_code 60 = .ok (.aload_n 3, 1) := by decide +kernel
theorem d25_61 : decode prog_30_method_2_code 61 = .ok (.iconst 1, 1) := by decide +kernel
theorem d25_62 : decode prog_30_method_2_code 62 = .ok (.invokestatic 49, 3) := by decide +kernel
theorem d25_65 : decode prog_30_method_2_code 65 = .ok (.invokedynamic 80, 5) := by decide +kernel
theorem d25_70 : decode prog_30_method_2_code 70 = .ok (.invokeinterface 84 4, 5) := by decide +kernel
theorem d25_75 : decode prog_30_method_2_code 75 = .ok (.pop, 1) := by decide +kernel
theorem d25_76 : decode prog_30_method_2_code 76 = .ok (.goto (-39), 3) := by decide +kernel
theorem d25_79 : decode prog_30_method_2_code 79 = .ok (.aload_n 1, 1) := by decide +kernel
theorem d25_80 : decode prog_30_method_2_code 80 = .ok (.invokevirtual 88, 3) := by decide +kernel
theorem d25_83 : decode prog_30_method_2_code 83 = .ok (.invokeinterface 31 1, 5) := by decide +kernel
theorem d25_88 : decode prog_30_method_2_code 88 = .ok (.astore_n 2, 1) := by decide +kernel
theorem d25_89 : decode prog_30_method_2_code 89 = .ok (.aload_n 2, 1) := by decide +kernel
theorem d25_90 : decode prog_30_method_2_code 90 = .ok (.invokeinterface 37 1, 5) := by decide +kernel
theorem d25_95 : decode prog_30_method_2_code 95 = .ok (.ifCond .eq 36, 3) := by decide +kernel
theorem d25_98 : decode prog_30_method_2_code 98 = .ok (.aload_n 2, 1) := by decide +kernel
theorem d25_99 : decode prog_30_method_2_code 99 = .ok (.invokeinterface 43 1, 5) := by decide +kernel
theorem d25_104 : decode prog_30_method_2_code 104 = .ok (.checkcast 47, 3) := by decide +kernel
theorem d25_107 : decode prog_30_method_2_code 107 = .ok (.astore_n 3, 1) := by decide +kernel
theorem d25_108 : decode prog_30_method_2_code 108 = .ok (.aload_n 0, 1) := by decide +kernel
theorem d25_109 : decode prog_30_method_2_code 109 = .ok (.getfield 16, 3) := by decide +kernel
theorem d25_112 : decode prog_30_method_2_code 112 = .ok (.aload_n 3, 1) := by decide +kernel
theorem d25_113 : decode prog_30_method_2_code 113 = .ok (.iconst 1, 1) := by decide +kernel
theorem d25_114 : decode prog_30_method_2_code 114 = .ok (.invokestatic 49, 3) := by decide +kernel
theorem d25_117 : decode prog_30_method_2_code 117 = .ok (.invokedynamic 80, 5) := by decide +kernel
theorem d25_122 : decode prog_30_method_2_code 122 = .ok (.invokeinterface 84 4, 5) := by decide +kernel
theorem d25_127 : decode prog_30_method_2_code 127 = .ok (.pop, 1) := by decide +kernel
theorem d25_128 : decode prog_30_method_2_code 128 = .ok (.goto (-39), 3) := by decide +kernel
theorem d25_131 : decode prog_30_method_2_code 131 = .ok (.return_, 1) := by decide +kernel
theorem pn_25 : plainName "com/example/cartouche/cartouche/checking/Summary" = true := by first | (simp [plainName, overriddenIn]; done) | decide +kernel
theorem ef_count0_0 (m : MethodId) (x0 : Addr) (x1 : Addr) : entryFrame m #[(.ref x0), (.ref x1)] 4 = mkF m 0 #[.val (.ref x0), .val (.ref x1), .unset, .unset] [] := by first | (simp [entryFrame, mkF, argsToLocals, Value.category]; done) | rfl
def Q_count0_0 (Z : State) (a0s : Addr) (a1 : Addr) (wL : Addr) (wE : Addr) (kE : ClassId) (wD : Addr) (w_REQUIRED : Addr) (w_RECOMMENDED : Addr) (h0 : Heap) (n0 : Nat) (v : Option Value) (h : Heap) (L : List Loc) : Prop := v = none ∧ Fr n0 L ∧ Keep h0 h [a0s] ∧ Exa Z h a0s "com/example/cartouche/cartouche/checking/Summary" ∧ Fld Z h a0s "com/example/cartouche/cartouche/checking/Summary" "unreadable" "I" (.int (0 : Int32)) ∧ Fld Z h a0s "com/example/cartouche/cartouche/checking/Summary" "conforming" "I" (.int (1 : Int32)) ∧ Fld Z h a0s "com/example/cartouche/cartouche/checking/Summary" "records" "I" (.int (1 : Int32))
set_option maxRecDepth 65536 in
set_option maxHeartbeats 40000000 in
theorem rm_count0_0 (l : Launch) (Z : State) (a0 : Array Value) (hw : ∀ d ∈ tables_1, d.before a0 Z = true) (ws : List Jvm.Cond) (a0s : Addr) (a1 : Addr) (wL : Addr) (wE : Addr) (kE : ClassId) (wD : Addr) (w_REQUIRED : Addr) (w_RECOMMENDED : Addr) (h0 : Heap) (n0 : Nat) (Z0 : n0 ≤ h0.size) (O0 : Old Z n0 h0) (E_0 : Exa Z h0 a0s "com/example/cartouche/cartouche/checking/Summary") (g_0 : n0 ≤ a0s) (ne01 : a0s ≠ a1) (IFu : Fld Z h0 a0s "com/example/cartouche/cartouche/checking/Summary" "unreadable" "I" (.int (0 : Int32))) (IFc : Fld Z h0 a0s "com/example/cartouche/cartouche/checking/Summary" "conforming" "I" (.int (0 : Int32))) (IFr : Fld Z h0 a0s "com/example/cartouche/cartouche/checking/Summary" "records" "I" (.int (0 : Int32))) (E_1 : Exa Z h0 a1 "com/example/cartouche/cartouche/checking/Verdict") (F_f : Fld Z h0 a1 "com/example/cartouche/cartouche/checking/Verdict" "failures" "Ljava/util/List;" (.ref wL)) (E_L : Exa Z Z.heap wL "java/util/ImmutableCollections$ListN") (F_el : Fld Z Z.heap wL "java/util/ImmutableCollections$ListN" "elements" "[Ljava/lang/Object;" (.ref wE)) (R_E : Arv Z Z.heap wE kE (.object "java/lang/Object") (0 : Int32) [] .null) (S_D : Sta Z Z.heap "java/util/ArrayList" "DEFAULTCAPACITY_EMPTY_ELEMENTDATA" "[Ljava/lang/Object;" (.ref wD)) (S_REQUIRED : Sta Z Z.heap "com/example/cartouche/cartouche/checking/Level" "REQUIRED" "Lcom/example/cartouche/cartouche/checking/Level;" (.ref w_REQUIRED)) (S_RECOMMENDED : Sta Z Z.heap "com/example/cartouche/cartouche/checking/Level" "RECOMMENDED" "Lcom/example/cartouche/cartouche/checking/Level;" (.ref w_RECOMMENDED)) :
    MetFree l (⟨"com/example/cartouche/cartouche/checking/Summary", "count", "(Lcom/example/cartouche/cartouche/checking/Verdict;)V"⟩ : MethodName) (head1 (Jvm.Cond.code (⟨"com/example/cartouche/cartouche/checking/Summary", "count", "(Lcom/example/cartouche/cartouche/checking/Verdict;)V"⟩ : MethodName) prog_30_method_2_code 4 none :: ws) ({ frames := 7, cells := 8, slots := 29, locals := 90 } : Room)) (fun a U => a = #[(.ref a0s), (.ref a1)] ∧ Z.Warmed39 U.vm ∧ U.heap = h0) (fun _ _ _ _ _ => True) (fun _ U o U' => ∃ v L, o = .returned v ∧ Q_count0_0 Z a0s a1 wL wE kE wD w_REQUIRED w_RECOMMENDED h0 n0 v U'.heap L ∧ FrameEnd U o U' L ({ frames := 7, cells := 8, slots := 29, locals := 90 } : Room).cells ({ frames := 7, cells := 8, slots := 29, locals := 90 } : Room).slots) := by
  refine MetFree.of_bodySF (plainFor_of_name pn_25) hisR ?_
  intro p e s m args below meth c s₁ Bd hml0 hP hK
  obtain ⟨rfl, hZ, hh⟩ := hP
  have hx := Bd.exec
  have hby := Bd.bytes
  have hml : c.maxLocals = 4 := hml0
  have hown : s.vm.findClass "com/example/cartouche/cartouche/checking/Summary" = some m.cls := findClass_of_methodNamed Bd.named
  have hnm := (name_of_methodNamed Bd.named Bd.method).1
  have hlk := Bd.notSynchronized
  have hret := Bd.returns
  have X0 : Stand p l e ({ frames := 7, cells := 8, slots := 29, locals := 90 } : Room) s m #[(.ref a0s), (.ref a1)] below meth c s₁ [] 0 0 := Stand.of_body Bd
  have e0 : s₁.heap = h0 := by rw [← hh, Bd.state]; rfl
  have N0 := Fr.nil n0
  have K0 := Keep.refl h0 [a0s]
  refine own_in ({ frames := 7, cells := 8, slots := 29, locals := 90 } : Room).cells ({ frames := 7, cells := 8, slots := 29, locals := 90 } : Room).slots (Q_count0_0 Z a0s a1 wL wE kE wD w_REQUIRED w_RECOMMENDED h0 n0) (ef_count0_0 m a0s a1) ?_
  show own_G p.tables e below _ (s₁.setTop (mkF m 0 #[.val (.ref a0s), .val (.ref a1), .unset, .unset] []))
  refine own_st (fun _ kS => XS.aloadN X0.here hx rfl (hb hby d25_0) rfl rfl kS) ?_
  refine own_st (fun _ kS => XS.dup X0.here hx rfl (hb hby d25_1) rfl rfl kS) ?_
  show own_G p.tables e below _ (s₁.setTop (mkF m 2 #[.val (.ref a0s), .val (.ref a1), .unset, .unset] [(.ref a0s), (.ref a0s)]))
  obtain ⟨T1, X1, e1, st1⟩ := getF X0 hx hZ hown (host := "") (Or.inl (own_w hw 235 rfl)) Via.refl e0 IFr (g := (mkF m 2 #[.val (.ref a0s), .val (.ref a1), .unset, .unset] [(.ref a0s), (.ref a0s)])) rfl rfl (hb hby d25_2)
  refine own_st st1 ?_
  show own_G p.tables e below _ (T1.setTop (mkF m 5 #[.val (.ref a0s), .val (.ref a1), .unset, .unset] [(.int (0 : Int32)), (.ref a0s)]))
  refine own_st (fun _ kS => XS.iconst X1.here hx rfl (hb hby d25_5) kS) ?_
  show own_G p.tables e below _ (T1.setTop (mkF m 6 #[.val (.ref a0s), .val (.ref a1), .unset, .unset] [(.int (1 : Int32)), (.int (0 : Int32)), (.ref a0s)]))
  refine own_st (fun _ kS => XS.iadd X1.here hx rfl (hb hby d25_6) rfl kS) ?_
  show own_G p.tables e below _ (T1.setTop (mkF m 7 #[.val (.ref a0s), .val (.ref a1), .unset, .unset] [(.int (1 : Int32)), (.ref a0s)]))
  obtain ⟨T2, h2, X2, e2, W2, st2⟩ := putF X1 hx hZ hown (host := "") (Or.inl (own_w hw 235 rfl)) Via.refl e1 IFr E_0 (Or.inl (own_w hw 236 rfl)) (own_w hw 102 rfl) (ty := .int) (by decide) rfl rfl (g := (mkF m 7 #[.val (.ref a0s), .val (.ref a1), .unset, .unset] [(.int (1 : Int32)), (.ref a0s)])) rfl rfl (hb hby d25_7)
  refine own_st st2 ?_
  have N2 := Fr.snoc X2 N0 g_0
  have K2 := K0.wr W2 (Or.inl (List.mem_of_getElem? (i := 0) rfl))
  have O2 := O0.wr W2 g_0
  have Fw2 := Fld.same W2 IFr
  show own_G p.tables e below _ (T2.setTop (mkF m 10 #[.val (.ref a0s), .val (.ref a1), .unset, .unset] []))
  refine own_st (fun _ kS => XS.aloadN X2.here hx rfl (hb hby d25_10) rfl rfl kS) ?_
  show own_G p.tables e below _ (T2.setTop (mkF m 11 #[.val (.ref a0s), .val (.ref a1), .unset, .unset] [(.ref a1)]))
  obtain ⟨cq3, kq3, q3a, q3b, q3c⟩ := isOf hZ e2 (Exa.wr W2 E_1)
  obtain ⟨_, _, ⟨T3, L3, k3, n3⟩, -, X3, ⟨Lc3, hQ3, l3, y3, z3⟩, st3⟩ := X2.virtualBack hx (y := (⟨"com/example/cartouche/cartouche/checking/Verdict", "conforms", "()Z"⟩ : MethodName)) (z := (⟨"com/example/cartouche/cartouche/checking/Verdict", "conforms", "()Z"⟩ : MethodName)) hown (mvT hZ (own_w hw 242 rfl)) (mvT hZ (own_w hw 243 rfl)) (notFace_of_selects (args := #[]) (mvT hZ (own_w hw 245 rfl))) (mvT hZ (own_w hw 245 rfl)) (mvT hZ (own_w hw 244 rfl)) (by decide) (backOf (W := 0) (rm_conforms0 l Z a0 hw [] a1 wL wE kE wD w_REQUIRED h2 n0 (Nat.le_trans Z0 (Keep.of_wr W2).1) O2 (Exa.wr W2 E_1) (Fld.other W2 F_f (Or.inl (Ne.symm ne01))) E_L F_el R_E S_D S_REQUIRED) hZ (own_w hw 246 rfl) (own_w hw 91 rfl) (by decide) (by decide)) q3a q3c (g := (mkF m 11 #[.val (.ref a0s), .val (.ref a1), .unset, .unset] [(.ref a1)])) rfl (by rw [hml]; rfl) (Steps.refl _) (argsL := []) (rest := []) (lenOf own_pd1 rfl) rfl (by show 2 * 0 + _ ≤ _; exact Nat.le_of_eq rfl) (hb hby d25_11) (fun _ _ => ⟨rfl, e2, (by decide : 0 + 2 ≤ _), (by decide : 0 + 7 ≤ _)⟩)
  dsimp only [Pt.U, Pt.locs, Pt.cells, Pt.slots] at X3 l3 y3 z3 st3 hQ3
  subst l3 y3 z3
  obtain ⟨rfl, Nq3, Kc3⟩ := hQ3
  have N3 := Fr.app N2 Nq3
  have K3 := K2.trans Kc3 all0
  have O3 := O2.keep Kc3 all0
  refine own_tr st3 ?_
  show own_G p.tables e below _ (T3.setTop (mkF m 14 #[.val (.ref a0s), .val (.ref a1), .unset, .unset] [(.int (1 : Int32))]))
  refine own_st (fun _ kS => XS.ifNo X3.here hx rfl (hb hby d25_14) rfl ((if0 _ _).trans (feq (by decide : ¬ ((1 : Int32) = (0 : Int32)))).1) kS) ?_
  show own_G p.tables e below _ (T3.setTop (mkF m 17 #[.val (.ref a0s), .val (.ref a1), .unset, .unset] []))
  refine own_st (fun _ kS => XS.aloadN X3.here hx rfl (hb hby d25_17) rfl rfl kS) ?_
  refine own_st (fun _ kS => XS.dup X3.here hx rfl (hb hby d25_18) rfl rfl kS) ?_
  show own_G p.tables e below _ (T3.setTop (mkF m 19 #[.val (.ref a0s), .val (.ref a1), .unset, .unset] [(.ref a0s), (.ref a0s)]))
  obtain ⟨T4, X4, e4, st4⟩ := getF X3 hx hZ hown (host := "") (Or.inl (own_w hw 233 rfl)) Via.refl rfl ((Fld.other W2 IFc (Or.inr (slot_ne (Or.inl (own_w hw 234 rfl)) (Or.inl (own_w hw 236 rfl)) (by decide) (t := .int) (t' := .int) (by decide) (by decide)))).keep Kc3 nin0) (g := (mkF m 19 #[.val (.ref a0s), .val (.ref a1), .unset, .unset] [(.ref a0s), (.ref a0s)])) rfl rfl (hb hby d25_19)
  refine own_st st4 ?_
  show own_G p.tables e below _ (T4.setTop (mkF m 22 #[.val (.ref a0s), .val (.ref a1), .unset, .unset] [(.int (0 : Int32)), (.ref a0s)]))
  refine own_st (fun _ kS => XS.iconst X4.here hx rfl (hb hby d25_22) kS) ?_
  show own_G p.tables e below _ (T4.setTop (mkF m 23 #[.val (.ref a0s), .val (.ref a1), .unset, .unset] [(.int (1 : Int32)), (.int (0 : Int32)), (.ref a0s)]))
  refine own_st (fun _ kS => XS.iadd X4.here hx rfl (hb hby d25_23) rfl kS) ?_
  show own_G p.tables e below _ (T4.setTop (mkF m 24 #[.val (.ref a0s), .val (.ref a1), .unset, .unset] [(.int (1 : Int32)), (.ref a0s)]))
  obtain ⟨T5, h5, X5, e5, W5, st5⟩ := putF X4 hx hZ hown (host := "") (Or.inl (own_w hw 233 rfl)) Via.refl e4 ((Fld.other W2 IFc (Or.inr (slot_ne (Or.inl (own_w hw 234 rfl)) (Or.inl (own_w hw 236 rfl)) (by decide) (t := .int) (t' := .int) (by decide) (by decide)))).keep Kc3 nin0) ((Exa.wr W2 E_0).keep Kc3) (Or.inl (own_w hw 234 rfl)) (own_w hw 102 rfl) (ty := .int) (by decide) rfl rfl (g := (mkF m 24 #[.val (.ref a0s), .val (.ref a1), .unset, .unset] [(.int (1 : Int32)), (.ref a0s)])) rfl rfl (hb hby d25_24)
  refine own_st st5 ?_
  have N5 := Fr.snoc X5 N3 g_0
  have K5 := K3.wr W5 (Or.inl (List.mem_of_getElem? (i := 0) rfl))
  have O5 := O3.wr W5 g_0
  have Fw5 := Fld.same W5 ((Fld.other W2 IFc (Or.inr (slot_ne (Or.inl (own_w hw 234 rfl)) (Or.inl (own_w hw 236 rfl)) (by decide) (t := .int) (t' := .int) (by decide) (by decide)))).keep Kc3 nin0)
  show own_G p.tables e below _ (T5.setTop (mkF m 27 #[.val (.ref a0s), .val (.ref a1), .unset, .unset] []))
  refine own_st (fun _ kS => XS.aloadN X5.here hx rfl (hb hby d25_27) rfl rfl kS) ?_
  show own_G p.tables e below _ (T5.setTop (mkF m 28 #[.val (.ref a0s), .val (.ref a1), .unset, .unset] [(.ref a1)]))
  obtain ⟨cq6, kq6, q6a, q6b, q6c⟩ := isOf hZ e5 (Exa.wr W5 ((Exa.wr W2 E_1).keep Kc3))
  obtain ⟨_, _, ⟨T6, L6, k6, n6⟩, -, X6, ⟨Lc6, hQ6, l6, y6, z6⟩, st6⟩ := X5.virtualBack hx (y := (⟨"com/example/cartouche/cartouche/checking/Verdict", "failed", "()Ljava/util/List;"⟩ : MethodName)) (z := (⟨"com/example/cartouche/cartouche/checking/Verdict", "failed", "()Ljava/util/List;"⟩ : MethodName)) hown (mvT hZ (own_w hw 265 rfl)) (mvT hZ (own_w hw 248 rfl)) (notFace_of_selects (args := #[]) (mvT hZ (own_w hw 250 rfl))) (mvT hZ (own_w hw 250 rfl)) (mvT hZ (own_w hw 249 rfl)) (by decide) (backOf (W := 0) (rm_failed0 l Z a0 hw [] a1 wL wE kE wD w_REQUIRED h5 n0 (Nat.le_trans (Nat.le_trans (Nat.le_trans Z0 (Keep.of_wr W2).1) Kc3.1) (Keep.of_wr W5).1) O5 (Exa.wr W5 ((Exa.wr W2 E_1).keep Kc3)) (Fld.other W5 ((Fld.other W2 F_f (Or.inl (Ne.symm ne01))).keep Kc3 nin0) (Or.inl (Ne.symm ne01))) E_L F_el R_E S_D S_REQUIRED) hZ (own_w hw 251 rfl) (own_w hw 91 rfl) (by decide) (by decide)) q6a q6c (g := (mkF m 28 #[.val (.ref a0s), .val (.ref a1), .unset, .unset] [(.ref a1)])) rfl (by rw [hml]; rfl) (Steps.refl _) (argsL := []) (rest := []) (lenOf own_pd2 rfl) rfl (by show 2 * 0 + _ ≤ _; exact Nat.le_of_eq rfl) (hb hby d25_28) (fun _ _ => ⟨rfl, e5, (by decide : 2 + 2 ≤ _), (by decide : 7 + 7 ≤ _)⟩)
  dsimp only [Pt.U, Pt.locs, Pt.cells, Pt.slots] at X6 l6 y6 z6 st6 hQ6
  subst l6 y6 z6
  obtain ⟨b_6, rfl, Nq6, Kc6, P6_0, P6_1, P6_2, P6_3⟩ := hQ6
  have N6 := Fr.app N5 Nq6
  have ne_a0s_b_6 : a0s ≠ b_6 := Nat.ne_of_lt (Nat.lt_of_lt_of_le (Exa.wr W5 ((Exa.wr W2 E_0).keep Kc3)).lt P6_0)
  have ne_a1_b_6 : a1 ≠ b_6 := Nat.ne_of_lt (Nat.lt_of_lt_of_le (Exa.wr W5 ((Exa.wr W2 E_1).keep Kc3)).lt P6_0)
  have ge_b_6 : n0 ≤ b_6 := Nat.le_trans (Nat.le_trans (Nat.le_trans (Nat.le_trans Z0 (Keep.of_wr W2).1) Kc3.1) (Keep.of_wr W5).1) P6_0
  have sz_b_6 : h0.size ≤ b_6 := Nat.le_trans K5.1 P6_0
  have K6 := K5.trans Kc6 all0
  have O6 := O5.keep Kc6 all0
  refine own_tr st6 ?_
  show own_G p.tables e below _ (T6.setTop (mkF m 31 #[.val (.ref a0s), .val (.ref a1), .unset, .unset] [(.ref b_6)]))
  obtain ⟨cq7, kq7, q7a, q7b, q7c⟩ := isOf hZ rfl P6_1
  obtain ⟨_, _, ⟨T7, L7, k7, n7⟩, -, X7, ⟨Lc7, hQ7, l7, y7, z7⟩, st7⟩ := X6.interfaceBack hx (xi := (⟨"java/util/List", "iterator", "()Ljava/util/Iterator;"⟩ : MethodName)) (y := (⟨"java/util/ArrayList", "iterator", "()Ljava/util/Iterator;"⟩ : MethodName)) hown (mvT hZ (own_w hw 191 rfl)) (mvT hZ (own_w hw 149 rfl)) (mvT hZ (own_w hw 150 rfl)) (mvT hZ (own_w hw 192 rfl)) (mvT hZ (own_w hw 193 rfl)) (mvT hZ (own_w hw 194 rfl)) (mvT hZ (own_w hw 195 rfl)) (mvT hZ (own_w hw 196 rfl)) (by decide) (backOf (W := 0) (rm_itA l Z a0 hw [] b_6 T6.heap n0 (Nat.le_trans (Nat.le_trans (Nat.le_trans (Nat.le_trans Z0 (Keep.of_wr W2).1) Kc3.1) (Keep.of_wr W5).1) Kc6.1)  P6_1 P6_3) hZ (own_w hw 197 rfl) (own_w hw 14 rfl) (by decide) (by decide)) q7a q7b q7c (g := (mkF m 31 #[.val (.ref a0s), .val (.ref a1), .unset, .unset] [(.ref b_6)])) rfl (by rw [hml]; rfl) (Steps.refl _) (argsL := []) (rest := []) (lenOf own_pd8 rfl) rfl (by show 2 * 0 + _ ≤ _; exact Nat.le_of_eq rfl) (hb hby d25_31) (fun _ _ => ⟨rfl, rfl, (by decide : 4 + 1 ≤ _), (by decide : 14 + 4 ≤ _)⟩)
  dsimp only [Pt.U, Pt.locs, Pt.cells, Pt.slots] at X7 l7 y7 z7 st7 hQ7
  subst l7 y7 z7
  obtain ⟨b_7, rfl, Nq7, Kc7, P7_0, P7_1, P7_2, P7_3⟩ := hQ7
  have N7 := Fr.app N6 Nq7
  have ne_a0s_b_7 : a0s ≠ b_7 := Nat.ne_of_lt (Nat.lt_of_lt_of_le ((Exa.wr W5 ((Exa.wr W2 E_0).keep Kc3)).keep Kc6).lt P7_0)
  have ne_a1_b_7 : a1 ≠ b_7 := Nat.ne_of_lt (Nat.lt_of_lt_of_le ((Exa.wr W5 ((Exa.wr W2 E_1).keep Kc3)).keep Kc6).lt P7_0)
  have ne_b_6_b_7 : b_6 ≠ b_7 := Nat.ne_of_lt (Nat.lt_of_lt_of_le P6_1.lt P7_0)
  have ge_b_7 : n0 ≤ b_7 := Nat.le_trans (Nat.le_trans (Nat.le_trans (Nat.le_trans (Nat.le_trans Z0 (Keep.of_wr W2).1) Kc3.1) (Keep.of_wr W5).1) Kc6.1) P7_0
  have sz_b_7 : h0.size ≤ b_7 := Nat.le_trans K6.1 P7_0
  have K7 := K6.trans Kc7 all0
  have O7 := O6.keep Kc7 all0
  refine own_tr st7 ?_
  show own_G p.tables e below _ (T7.setTop (mkF m 36 #[.val (.ref a0s), .val (.ref a1), .unset, .unset] [(.ref b_7)]))
  refine own_st (fun _ kS => XS.astoreN X7.here hx rfl (hb hby d25_36) rfl rfl (l' := #[.val (.ref a0s), .val (.ref a1), .val (.ref b_7), .unset]) rfl kS) ?_
  show own_G p.tables e below _ (T7.setTop (mkF m 37 #[.val (.ref a0s), .val (.ref a1), .val (.ref b_7), .unset] []))
  refine own_st (fun _ kS => XS.aloadN X7.here hx rfl (hb hby d25_37) rfl rfl kS) ?_
  show own_G p.tables e below _ (T7.setTop (mkF m 38 #[.val (.ref a0s), .val (.ref a1), .val (.ref b_7), .unset] [(.ref b_7)]))
  obtain ⟨cq8, kq8, q8a, q8b, q8c⟩ := isOf hZ rfl P7_1
  obtain ⟨_, _, ⟨T8, L8, k8, n8⟩, -, X8, ⟨Lc8, hQ8, l8, y8, z8⟩, st8⟩ := X7.interfaceBack hx (xi := (⟨"java/util/Iterator", "hasNext", "()Z"⟩ : MethodName)) (y := (⟨"java/util/ArrayList$Itr", "hasNext", "()Z"⟩ : MethodName)) hown (mvT hZ (own_w hw 214 rfl)) (mvT hZ (own_w hw 183 rfl)) (mvT hZ (own_w hw 184 rfl)) (mvT hZ (own_w hw 215 rfl)) (mvT hZ (own_w hw 216 rfl)) (mvT hZ (own_w hw 217 rfl)) (mvT hZ (own_w hw 218 rfl)) (mvT hZ (own_w hw 219 rfl)) (by decide) (backOf (W := 0) (rm_hnA l Z a0 hw [] b_7 b_6 T7.heap n0 (Nat.le_trans (Nat.le_trans (Nat.le_trans (Nat.le_trans (Nat.le_trans Z0 (Keep.of_wr W2).1) Kc3.1) (Keep.of_wr W5).1) Kc6.1) Kc7.1)  P7_2 P7_3 (P6_2.keep Kc7 nin0)) hZ (own_w hw 220 rfl) (own_w hw 200 rfl) (by decide) (by decide)) q8a q8b q8c (g := (mkF m 38 #[.val (.ref a0s), .val (.ref a1), .val (.ref b_7), .unset] [(.ref b_7)])) rfl (by rw [hml]; rfl) (Steps.refl _) (argsL := []) (rest := []) (lenOf own_pd1 rfl) rfl (by show 2 * 0 + _ ≤ _; exact Nat.le_of_eq rfl) (hb hby d25_38) (fun _ _ => ⟨rfl, rfl, (by decide : 5 + 0 ≤ _), (by decide : 18 + 0 ≤ _)⟩)
  dsimp only [Pt.U, Pt.locs, Pt.cells, Pt.slots] at X8 l8 y8 z8 st8 hQ8
  subst l8 y8 z8
  obtain ⟨rfl, Nq8, eq8⟩ := hQ8
  have N8 := Fr.app N7 Nq8
  refine own_tr st8 ?_
  show own_G p.tables e below _ (T8.setTop (mkF m 43 #[.val (.ref a0s), .val (.ref a1), .val (.ref b_7), .unset] [(.int (0 : Int32))]))
  refine own_st (fun _ kS => XS.ifYes X8.here hx rfl (pc0 := 43) (pc' := 79) rfl (hb hby d25_43) rfl ((if0 _ _).trans (teq (by decide : (0 : Int32) = (0 : Int32))).1) (by decide) (by decide) kS) ?_
  show own_G p.tables e below _ (T8.setTop (mkF m 79 #[.val (.ref a0s), .val (.ref a1), .val (.ref b_7), .unset] []))
  refine own_st (fun _ kS => XS.aloadN X8.here hx rfl (hb hby d25_79) rfl rfl kS) ?_
  show own_G p.tables e below _ (T8.setTop (mkF m 80 #[.val (.ref a0s), .val (.ref a1), .val (.ref b_7), .unset] [(.ref a1)]))
  obtain ⟨cq9, kq9, q9a, q9b, q9c⟩ := isOf hZ eq8 (((Exa.wr W5 ((Exa.wr W2 E_1).keep Kc3)).keep Kc6).keep Kc7)
  obtain ⟨_, _, ⟨T9, L9, k9, n9⟩, -, X9, ⟨Lc9, hQ9, l9, y9, z9⟩, st9⟩ := X8.virtualBack hx (y := (⟨"com/example/cartouche/cartouche/checking/Verdict", "warned", "()Ljava/util/List;"⟩ : MethodName)) (z := (⟨"com/example/cartouche/cartouche/checking/Verdict", "warned", "()Ljava/util/List;"⟩ : MethodName)) hown (mvT hZ (own_w hw 266 rfl)) (mvT hZ (own_w hw 267 rfl)) (notFace_of_selects (args := #[]) (mvT hZ (own_w hw 269 rfl))) (mvT hZ (own_w hw 269 rfl)) (mvT hZ (own_w hw 268 rfl)) (by decide) (backOf (W := 0) (rm_warned0 l Z a0 hw [] a1 wL wE kE wD w_RECOMMENDED T7.heap n0 (Nat.le_trans (Nat.le_trans (Nat.le_trans (Nat.le_trans (Nat.le_trans Z0 (Keep.of_wr W2).1) Kc3.1) (Keep.of_wr W5).1) Kc6.1) Kc7.1) O7 (((Exa.wr W5 ((Exa.wr W2 E_1).keep Kc3)).keep Kc6).keep Kc7) (((Fld.other W5 ((Fld.other W2 F_f (Or.inl (Ne.symm ne01))).keep Kc3 nin0) (Or.inl (Ne.symm ne01))).keep Kc6 nin0).keep Kc7 nin0) E_L F_el R_E S_D S_RECOMMENDED) hZ (own_w hw 270 rfl) (own_w hw 91 rfl) (by decide) (by decide)) q9a q9c (g := (mkF m 80 #[.val (.ref a0s), .val (.ref a1), .val (.ref b_7), .unset] [(.ref a1)])) rfl (by rw [hml]; rfl) (Steps.refl _) (argsL := []) (rest := []) (lenOf own_pd2 rfl) rfl (by show 2 * 0 + _ ≤ _; exact Nat.le_of_eq rfl) (hb hby d25_80) (fun _ _ => ⟨rfl, eq8, (by decide : 5 + 2 ≤ _), (by decide : 18 + 7 ≤ _)⟩)
  dsimp only [Pt.U, Pt.locs, Pt.cells, Pt.slots] at X9 l9 y9 z9 st9 hQ9
  subst l9 y9 z9
  obtain ⟨b_9, rfl, Nq9, Kc9, P9_0, P9_1, P9_2, P9_3⟩ := hQ9
  have N9 := Fr.app N8 Nq9
  have ne_a0s_b_9 : a0s ≠ b_9 := Nat.ne_of_lt (Nat.lt_of_lt_of_le (((Exa.wr W5 ((Exa.wr W2 E_0).keep Kc3)).keep Kc6).keep Kc7).lt P9_0)
  have ne_a1_b_9 : a1 ≠ b_9 := Nat.ne_of_lt (Nat.lt_of_lt_of_le (((Exa.wr W5 ((Exa.wr W2 E_1).keep Kc3)).keep Kc6).keep Kc7).lt P9_0)
  have ne_b_6_b_9 : b_6 ≠ b_9 := Nat.ne_of_lt (Nat.lt_of_lt_of_le (P6_1.keep Kc7).lt P9_0)
  have ne_b_7_b_9 : b_7 ≠ b_9 := Nat.ne_of_lt (Nat.lt_of_lt_of_le P7_1.lt P9_0)
  have ge_b_9 : n0 ≤ b_9 := Nat.le_trans (Nat.le_trans (Nat.le_trans (Nat.le_trans (Nat.le_trans (Nat.le_trans Z0 (Keep.of_wr W2).1) Kc3.1) (Keep.of_wr W5).1) Kc6.1) Kc7.1) P9_0
  have sz_b_9 : h0.size ≤ b_9 := Nat.le_trans K7.1 P9_0
  have K9 := K7.trans Kc9 all0
  have O9 := O7.keep Kc9 all0
  refine own_tr st9 ?_
  show own_G p.tables e below _ (T9.setTop (mkF m 83 #[.val (.ref a0s), .val (.ref a1), .val (.ref b_7), .unset] [(.ref b_9)]))
  obtain ⟨cq10, kq10, q10a, q10b, q10c⟩ := isOf hZ rfl P9_1
  obtain ⟨_, _, ⟨T10, L10, k10, n10⟩, -, X10, ⟨Lc10, hQ10, l10, y10, z10⟩, st10⟩ := X9.interfaceBack hx (xi := (⟨"java/util/List", "iterator", "()Ljava/util/Iterator;"⟩ : MethodName)) (y := (⟨"java/util/ArrayList", "iterator", "()Ljava/util/Iterator;"⟩ : MethodName)) hown (mvT hZ (own_w hw 191 rfl)) (mvT hZ (own_w hw 149 rfl)) (mvT hZ (own_w hw 150 rfl)) (mvT hZ (own_w hw 192 rfl)) (mvT hZ (own_w hw 193 rfl)) (mvT hZ (own_w hw 194 rfl)) (mvT hZ (own_w hw 195 rfl)) (mvT hZ (own_w hw 196 rfl)) (by decide) (backOf (W := 0) (rm_itA l Z a0 hw [] b_9 T9.heap n0 (Nat.le_trans (Nat.le_trans (Nat.le_trans (Nat.le_trans (Nat.le_trans (Nat.le_trans Z0 (Keep.of_wr W2).1) Kc3.1) (Keep.of_wr W5).1) Kc6.1) Kc7.1) Kc9.1)  P9_1 P9_3) hZ (own_w hw 197 rfl) (own_w hw 14 rfl) (by decide) (by decide)) q10a q10b q10c (g := (mkF m 83 #[.val (.ref a0s), .val (.ref a1), .val (.ref b_7), .unset] [(.ref b_9)])) rfl (by rw [hml]; rfl) (Steps.refl _) (argsL := []) (rest := []) (lenOf own_pd8 rfl) rfl (by show 2 * 0 + _ ≤ _; exact Nat.le_of_eq rfl) (hb hby d25_83) (fun _ _ => ⟨rfl, rfl, (by decide : 7 + 1 ≤ _), (by decide : 25 + 4 ≤ _)⟩)
  dsimp only [Pt.U, Pt.locs, Pt.cells, Pt.slots] at X10 l10 y10 z10 st10 hQ10
  subst l10 y10 z10
  obtain ⟨b_10, rfl, Nq10, Kc10, P10_0, P10_1, P10_2, P10_3⟩ := hQ10
  have N10 := Fr.app N9 Nq10
  have ne_a0s_b_10 : a0s ≠ b_10 := Nat.ne_of_lt (Nat.lt_of_lt_of_le ((((Exa.wr W5 ((Exa.wr W2 E_0).keep Kc3)).keep Kc6).keep Kc7).keep Kc9).lt P10_0)
  have ne_a1_b_10 : a1 ≠ b_10 := Nat.ne_of_lt (Nat.lt_of_lt_of_le ((((Exa.wr W5 ((Exa.wr W2 E_1).keep Kc3)).keep Kc6).keep Kc7).keep Kc9).lt P10_0)
  have ne_b_6_b_10 : b_6 ≠ b_10 := Nat.ne_of_lt (Nat.lt_of_lt_of_le ((P6_1.keep Kc7).keep Kc9).lt P10_0)
  have ne_b_7_b_10 : b_7 ≠ b_10 := Nat.ne_of_lt (Nat.lt_of_lt_of_le (P7_1.keep Kc9).lt P10_0)
  have ne_b_9_b_10 : b_9 ≠ b_10 := Nat.ne_of_lt (Nat.lt_of_lt_of_le P9_1.lt P10_0)
  have ge_b_10 : n0 ≤ b_10 := Nat.le_trans (Nat.le_trans (Nat.le_trans (Nat.le_trans (Nat.le_trans (Nat.le_trans (Nat.le_trans Z0 (Keep.of_wr W2).1) Kc3.1) (Keep.of_wr W5).1) Kc6.1) Kc7.1) Kc9.1) P10_0
  have sz_b_10 : h0.size ≤ b_10 := Nat.le_trans K9.1 P10_0
  have K10 := K9.trans Kc10 all0
  have O10 := O9.keep Kc10 all0
  refine own_tr st10 ?_
  show own_G p.tables e below _ (T10.setTop (mkF m 88 #[.val (.ref a0s), .val (.ref a1), .val (.ref b_7), .unset] [(.ref b_10)]))
  refine own_st (fun _ kS => XS.astoreN X10.here hx rfl (hb hby d25_88) rfl rfl (l' := #[.val (.ref a0s), .val (.ref a1), .val (.ref b_10), .unset]) rfl kS) ?_
  show own_G p.tables e below _ (T10.setTop (mkF m 89 #[.val (.ref a0s), .val (.ref a1), .val (.ref b_10), .unset] []))
  refine own_st (fun _ kS => XS.aloadN X10.here hx rfl (hb hby d25_89) rfl rfl kS) ?_
  show own_G p.tables e below _ (T10.setTop (mkF m 90 #[.val (.ref a0s), .val (.ref a1), .val (.ref b_10), .unset] [(.ref b_10)]))
  obtain ⟨cq11, kq11, q11a, q11b, q11c⟩ := isOf hZ rfl P10_1
  obtain ⟨_, _, ⟨T11, L11, k11, n11⟩, -, X11, ⟨Lc11, hQ11, l11, y11, z11⟩, st11⟩ := X10.interfaceBack hx (xi := (⟨"java/util/Iterator", "hasNext", "()Z"⟩ : MethodName)) (y := (⟨"java/util/ArrayList$Itr", "hasNext", "()Z"⟩ : MethodName)) hown (mvT hZ (own_w hw 214 rfl)) (mvT hZ (own_w hw 183 rfl)) (mvT hZ (own_w hw 184 rfl)) (mvT hZ (own_w hw 215 rfl)) (mvT hZ (own_w hw 216 rfl)) (mvT hZ (own_w hw 217 rfl)) (mvT hZ (own_w hw 218 rfl)) (mvT hZ (own_w hw 219 rfl)) (by decide) (backOf (W := 0) (rm_hnA l Z a0 hw [] b_10 b_9 T10.heap n0 (Nat.le_trans (Nat.le_trans (Nat.le_trans (Nat.le_trans (Nat.le_trans (Nat.le_trans (Nat.le_trans Z0 (Keep.of_wr W2).1) Kc3.1) (Keep.of_wr W5).1) Kc6.1) Kc7.1) Kc9.1) Kc10.1)  P10_2 P10_3 (P9_2.keep Kc10 nin0)) hZ (own_w hw 220 rfl) (own_w hw 200 rfl) (by decide) (by decide)) q11a q11b q11c (g := (mkF m 90 #[.val (.ref a0s), .val (.ref a1), .val (.ref b_10), .unset] [(.ref b_10)])) rfl (by rw [hml]; rfl) (Steps.refl _) (argsL := []) (rest := []) (lenOf own_pd1 rfl) rfl (by show 2 * 0 + _ ≤ _; exact Nat.le_of_eq rfl) (hb hby d25_90) (fun _ _ => ⟨rfl, rfl, (by decide : 8 + 0 ≤ _), (by decide : 29 + 0 ≤ _)⟩)
  dsimp only [Pt.U, Pt.locs, Pt.cells, Pt.slots] at X11 l11 y11 z11 st11 hQ11
  subst l11 y11 z11
  obtain ⟨rfl, Nq11, eq11⟩ := hQ11
  have N11 := Fr.app N10 Nq11
  refine own_tr st11 ?_
  show own_G p.tables e below _ (T11.setTop (mkF m 95 #[.val (.ref a0s), .val (.ref a1), .val (.ref b_10), .unset] [(.int (0 : Int32))]))
  refine own_st (fun _ kS => XS.ifYes X11.here hx rfl (pc0 := 95) (pc' := 131) rfl (hb hby d25_95) rfl ((if0 _ _).trans (teq (by decide : (0 : Int32) = (0 : Int32))).1) (by decide) (by decide) kS) ?_
  show own_G p.tables e below _ (T11.setTop (mkF m 131 #[.val (.ref a0s), .val (.ref a1), .val (.ref b_10), .unset] []))
  exact own_retV X11 hx hlk hret (hb hby d25_131) (by decide) (by decide) (by rw [eq11]; exact ⟨rfl, N11, K10, (((((Exa.wr W5 ((Exa.wr W2 E_0).keep Kc3)).keep Kc6).keep Kc7).keep Kc9).keep Kc10), (((((Fld.other W5 ((Fld.other W2 IFu (Or.inr (slot_ne (Or.inl (own_w hw 232 rfl)) (Or.inl (own_w hw 236 rfl)) (by decide) (t := .int) (t' := .int) (by decide) (by decide)))).keep Kc3 nin0) (Or.inr (slot_ne (Or.inl (own_w hw 232 rfl)) (Or.inl (own_w hw 234 rfl)) (by decide) (t := .int) (t' := .int) (by decide) (by decide)))).keep Kc6 nin0).keep Kc7 nin0).keep Kc9 nin0).keep Kc10 nin0), ((((Fw5.keep Kc6 nin0).keep Kc7 nin0).keep Kc9 nin0).keep Kc10 nin0), (((((Fld.other W5 (Fw2.keep Kc3 nin0) (Or.inr (slot_ne (Or.inl (own_w hw 236 rfl)) (Or.inl (own_w hw 234 rfl)) (by decide) (t := .int) (t' := .int) (by decide) (by decide)))).keep Kc6 nin0).keep Kc7 nin0).keep Kc9 nin0).keep Kc10 nin0)⟩)
theorem ef_count0_1 (m : MethodId) (x0 : Addr) (x1 : Addr) : entryFrame m #[(.ref x0), (.ref x1)] 4 = mkF m 0 #[.val (.ref x0), .val (.ref x1), .unset, .unset] [] := by first | (simp [entryFrame, mkF, argsToLocals, Value.category]; done) | rfl
def Q_count0_1 (Z : State) (a0s : Addr) (a1 : Addr) (wL : Addr) (wE : Addr) (kE : ClassId) (wD : Addr) (w_REQUIRED : Addr) (w_RECOMMENDED : Addr) (h0 : Heap) (n0 : Nat) (v : Option Value) (h : Heap) (L : List Loc) : Prop := v = none ∧ Fr n0 L ∧ Keep h0 h [a0s] ∧ Exa Z h a0s "com/example/cartouche/cartouche/checking/Summary" ∧ Fld Z h a0s "com/example/cartouche/cartouche/checking/Summary" "unreadable" "I" (.int (0 : Int32)) ∧ Fld Z h a0s "com/example/cartouche/cartouche/checking/Summary" "conforming" "I" (.int (2 : Int32)) ∧ Fld Z h a0s "com/example/cartouche/cartouche/checking/Summary" "records" "I" (.int (2 : Int32))
set_option maxRecDepth 65536 in
set_option maxHeartbeats 40000000 in
theorem rm_count0_1 (l : Launch) (Z : State) (a0 : Array Value) (hw : ∀ d ∈ tables_1, d.before a0 Z = true) (ws : List Jvm.Cond) (a0s : Addr) (a1 : Addr) (wL : Addr) (wE : Addr) (kE : ClassId) (wD : Addr) (w_REQUIRED : Addr) (w_RECOMMENDED : Addr) (h0 : Heap) (n0 : Nat) (Z0 : n0 ≤ h0.size) (O0 : Old Z n0 h0) (E_0 : Exa Z h0 a0s "com/example/cartouche/cartouche/checking/Summary") (g_0 : n0 ≤ a0s) (ne01 : a0s ≠ a1) (IFu : Fld Z h0 a0s "com/example/cartouche/cartouche/checking/Summary" "unreadable" "I" (.int (0 : Int32))) (IFc : Fld Z h0 a0s "com/example/cartouche/cartouche/checking/Summary" "conforming" "I" (.int (1 : Int32))) (IFr : Fld Z h0 a0s "com/example/cartouche/cartouche/checking/Summary" "records" "I" (.int (1 : Int32))) (E_1 : Exa Z h0 a1 "com/example/cartouche/cartouche/checking/Verdict") (F_f : Fld Z h0 a1 "com/example/cartouche/cartouche/checking/Verdict" "failures" "Ljava/util/List;" (.ref wL)) (E_L : Exa Z Z.heap wL "java/util/ImmutableCollections$ListN") (F_el : Fld Z Z.heap wL "java/util/ImmutableCollections$ListN" "elements" "[Ljava/lang/Object;" (.ref wE)) (R_E : Arv Z Z.heap wE kE (.object "java/lang/Object") (0 : Int32) [] .null) (S_D : Sta Z Z.heap "java/util/ArrayList" "DEFAULTCAPACITY_EMPTY_ELEMENTDATA" "[Ljava/lang/Object;" (.ref wD)) (S_REQUIRED : Sta Z Z.heap "com/example/cartouche/cartouche/checking/Level" "REQUIRED" "Lcom/example/cartouche/cartouche/checking/Level;" (.ref w_REQUIRED)) (S_RECOMMENDED : Sta Z Z.heap "com/example/cartouche/cartouche/checking/Level" "RECOMMENDED" "Lcom/example/cartouche/cartouche/checking/Level;" (.ref w_RECOMMENDED)) :
    MetFree l (⟨"com/example/cartouche/cartouche/checking/Summary", "count", "(Lcom/example/cartouche/cartouche/checking/Verdict;)V"⟩ : MethodName) (head1 (Jvm.Cond.code (⟨"com/example/cartouche/cartouche/checking/Summary", "count", "(Lcom/example/cartouche/cartouche/checking/Verdict;)V"⟩ : MethodName) prog_30_method_2_code 4 none :: ws) ({ frames := 7, cells := 8, slots := 29, locals := 90 } : Room)) (fun a U => a = #[(.ref a0s), (.ref a1)] ∧ Z.Warmed39 U.vm ∧ U.heap = h0) (fun _ _ _ _ _ => True) (fun _ U o U' => ∃ v L, o = .returned v ∧ Q_count0_1 Z a0s a1 wL wE kE wD w_REQUIRED w_RECOMMENDED h0 n0 v U'.heap L ∧ FrameEnd U o U' L ({ frames := 7, cells := 8, slots := 29, locals := 90 } : Room).cells ({ frames := 7, cells := 8, slots := 29, locals := 90 } : Room).slots) := by
  refine MetFree.of_bodySF (plainFor_of_name pn_25) hisR ?_
  intro p e s m args below meth c s₁ Bd hml0 hP hK
  obtain ⟨rfl, hZ, hh⟩ := hP
  have hx := Bd.exec
  have hby := Bd.bytes
  have hml : c.maxLocals = 4 := hml0
  have hown : s.vm.findClass "com/example/cartouche/cartouche/checking/Summary" = some m.cls := findClass_of_methodNamed Bd.named
  have hnm := (name_of_methodNamed Bd.named Bd.method).1
  have hlk := Bd.notSynchronized
  have hret := Bd.returns
  have X0 : Stand p l e ({ frames := 7, cells := 8, slots := 29, locals := 90 } : Room) s m #[(.ref a0s), (.ref a1)] below meth c s₁ [] 0 0 := Stand.of_body Bd
  have e0 : s₁.heap = h0 := by rw [← hh, Bd.state]; rfl
  have N0 := Fr.nil n0
  have K0 := Keep.refl h0 [a0s]
  refine own_in ({ frames := 7, cells := 8, slots := 29, locals := 90 } : Room).cells ({ frames := 7, cells := 8, slots := 29, locals := 90 } : Room).slots (Q_count0_1 Z a0s a1 wL wE kE wD w_REQUIRED w_RECOMMENDED h0 n0) (ef_count0_1 m a0s a1) ?_
  show own_G p.tables e below _ (s₁.setTop (mkF m 0 #[.val (.ref a0s), .val (.ref a1), .unset, .unset] []))
  refine own_st (fun _ kS => XS.aloadN X0.here hx rfl (hb hby d25_0) rfl rfl kS) ?_
  refine own_st (fun _ kS => XS.dup X0.here hx rfl (hb hby d25_1) rfl rfl kS) ?_
  show own_G p.tables e below _ (s₁.setTop (mkF m 2 #[.val (.ref a0s), .val (.ref a1), .unset, .unset] [(.ref a0s), (.ref a0s)]))
  obtain ⟨T1, X1, e1, st1⟩ := getF X0 hx hZ hown (host := "") (Or.inl (own_w hw 235 rfl)) Via.refl e0 IFr (g := (mkF m 2 #[.val (.ref a0s), .val (.ref a1), .unset, .unset] [(.ref a0s), (.ref a0s)])) rfl rfl (hb hby d25_2)
  refine own_st st1 ?_
  show own_G p.tables e below _ (T1.setTop (mkF m 5 #[.val (.ref a0s), .val (.ref a1), .unset, .unset] [(.int (1 : Int32)), (.ref a0s)]))
  refine own_st (fun _ kS => XS.iconst X1.here hx rfl (hb hby d25_5) kS) ?_
  show own_G p.tables e below _ (T1.setTop (mkF m 6 #[.val (.ref a0s), .val (.ref a1), .unset, .unset] [(.int (1 : Int32)), (.int (1 : Int32)), (.ref a0s)]))
  refine own_st (fun _ kS => XS.iadd X1.here hx rfl (hb hby d25_6) rfl kS) ?_
  show own_G p.tables e below _ (T1.setTop (mkF m 7 #[.val (.ref a0s), .val (.ref a1), .unset, .unset] [(.int (2 : Int32)), (.ref a0s)]))
  obtain ⟨T2, h2, X2, e2, W2, st2⟩ := putF X1 hx hZ hown (host := "") (Or.inl (own_w hw 235 rfl)) Via.refl e1 IFr E_0 (Or.inl (own_w hw 236 rfl)) (own_w hw 102 rfl) (ty := .int) (by decide) rfl rfl (g := (mkF m 7 #[.val (.ref a0s), .val (.ref a1), .unset, .unset] [(.int (2 : Int32)), (.ref a0s)])) rfl rfl (hb hby d25_7)
  refine own_st st2 ?_
  have N2 := Fr.snoc X2 N0 g_0
  have K2 := K0.wr W2 (Or.inl (List.mem_of_getElem? (i := 0) rfl))
  have O2 := O0.wr W2 g_0
  have Fw2 := Fld.same W2 IFr
  show own_G p.tables e below _ (T2.setTop (mkF m 10 #[.val (.ref a0s), .val (.ref a1), .unset, .unset] []))
  refine own_st (fun _ kS => XS.aloadN X2.here hx rfl (hb hby d25_10) rfl rfl kS) ?_
  show own_G p.tables e below _ (T2.setTop (mkF m 11 #[.val (.ref a0s), .val (.ref a1), .unset, .unset] [(.ref a1)]))
  obtain ⟨cq3, kq3, q3a, q3b, q3c⟩ := isOf hZ e2 (Exa.wr W2 E_1)
  obtain ⟨_, _, ⟨T3, L3, k3, n3⟩, -, X3, ⟨Lc3, hQ3, l3, y3, z3⟩, st3⟩ := X2.virtualBack hx (y := (⟨"com/example/cartouche/cartouche/checking/Verdict", "conforms", "()Z"⟩ : MethodName)) (z := (⟨"com/example/cartouche/cartouche/checking/Verdict", "conforms", "()Z"⟩ : MethodName)) hown (mvT hZ (own_w hw 242 rfl)) (mvT hZ (own_w hw 243 rfl)) (notFace_of_selects (args := #[]) (mvT hZ (own_w hw 245 rfl))) (mvT hZ (own_w hw 245 rfl)) (mvT hZ (own_w hw 244 rfl)) (by decide) (backOf (W := 0) (rm_conforms0 l Z a0 hw [] a1 wL wE kE wD w_REQUIRED h2 n0 (Nat.le_trans Z0 (Keep.of_wr W2).1) O2 (Exa.wr W2 E_1) (Fld.other W2 F_f (Or.inl (Ne.symm ne01))) E_L F_el R_E S_D S_REQUIRED) hZ (own_w hw 246 rfl) (own_w hw 91 rfl) (by decide) (by decide)) q3a q3c (g := (mkF m 11 #[.val (.ref a0s), .val (.ref a1), .unset, .unset] [(.ref a1)])) rfl (by rw [hml]; rfl) (Steps.refl _) (argsL := []) (rest := []) (lenOf own_pd1 rfl) rfl (by show 2 * 0 + _ ≤ _; exact Nat.le_of_eq rfl) (hb hby d25_11) (fun _ _ => ⟨rfl, e2, (by decide : 0 + 2 ≤ _), (by decide : 0 + 7 ≤ _)⟩)
  dsimp only [Pt.U, Pt.locs, Pt.cells, Pt.slots] at X3 l3 y3 z3 st3 hQ3
  subst l3 y3 z3
  obtain ⟨rfl, Nq3, Kc3⟩ := hQ3
  have N3 := Fr.app N2 Nq3
  have K3 := K2.trans Kc3 all0
  have O3 := O2.keep Kc3 all0
  refine own_tr st3 ?_
  show own_G p.tables e below _ (T3.setTop (mkF m 14 #[.val (.ref a0s), .val (.ref a1), .unset, .unset] [(.int (1 : Int32))]))
  refine own_st (fun _ kS => XS.ifNo X3.here hx rfl (hb hby d25_14) rfl ((if0 _ _).trans (feq (by decide : ¬ ((1 : Int32) = (0 : Int32)))).1) kS) ?_
  show own_G p.tables e below _ (T3.setTop (mkF m 17 #[.val (.ref a0s), .val (.ref a1), .unset, .unset] []))
  refine own_st (fun _ kS => XS.aloadN X3.here hx rfl (hb hby d25_17) rfl rfl kS) ?_
  refine own_st (fun _ kS => XS.dup X3.here hx rfl (hb hby d25_18) rfl rfl kS) ?_
  show own_G p.tables e below _ (T3.setTop (mkF m 19 #[.val (.ref a0s), .val (.ref a1), .unset, .unset] [(.ref a0s), (.ref a0s)]))
  obtain ⟨T4, X4, e4, st4⟩ := getF X3 hx hZ hown (host := "") (Or.inl (own_w hw 233 rfl)) Via.refl rfl ((Fld.other W2 IFc (Or.inr (slot_ne (Or.inl (own_w hw 234 rfl)) (Or.inl (own_w hw 236 rfl)) (by decide) (t := .int) (t' := .int) (by decide) (by decide)))).keep Kc3 nin0) (g := (mkF m 19 #[.val (.ref a0s), .val (.ref a1), .unset, .unset] [(.ref a0s), (.ref a0s)])) rfl rfl (hb hby d25_19)
  refine own_st st4 ?_
  show own_G p.tables e below _ (T4.setTop (mkF m 22 #[.val (.ref a0s), .val (.ref a1), .unset, .unset] [(.int (1 : Int32)), (.ref a0s)]))
  refine own_st (fun _ kS => XS.iconst X4.here hx rfl (hb hby d25_22) kS) ?_
  show own_G p.tables e below _ (T4.setTop (mkF m 23 #[.val (.ref a0s), .val (.ref a1), .unset, .unset] [(.int (1 : Int32)), (.int (1 : Int32)), (.ref a0s)]))
  refine own_st (fun _ kS => XS.iadd X4.here hx rfl (hb hby d25_23) rfl kS) ?_
  show own_G p.tables e below _ (T4.setTop (mkF m 24 #[.val (.ref a0s), .val (.ref a1), .unset, .unset] [(.int (2 : Int32)), (.ref a0s)]))
  obtain ⟨T5, h5, X5, e5, W5, st5⟩ := putF X4 hx hZ hown (host := "") (Or.inl (own_w hw 233 rfl)) Via.refl e4 ((Fld.other W2 IFc (Or.inr (slot_ne (Or.inl (own_w hw 234 rfl)) (Or.inl (own_w hw 236 rfl)) (by decide) (t := .int) (t' := .int) (by decide) (by decide)))).keep Kc3 nin0) ((Exa.wr W2 E_0).keep Kc3) (Or.inl (own_w hw 234 rfl)) (own_w hw 102 rfl) (ty := .int) (by decide) rfl rfl (g := (mkF m 24 #[.val (.ref a0s), .val (.ref a1), .unset, .unset] [(.int (2 : Int32)), (.ref a0s)])) rfl rfl (hb hby d25_24)
  refine own_st st5 ?_
  have N5 := Fr.snoc X5 N3 g_0
  have K5 := K3.wr W5 (Or.inl (List.mem_of_getElem? (i := 0) rfl))
  have O5 := O3.wr W5 g_0
  have Fw5 := Fld.same W5 ((Fld.other W2 IFc (Or.inr (slot_ne (Or.inl (own_w hw 234 rfl)) (Or.inl (own_w hw 236 rfl)) (by decide) (t := .int) (t' := .int) (by decide) (by decide)))).keep Kc3 nin0)
  show own_G p.tables e below _ (T5.setTop (mkF m 27 #[.val (.ref a0s), .val (.ref a1), .unset, .unset] []))
  refine own_st (fun _ kS => XS.aloadN X5.here hx rfl (hb hby d25_27) rfl rfl kS) ?_
  show own_G p.tables e below _ (T5.setTop (mkF m 28 #[.val (.ref a0s), .val (.ref a1), .unset, .unset] [(.ref a1)]))
  obtain ⟨cq6, kq6, q6a, q6b, q6c⟩ := isOf hZ e5 (Exa.wr W5 ((Exa.wr W2 E_1).keep Kc3))
  obtain ⟨_, _, ⟨T6, L6, k6, n6⟩, -, X6, ⟨Lc6, hQ6, l6, y6, z6⟩, st6⟩ := X5.virtualBack hx (y := (⟨"com/example/cartouche/cartouche/checking/Verdict", "failed", "()Ljava/util/List;"⟩ : MethodName)) (z := (⟨"com/example/cartouche/cartouche/checking/Verdict", "failed", "()Ljava/util/List;"⟩ : MethodName)) hown (mvT hZ (own_w hw 265 rfl)) (mvT hZ (own_w hw 248 rfl)) (notFace_of_selects (args := #[]) (mvT hZ (own_w hw 250 rfl))) (mvT hZ (own_w hw 250 rfl)) (mvT hZ (own_w hw 249 rfl)) (by decide) (backOf (W := 0) (rm_failed0 l Z a0 hw [] a1 wL wE kE wD w_REQUIRED h5 n0 (Nat.le_trans (Nat.le_trans (Nat.le_trans Z0 (Keep.of_wr W2).1) Kc3.1) (Keep.of_wr W5).1) O5 (Exa.wr W5 ((Exa.wr W2 E_1).keep Kc3)) (Fld.other W5 ((Fld.other W2 F_f (Or.inl (Ne.symm ne01))).keep Kc3 nin0) (Or.inl (Ne.symm ne01))) E_L F_el R_E S_D S_REQUIRED) hZ (own_w hw 251 rfl) (own_w hw 91 rfl) (by decide) (by decide)) q6a q6c (g := (mkF m 28 #[.val (.ref a0s), .val (.ref a1), .unset, .unset] [(.ref a1)])) rfl (by rw [hml]; rfl) (Steps.refl _) (argsL := []) (rest := []) (lenOf own_pd2 rfl) rfl (by show 2 * 0 + _ ≤ _; exact Nat.le_of_eq rfl) (hb hby d25_28) (fun _ _ => ⟨rfl, e5, (by decide : 2 + 2 ≤ _), (by decide : 7 + 7 ≤ _)⟩)
  dsimp only [Pt.U, Pt.locs, Pt.cells, Pt.slots] at X6 l6 y6 z6 st6 hQ6
  subst l6 y6 z6
  obtain ⟨b_6, rfl, Nq6, Kc6, P6_0, P6_1, P6_2, P6_3⟩ := hQ6
  have N6 := Fr.app N5 Nq6
  have ne_a0s_b_6 : a0s ≠ b_6 := Nat.ne_of_lt (Nat.lt_of_lt_of_le (Exa.wr W5 ((Exa.wr W2 E_0).keep Kc3)).lt P6_0)
  have ne_a1_b_6 : a1 ≠ b_6 := Nat.ne_of_lt (Nat.lt_of_lt_of_le (Exa.wr W5 ((Exa.wr W2 E_1).keep Kc3)).lt P6_0)
  have ge_b_6 : n0 ≤ b_6 := Nat.le_trans (Nat.le_trans (Nat.le_trans (Nat.le_trans Z0 (Keep.of_wr W2).1) Kc3.1) (Keep.of_wr W5).1) P6_0
  have sz_b_6 : h0.size ≤ b_6 := Nat.le_trans K5.1 P6_0
  have K6 := K5.trans Kc6 all0
  have O6 := O5.keep Kc6 all0
  refine own_tr st6 ?_
  show own_G p.tables e below _ (T6.setTop (mkF m 31 #[.val (.ref a0s), .val (.ref a1), .unset, .unset] [(.ref b_6)]))
  obtain ⟨cq7, kq7, q7a, q7b, q7c⟩ := isOf hZ rfl P6_1
  obtain ⟨_, _, ⟨T7, L7, k7, n7⟩, -, X7, ⟨Lc7, hQ7, l7, y7, z7⟩, st7⟩ := X6.interfaceBack hx (xi := (⟨"java/util/List", "iterator", "()Ljava/util/Iterator;"⟩ : MethodName)) (y := (⟨"java/util/ArrayList", "iterator", "()Ljava/util/Iterator;"⟩ : MethodName)) hown (mvT hZ (own_w hw 191 rfl)) (mvT hZ (own_w hw 149 rfl)) (mvT hZ (own_w hw 150 rfl)) (mvT hZ (own_w hw 192 rfl)) (mvT hZ (own_w hw 193 rfl)) (mvT hZ (own_w hw 194 rfl)) (mvT hZ (own_w hw 195 rfl)) (mvT hZ (own_w hw 196 rfl)) (by decide) (backOf (W := 0) (rm_itA l Z a0 hw [] b_6 T6.heap n0 (Nat.le_trans (Nat.le_trans (Nat.le_trans (Nat.le_trans Z0 (Keep.of_wr W2).1) Kc3.1) (Keep.of_wr W5).1) Kc6.1)  P6_1 P6_3) hZ (own_w hw 197 rfl) (own_w hw 14 rfl) (by decide) (by decide)) q7a q7b q7c (g := (mkF m 31 #[.val (.ref a0s), .val (.ref a1), .unset, .unset] [(.ref b_6)])) rfl (by rw [hml]; rfl) (Steps.refl _) (argsL := []) (rest := []) (lenOf own_pd8 rfl) rfl (by show 2 * 0 + _ ≤ _; exact Nat.le_of_eq rfl) (hb hby d25_31) (fun _ _ => ⟨rfl, rfl, (by decide : 4 + 1 ≤ _), (by decide : 14 + 4 ≤ _)⟩)
  dsimp only [Pt.U, Pt.locs, Pt.cells, Pt.slots] at X7 l7 y7 z7 st7 hQ7
  subst l7 y7 z7
  obtain ⟨b_7, rfl, Nq7, Kc7, P7_0, P7_1, P7_2, P7_3⟩ := hQ7
  have N7 := Fr.app N6 Nq7
  have ne_a0s_b_7 : a0s ≠ b_7 := Nat.ne_of_lt (Nat.lt_of_lt_of_le ((Exa.wr W5 ((Exa.wr W2 E_0).keep Kc3)).keep Kc6).lt P7_0)
  have ne_a1_b_7 : a1 ≠ b_7 := Nat.ne_of_lt (Nat.lt_of_lt_of_le ((Exa.wr W5 ((Exa.wr W2 E_1).keep Kc3)).keep Kc6).lt P7_0)
  have ne_b_6_b_7 : b_6 ≠ b_7 := Nat.ne_of_lt (Nat.lt_of_lt_of_le P6_1.lt P7_0)
  have ge_b_7 : n0 ≤ b_7 := Nat.le_trans (Nat.le_trans (Nat.le_trans (Nat.le_trans (Nat.le_trans Z0 (Keep.of_wr W2).1) Kc3.1) (Keep.of_wr W5).1) Kc6.1) P7_0
  have sz_b_7 : h0.size ≤ b_7 := Nat.le_trans K6.1 P7_0
  have K7 := K6.trans Kc7 all0
  have O7 := O6.keep Kc7 all0
  refine own_tr st7 ?_
  show own_G p.tables e below _ (T7.setTop (mkF m 36 #[.val (.ref a0s), .val (.ref a1), .unset, .unset] [(.ref b_7)]))
  refine own_st (fun _ kS => XS.astoreN X7.here hx rfl (hb hby d25_36) rfl rfl (l' := #[.val (.ref a0s), .val (.ref a1), .val (.ref b_7), .unset]) rfl kS) ?_
  show own_G p.tables e below _ (T7.setTop (mkF m 37 #[.val (.ref a0s), .val (.ref a1), .val (.ref b_7), .unset] []))
  refine own_st (fun _ kS => XS.aloadN X7.here hx rfl (hb hby d25_37) rfl rfl kS) ?_
  show own_G p.tables e below _ (T7.setTop (mkF m 38 #[.val (.ref a0s), .val (.ref a1), .val (.ref b_7), .unset] [(.ref b_7)]))
  obtain ⟨cq8, kq8, q8a, q8b, q8c⟩ := isOf hZ rfl P7_1
  obtain ⟨_, _, ⟨T8, L8, k8, n8⟩, -, X8, ⟨Lc8, hQ8, l8, y8, z8⟩, st8⟩ := X7.interfaceBack hx (xi := (⟨"java/util/Iterator", "hasNext", "()Z"⟩ : MethodName)) (y := (⟨"java/util/ArrayList$Itr", "hasNext", "()Z"⟩ : MethodName)) hown (mvT hZ (own_w hw 214 rfl)) (mvT hZ (own_w hw 183 rfl)) (mvT hZ (own_w hw 184 rfl)) (mvT hZ (own_w hw 215 rfl)) (mvT hZ (own_w hw 216 rfl)) (mvT hZ (own_w hw 217 rfl)) (mvT hZ (own_w hw 218 rfl)) (mvT hZ (own_w hw 219 rfl)) (by decide) (backOf (W := 0) (rm_hnA l Z a0 hw [] b_7 b_6 T7.heap n0 (Nat.le_trans (Nat.le_trans (Nat.le_trans (Nat.le_trans (Nat.le_trans Z0 (Keep.of_wr W2).1) Kc3.1) (Keep.of_wr W5).1) Kc6.1) Kc7.1)  P7_2 P7_3 (P6_2.keep Kc7 nin0)) hZ (own_w hw 220 rfl) (own_w hw 200 rfl) (by decide) (by decide)) q8a q8b q8c (g := (mkF m 38 #[.val (.ref a0s), .val (.ref a1), .val (.ref b_7), .unset] [(.ref b_7)])) rfl (by rw [hml]; rfl) (Steps.refl _) (argsL := []) (rest := []) (lenOf own_pd1 rfl) rfl (by show 2 * 0 + _ ≤ _; exact Nat.le_of_eq rfl) (hb hby d25_38) (fun _ _ => ⟨rfl, rfl, (by decide : 5 + 0 ≤ _), (by decide : 18 + 0 ≤ _)⟩)
  dsimp only [Pt.U, Pt.locs, Pt.cells, Pt.slots] at X8 l8 y8 z8 st8 hQ8
  subst l8 y8 z8
  obtain ⟨rfl, Nq8, eq8⟩ := hQ8
  have N8 := Fr.app N7 Nq8
  refine own_tr st8 ?_
  show own_G p.tables e below _ (T8.setTop (mkF m 43 #[.val (.ref a0s), .val (.ref a1), .val (.ref b_7), .unset] [(.int (0 : Int32))]))
  refine own_st (fun _ kS => XS.ifYes X8.here hx rfl (pc0 := 43) (pc' := 79) rfl (hb hby d25_43) rfl ((if0 _ _).trans (teq (by decide : (0 : Int32) = (0 : Int32))).1) (by decide) (by decide) kS) ?_
  show own_G p.tables e below _ (T8.setTop (mkF m 79 #[.val (.ref a0s), .val (.ref a1), .val (.ref b_7), .unset] []))
  refine own_st (fun _ kS => XS.aloadN X8.here hx rfl (hb hby d25_79) rfl rfl kS) ?_
  show own_G p.tables e below _ (T8.setTop (mkF m 80 #[.val (.ref a0s), .val (.ref a1), .val (.ref b_7), .unset] [(.ref a1)]))
  obtain ⟨cq9, kq9, q9a, q9b, q9c⟩ := isOf hZ eq8 (((Exa.wr W5 ((Exa.wr W2 E_1).keep Kc3)).keep Kc6).keep Kc7)
  obtain ⟨_, _, ⟨T9, L9, k9, n9⟩, -, X9, ⟨Lc9, hQ9, l9, y9, z9⟩, st9⟩ := X8.virtualBack hx (y := (⟨"com/example/cartouche/cartouche/checking/Verdict", "warned", "()Ljava/util/List;"⟩ : MethodName)) (z := (⟨"com/example/cartouche/cartouche/checking/Verdict", "warned", "()Ljava/util/List;"⟩ : MethodName)) hown (mvT hZ (own_w hw 266 rfl)) (mvT hZ (own_w hw 267 rfl)) (notFace_of_selects (args := #[]) (mvT hZ (own_w hw 269 rfl))) (mvT hZ (own_w hw 269 rfl)) (mvT hZ (own_w hw 268 rfl)) (by decide) (backOf (W := 0) (rm_warned0 l Z a0 hw [] a1 wL wE kE wD w_RECOMMENDED T7.heap n0 (Nat.le_trans (Nat.le_trans (Nat.le_trans (Nat.le_trans (Nat.le_trans Z0 (Keep.of_wr W2).1) Kc3.1) (Keep.of_wr W5).1) Kc6.1) Kc7.1) O7 (((Exa.wr W5 ((Exa.wr W2 E_1).keep Kc3)).keep Kc6).keep Kc7) (((Fld.other W5 ((Fld.other W2 F_f (Or.inl (Ne.symm ne01))).keep Kc3 nin0) (Or.inl (Ne.symm ne01))).keep Kc6 nin0).keep Kc7 nin0) E_L F_el R_E S_D S_RECOMMENDED) hZ (own_w hw 270 rfl) (own_w hw 91 rfl) (by decide) (by decide)) q9a q9c (g := (mkF m 80 #[.val (.ref a0s), .val (.ref a1), .val (.ref b_7), .unset] [(.ref a1)])) rfl (by rw [hml]; rfl) (Steps.refl _) (argsL := []) (rest := []) (lenOf own_pd2 rfl) rfl (by show 2 * 0 + _ ≤ _; exact Nat.le_of_eq rfl) (hb hby d25_80) (fun _ _ => ⟨rfl, eq8, (by decide : 5 + 2 ≤ _), (by decide : 18 + 7 ≤ _)⟩)
  dsimp only [Pt.U, Pt.locs, Pt.cells, Pt.slots] at X9 l9 y9 z9 st9 hQ9
  subst l9 y9 z9
  obtain ⟨b_9, rfl, Nq9, Kc9, P9_0, P9_1, P9_2, P9_3⟩ := hQ9
  have N9 := Fr.app N8 Nq9
  have ne_a0s_b_9 : a0s ≠ b_9 := Nat.ne_of_lt (Nat.lt_of_lt_of_le (((Exa.wr W5 ((Exa.wr W2 E_0).keep Kc3)).keep Kc6).keep Kc7).lt P9_0)
  have ne_a1_b_9 : a1 ≠ b_9 := Nat.ne_of_lt (Nat.lt_of_lt_of_le (((Exa.wr W5 ((Exa.wr W2 E_1).keep Kc3)).keep Kc6).keep Kc7).lt P9_0)
  have ne_b_6_b_9 : b_6 ≠ b_9 := Nat.ne_of_lt (Nat.lt_of_lt_of_le (P6_1.keep Kc7).lt P9_0)
  have ne_b_7_b_9 : b_7 ≠ b_9 := Nat.ne_of_lt (Nat.lt_of_lt_of_le P7_1.lt P9_0)
  have ge_b_9 : n0 ≤ b_9 := Nat.le_trans (Nat.le_trans (Nat.le_trans (Nat.le_trans (Nat.le_trans (Nat.le_trans Z0 (Keep.of_wr W2).1) Kc3.1) (Keep.of_wr W5).1) Kc6.1) Kc7.1) P9_0
  have sz_b_9 : h0.size ≤ b_9 := Nat.le_trans K7.1 P9_0
  have K9 := K7.trans Kc9 all0
  have O9 := O7.keep Kc9 all0
  refine own_tr st9 ?_
  show own_G p.tables e below _ (T9.setTop (mkF m 83 #[.val (.ref a0s), .val (.ref a1), .val (.ref b_7), .unset] [(.ref b_9)]))
  obtain ⟨cq10, kq10, q10a, q10b, q10c⟩ := isOf hZ rfl P9_1
  obtain ⟨_, _, ⟨T10, L10, k10, n10⟩, -, X10, ⟨Lc10, hQ10, l10, y10, z10⟩, st10⟩ := X9.interfaceBack hx (xi := (⟨"java/util/List", "iterator", "()Ljava/util/Iterator;"⟩ : MethodName)) (y := (⟨"java/util/ArrayList", "iterator", "()Ljava/util/Iterator;"⟩ : MethodName)) hown (mvT hZ (own_w hw 191 rfl)) (mvT hZ (own_w hw 149 rfl)) (mvT hZ (own_w hw 150 rfl)) (mvT hZ (own_w hw 192 rfl)) (mvT hZ (own_w hw 193 rfl)) (mvT hZ (own_w hw 194 rfl)) (mvT hZ (own_w hw 195 rfl)) (mvT hZ (own_w hw 196 rfl)) (by decide) (backOf (W := 0) (rm_itA l Z a0 hw [] b_9 T9.heap n0 (Nat.le_trans (Nat.le_trans (Nat.le_trans (Nat.le_trans (Nat.le_trans (Nat.le_trans Z0 (Keep.of_wr W2).1) Kc3.1) (Keep.of_wr W5).1) Kc6.1) Kc7.1) Kc9.1)  P9_1 P9_3) hZ (own_w hw 197 rfl) (own_w hw 14 rfl) (by decide) (by decide)) q10a q10b q10c (g := (mkF m 83 #[.val (.ref a0s), .val (.ref a1), .val (.ref b_7), .unset] [(.ref b_9)])) rfl (by rw [hml]; rfl) (Steps.refl _) (argsL := []) (rest := []) (lenOf own_pd8 rfl) rfl (by show 2 * 0 + _ ≤ _; exact Nat.le_of_eq rfl) (hb hby d25_83) (fun _ _ => ⟨rfl, rfl, (by decide : 7 + 1 ≤ _), (by decide : 25 + 4 ≤ _)⟩)
  dsimp only [Pt.U, Pt.locs, Pt.cells, Pt.slots] at X10 l10 y10 z10 st10 hQ10
  subst l10 y10 z10
  obtain ⟨b_10, rfl, Nq10, Kc10, P10_0, P10_1, P10_2, P10_3⟩ := hQ10
  have N10 := Fr.app N9 Nq10
  have ne_a0s_b_10 : a0s ≠ b_10 := Nat.ne_of_lt (Nat.lt_of_lt_of_le ((((Exa.wr W5 ((Exa.wr W2 E_0).keep Kc3)).keep Kc6).keep Kc7).keep Kc9).lt P10_0)
  have ne_a1_b_10 : a1 ≠ b_10 := Nat.ne_of_lt (Nat.lt_of_lt_of_le ((((Exa.wr W5 ((Exa.wr W2 E_1).keep Kc3)).keep Kc6).keep Kc7).keep Kc9).lt P10_0)
  have ne_b_6_b_10 : b_6 ≠ b_10 := Nat.ne_of_lt (Nat.lt_of_lt_of_le ((P6_1.keep Kc7).keep Kc9).lt P10_0)
  have ne_b_7_b_10 : b_7 ≠ b_10 := Nat.ne_of_lt (Nat.lt_of_lt_of_le (P7_1.keep Kc9).lt P10_0)
  have ne_b_9_b_10 : b_9 ≠ b_10 := Nat.ne_of_lt (Nat.lt_of_lt_of_le P9_1.lt P10_0)
  have ge_b_10 : n0 ≤ b_10 := Nat.le_trans (Nat.le_trans (Nat.le_trans (Nat.le_trans (Nat.le_trans (Nat.le_trans (Nat.le_trans Z0 (Keep.of_wr W2).1) Kc3.1) (Keep.of_wr W5).1) Kc6.1) Kc7.1) Kc9.1) P10_0
  have sz_b_10 : h0.size ≤ b_10 := Nat.le_trans K9.1 P10_0
  have K10 := K9.trans Kc10 all0
  have O10 := O9.keep Kc10 all0
  refine own_tr st10 ?_
  show own_G p.tables e below _ (T10.setTop (mkF m 88 #[.val (.ref a0s), .val (.ref a1), .val (.ref b_7), .unset] [(.ref b_10)]))
  refine own_st (fun _ kS => XS.astoreN X10.here hx rfl (hb hby d25_88) rfl rfl (l' := #[.val (.ref a0s), .val (.ref a1), .val (.ref b_10), .unset]) rfl kS) ?_
  show own_G p.tables e below _ (T10.setTop (mkF m 89 #[.val (.ref a0s), .val (.ref a1), .val (.ref b_10), .unset] []))
  refine own_st (fun _ kS => XS.aloadN X10.here hx rfl (hb hby d25_89) rfl rfl kS) ?_
  show own_G p.tables e below _ (T10.setTop (mkF m 90 #[.val (.ref a0s), .val (.ref a1), .val (.ref b_10), .unset] [(.ref b_10)]))
  obtain ⟨cq11, kq11, q11a, q11b, q11c⟩ := isOf hZ rfl P10_1
  obtain ⟨_, _, ⟨T11, L11, k11, n11⟩, -, X11, ⟨Lc11, hQ11, l11, y11, z11⟩, st11⟩ := X10.interfaceBack hx (xi := (⟨"java/util/Iterator", "hasNext", "()Z"⟩ : MethodName)) (y := (⟨"java/util/ArrayList$Itr", "hasNext", "()Z"⟩ : MethodName)) hown (mvT hZ (own_w hw 214 rfl)) (mvT hZ (own_w hw 183 rfl)) (mvT hZ (own_w hw 184 rfl)) (mvT hZ (own_w hw 215 rfl)) (mvT hZ (own_w hw 216 rfl)) (mvT hZ (own_w hw 217 rfl)) (mvT hZ (own_w hw 218 rfl)) (mvT hZ (own_w hw 219 rfl)) (by decide) (backOf (W := 0) (rm_hnA l Z a0 hw [] b_10 b_9 T10.heap n0 (Nat.le_trans (Nat.le_trans (Nat.le_trans (Nat.le_trans (Nat.le_trans (Nat.le_trans (Nat.le_trans Z0 (Keep.of_wr W2).1) Kc3.1) (Keep.of_wr W5).1) Kc6.1) Kc7.1) Kc9.1) Kc10.1)  P10_2 P10_3 (P9_2.keep Kc10 nin0)) hZ (own_w hw 220 rfl) (own_w hw 200 rfl) (by decide) (by decide)) q11a q11b q11c (g := (mkF m 90 #[.val (.ref a0s), .val (.ref a1), .val (.ref b_10), .unset] [(.ref b_10)])) rfl (by rw [hml]; rfl) (Steps.refl _) (argsL := []) (rest := []) (lenOf own_pd1 rfl) rfl (by show 2 * 0 + _ ≤ _; exact Nat.le_of_eq rfl) (hb hby d25_90) (fun _ _ => ⟨rfl, rfl, (by decide : 8 + 0 ≤ _), (by decide : 29 + 0 ≤ _)⟩)
  dsimp only [Pt.U, Pt.locs, Pt.cells, Pt.slots] at X11 l11 y11 z11 st11 hQ11
  subst l11 y11 z11
  obtain ⟨rfl, Nq11, eq11⟩ := hQ11
  have N11 := Fr.app N10 Nq11
  refine own_tr st11 ?_
  show own_G p.tables e below _ (T11.setTop (mkF m 95 #[.val (.ref a0s), .val (.ref a1), .val (.ref b_10), .unset] [(.int (0 : Int32))]))
  refine own_st (fun _ kS => XS.ifYes X11.here hx rfl (pc0 := 95) (pc' := 131) rfl (hb hby d25_95) rfl ((if0 _ _).trans (teq (by decide : (0 : Int32) = (0 : Int32))).1) (by decide) (by decide) kS) ?_
  show own_G p.tables e below _ (T11.setTop (mkF m 131 #[.val (.ref a0s), .val (.ref a1), .val (.ref b_10), .unset] []))
  exact own_retV X11 hx hlk hret (hb hby d25_131) (by decide) (by decide) (by rw [eq11]; exact ⟨rfl, N11, K10, (((((Exa.wr W5 ((Exa.wr W2 E_0).keep Kc3)).keep Kc6).keep Kc7).keep Kc9).keep Kc10), (((((Fld.other W5 ((Fld.other W2 IFu (Or.inr (slot_ne (Or.inl (own_w hw 232 rfl)) (Or.inl (own_w hw 236 rfl)) (by decide) (t := .int) (t' := .int) (by decide) (by decide)))).keep Kc3 nin0) (Or.inr (slot_ne (Or.inl (own_w hw 232 rfl)) (Or.inl (own_w hw 234 rfl)) (by decide) (t := .int) (t' := .int) (by decide) (by decide)))).keep Kc6 nin0).keep Kc7 nin0).keep Kc9 nin0).keep Kc10 nin0), ((((Fw5.keep Kc6 nin0).keep Kc7 nin0).keep Kc9 nin0).keep Kc10 nin0), (((((Fld.other W5 (Fw2.keep Kc3 nin0) (Or.inr (slot_ne (Or.inl (own_w hw 236 rfl)) (Or.inl (own_w hw 234 rfl)) (by decide) (t := .int) (t' := .int) (by decide) (by decide)))).keep Kc6 nin0).keep Kc7 nin0).keep Kc9 nin0).keep Kc10 nin0)⟩)
theorem ef_count1_0 (m : MethodId) (x0 : Addr) (x1 : Addr) : entryFrame m #[(.ref x0), (.ref x1)] 4 = mkF m 0 #[.val (.ref x0), .val (.ref x1), .unset, .unset] [] := by first | (simp [entryFrame, mkF, argsToLocals, Value.category]; done) | rfl
def Q_count1_0 (Z : State) (a0s : Addr) (a1 : Addr) (a3 : Addr) (wL : Addr) (wE : Addr) (kE : ClassId) (wD : Addr) (w_REQUIRED : Addr) (w_RECOMMENDED : Addr) (h0 : Heap) (n0 : Nat) (v : Option Value) (h : Heap) (L : List Loc) : Prop := v = none ∧ Fr n0 L ∧ Keep h0 h [a0s] ∧ Exa Z h a0s "com/example/cartouche/cartouche/checking/Summary" ∧ Fld Z h a0s "com/example/cartouche/cartouche/checking/Summary" "unreadable" "I" (.int (0 : Int32)) ∧ Fld Z h a0s "com/example/cartouche/cartouche/checking/Summary" "conforming" "I" (.int (1 : Int32)) ∧ Fld Z h a0s "com/example/cartouche/cartouche/checking/Summary" "records" "I" (.int (1 : Int32))
set_option maxRecDepth 65536 in
set_option maxHeartbeats 40000000 in
theorem rm_count1_0 (l : Launch) (Z : State) (a0 : Array Value) (hw : ∀ d ∈ tables_1, d.before a0 Z = true) (ws : List Jvm.Cond) (a0s : Addr) (a1 : Addr) (a3 : Addr) (wL : Addr) (wE : Addr) (kE : ClassId) (wD : Addr) (w_REQUIRED : Addr) (w_RECOMMENDED : Addr) (h0 : Heap) (n0 : Nat) (Z0 : n0 ≤ h0.size) (O0 : Old Z n0 h0) (E_0 : Exa Z h0 a0s "com/example/cartouche/cartouche/checking/Summary") (g_0 : n0 ≤ a0s) (ne01 : a0s ≠ a1) (ne03 : a0s ≠ a3) (IFu : Fld Z h0 a0s "com/example/cartouche/cartouche/checking/Summary" "unreadable" "I" (.int (0 : Int32))) (IFc : Fld Z h0 a0s "com/example/cartouche/cartouche/checking/Summary" "conforming" "I" (.int (0 : Int32))) (IFr : Fld Z h0 a0s "com/example/cartouche/cartouche/checking/Summary" "records" "I" (.int (0 : Int32))) (E_1 : Exa Z h0 a1 "com/example/cartouche/cartouche/checking/Verdict") (F_f : Fld Z h0 a1 "com/example/cartouche/cartouche/checking/Verdict" "failures" "Ljava/util/List;" (.ref a3)) (E_3 : Exa Z h0 a3 "java/util/ArrayList") (F_s3 : Fld Z h0 a3 "java/util/ArrayList" "size" "I" (.int (0 : Int32))) (F_m3 : Fld Z h0 a3 "java/util/AbstractList" "modCount" "I" (.int (0 : Int32))) (E_L : Exa Z Z.heap wL "java/util/ImmutableCollections$ListN") (F_el : Fld Z Z.heap wL "java/util/ImmutableCollections$ListN" "elements" "[Ljava/lang/Object;" (.ref wE)) (R_E : Arv Z Z.heap wE kE (.object "java/lang/Object") (0 : Int32) [] .null) (S_D : Sta Z Z.heap "java/util/ArrayList" "DEFAULTCAPACITY_EMPTY_ELEMENTDATA" "[Ljava/lang/Object;" (.ref wD)) (S_REQUIRED : Sta Z Z.heap "com/example/cartouche/cartouche/checking/Level" "REQUIRED" "Lcom/example/cartouche/cartouche/checking/Level;" (.ref w_REQUIRED)) (S_RECOMMENDED : Sta Z Z.heap "com/example/cartouche/cartouche/checking/Level" "RECOMMENDED" "Lcom/example/cartouche/cartouche/checking/Level;" (.ref w_RECOMMENDED)) :
    MetFree l (⟨"com/example/cartouche/cartouche/checking/Summary", "count", "(Lcom/example/cartouche/cartouche/checking/Verdict;)V"⟩ : MethodName) (head1 (Jvm.Cond.code (⟨"com/example/cartouche/cartouche/checking/Summary", "count", "(Lcom/example/cartouche/cartouche/checking/Verdict;)V"⟩ : MethodName) prog_30_method_2_code 4 none :: ws) ({ frames := 7, cells := 8, slots := 29, locals := 90 } : Room)) (fun a U => a = #[(.ref a0s), (.ref a1)] ∧ Z.Warmed39 U.vm ∧ U.heap = h0) (fun _ _ _ _ _ => True) (fun _ U o U' => ∃ v L, o = .returned v ∧ Q_count1_0 Z a0s a1 a3 wL wE kE wD w_REQUIRED w_RECOMMENDED h0 n0 v U'.heap L ∧ FrameEnd U o U' L ({ frames := 7, cells := 8, slots := 29, locals := 90 } : Room).cells ({ frames := 7, cells := 8, slots := 29, locals := 90 } : Room).slots) := by
  refine MetFree.of_bodySF (plainFor_of_name pn_25) hisR ?_
  intro p e s m args below meth c s₁ Bd hml0 hP hK
  obtain ⟨rfl, hZ, hh⟩ := hP
  have hx := Bd.exec
  have hby := Bd.bytes
  have hml : c.maxLocals = 4 := hml0
  have hown : s.vm.findClass "com/example/cartouche/cartouche/checking/Summary" = some m.cls := findClass_of_methodNamed Bd.named
  have hnm := (name_of_methodNamed Bd.named Bd.method).1
  have hlk := Bd.notSynchronized
  have hret := Bd.returns
  have X0 : Stand p l e ({ frames := 7, cells := 8, slots := 29, locals := 90 } : Room) s m #[(.ref a0s), (.ref a1)] below meth c s₁ [] 0 0 := Stand.of_body Bd
  have e0 : s₁.heap = h0 := by rw [← hh, Bd.state]; rfl
  have N0 := Fr.nil n0
  have K0 := Keep.refl h0 [a0s]
  refine own_in ({ frames := 7, cells := 8, slots := 29, locals := 90 } : Room).cells ({ frames := 7, cells := 8, slots := 29, locals := 90 } : Room).slots (Q_count1_0 Z a0s a1 a3 wL wE kE wD w_REQUIRED w_RECOMMENDED h0 n0) (ef_count1_0 m a0s a1) ?_
  show own_G p.tables e below _ (s₁.setTop (mkF m 0 #[.val (.ref a0s), .val (.ref a1), .unset, .unset] []))
  refine own_st (fun _ kS => XS.aloadN X0.here hx rfl (hb hby d25_0) rfl rfl kS) ?_
  refine own_st (fun _ kS => XS.dup X0.here hx rfl (hb hby d25_1) rfl rfl kS) ?_
  show own_G p.tables e below _ (s₁.setTop (mkF m 2 #[.val (.ref a0s), .val (.ref a1), .unset, .unset] [(.ref a0s), (.ref a0s)]))
  obtain ⟨T1, X1, e1, st1⟩ := getF X0 hx hZ hown (host := "") (Or.inl (own_w hw 235 rfl)) Via.refl e0 IFr (g := (mkF m 2 #[.val (.ref a0s), .val (.ref a1), .unset, .unset] [(.ref a0s), (.ref a0s)])) rfl rfl (hb hby d25_2)
  refine own_st st1 ?_
  show own_G p.tables e below _ (T1.setTop (mkF m 5 #[.val (.ref a0s), .val (.ref a1), .unset, .unset] [(.int (0 : Int32)), (.ref a0s)]))
  refine own_st (fun _ kS => XS.iconst X1.here hx rfl (hb hby d25_5) kS) ?_
  show own_G p.tables e below _ (T1.setTop (mkF m 6 #[.val (.ref a0s), .val (.ref a1), .unset, .unset] [(.int (1 : Int32)), (.int (0 : Int32)), (.ref a0s)]))
  refine own_st (fun _ kS => XS.iadd X1.here hx rfl (hb hby d25_6) rfl kS) ?_
  show own_G p.tables e below _ (T1.setTop (mkF m 7 #[.val (.ref a0s), .val (.ref a1), .unset, .unset] [(.int (1 : Int32)), (.ref a0s)]))
  obtain ⟨T2, h2, X2, e2, W2, st2⟩ := putF X1 hx hZ hown (host := "") (Or.inl (own_w hw 235 rfl)) Via.refl e1 IFr E_0 (Or.inl (own_w hw 236 rfl)) (own_w hw 102 rfl) (ty := .int) (by decide) rfl rfl (g := (mkF m 7 #[.val (.ref a0s), .val (.ref a1), .unset, .unset] [(.int (1 : Int32)), (.ref a0s)])) rfl rfl (hb hby d25_7)
  refine own_st st2 ?_
  have N2 := Fr.snoc X2 N0 g_0
  have K2 := K0.wr W2 (Or.inl (List.mem_of_getElem? (i := 0) rfl))
  have O2 := O0.wr W2 g_0
  have Fw2 := Fld.same W2 IFr
  show own_G p.tables e below _ (T2.setTop (mkF m 10 #[.val (.ref a0s), .val (.ref a1), .unset, .unset] []))
  refine own_st (fun _ kS => XS.aloadN X2.here hx rfl (hb hby d25_10) rfl rfl kS) ?_
  show own_G p.tables e below _ (T2.setTop (mkF m 11 #[.val (.ref a0s), .val (.ref a1), .unset, .unset] [(.ref a1)]))
  obtain ⟨cq3, kq3, q3a, q3b, q3c⟩ := isOf hZ e2 (Exa.wr W2 E_1)
  obtain ⟨_, _, ⟨T3, L3, k3, n3⟩, -, X3, ⟨Lc3, hQ3, l3, y3, z3⟩, st3⟩ := X2.virtualBack hx (y := (⟨"com/example/cartouche/cartouche/checking/Verdict", "conforms", "()Z"⟩ : MethodName)) (z := (⟨"com/example/cartouche/cartouche/checking/Verdict", "conforms", "()Z"⟩ : MethodName)) hown (mvT hZ (own_w hw 242 rfl)) (mvT hZ (own_w hw 243 rfl)) (notFace_of_selects (args := #[]) (mvT hZ (own_w hw 245 rfl))) (mvT hZ (own_w hw 245 rfl)) (mvT hZ (own_w hw 244 rfl)) (by decide) (backOf (W := 0) (rm_conforms1 l Z a0 hw [] a1 a3 wL wE kE wD w_REQUIRED h2 n0 (Nat.le_trans Z0 (Keep.of_wr W2).1) O2 (Exa.wr W2 E_1) (Fld.other W2 F_f (Or.inl (Ne.symm ne01))) (Exa.wr W2 E_3) (Fld.other W2 F_s3 (Or.inl (Ne.symm ne03))) (Fld.other W2 F_m3 (Or.inl (Ne.symm ne03))) E_L F_el R_E S_D S_REQUIRED) hZ (own_w hw 246 rfl) (own_w hw 91 rfl) (by decide) (by decide)) q3a q3c (g := (mkF m 11 #[.val (.ref a0s), .val (.ref a1), .unset, .unset] [(.ref a1)])) rfl (by rw [hml]; rfl) (Steps.refl _) (argsL := []) (rest := []) (lenOf own_pd1 rfl) rfl (by show 2 * 0 + _ ≤ _; exact Nat.le_of_eq rfl) (hb hby d25_11) (fun _ _ => ⟨rfl, e2, (by decide : 0 + 2 ≤ _), (by decide : 0 + 7 ≤ _)⟩)
  dsimp only [Pt.U, Pt.locs, Pt.cells, Pt.slots] at X3 l3 y3 z3 st3 hQ3
  subst l3 y3 z3
  obtain ⟨rfl, Nq3, Kc3⟩ := hQ3
  have N3 := Fr.app N2 Nq3
  have K3 := K2.trans Kc3 all0
  have O3 := O2.keep Kc3 all0
  refine own_tr st3 ?_
  show own_G p.tables e below _ (T3.setTop (mkF m 14 #[.val (.ref a0s), .val (.ref a1), .unset, .unset] [(.int (1 : Int32))]))
  refine own_st (fun _ kS => XS.ifNo X3.here hx rfl (hb hby d25_14) rfl ((if0 _ _).trans (feq (by decide : ¬ ((1 : Int32) = (0 : Int32)))).1) kS) ?_
  show own_G p.tables e below _ (T3.setTop (mkF m 17 #[.val (.ref a0s), .val (.ref a1), .unset, .unset] []))
  refine own_st (fun _ kS => XS.aloadN X3.here hx rfl (hb hby d25_17) rfl rfl kS) ?_
  refine own_st (fun _ kS => XS.dup X3.here hx rfl (hb hby d25_18) rfl rfl kS) ?_
  show own_G p.tables e below _ (T3.setTop (mkF m 19 #[.val (.ref a0s), .val (.ref a1), .unset, .unset] [(.ref a0s), (.ref a0s)]))
  obtain ⟨T4, X4, e4, st4⟩ := getF X3 hx hZ hown (host := "") (Or.inl (own_w hw 233 rfl)) Via.refl rfl ((Fld.other W2 IFc (Or.inr (slot_ne (Or.inl (own_w hw 234 rfl)) (Or.inl (own_w hw 236 rfl)) (by decide) (t := .int) (t' := .int) (by decide) (by decide)))).keep Kc3 nin0) (g := (mkF m 19 #[.val (.ref a0s), .val (.ref a1), .unset, .unset] [(.ref a0s), (.ref a0s)])) rfl rfl (hb hby d25_19)
  refine own_st st4 ?_
  show own_G p.tables e below _ (T4.setTop (mkF m 22 #[.val (.ref a0s), .val (.ref a1), .unset, .unset] [(.int (0 : Int32)), (.ref a0s)]))
  refine own_st (fun _ kS => XS.iconst X4.here hx rfl (hb hby d25_22) kS) ?_
  show own_G p.tables e below _ (T4.setTop (mkF m 23 #[.val (.ref a0s), .val (.ref a1), .unset, .unset] [(.int (1 : Int32)), (.int (0 : Int32)), (.ref a0s)]))
  refine own_st (fun _ kS => XS.iadd X4.here hx rfl (hb hby d25_23) rfl kS) ?_
  show own_G p.tables e below _ (T4.setTop (mkF m 24 #[.val (.ref a0s), .val (.ref a1), .unset, .unset] [(.int (1 : Int32)), (.ref a0s)]))
  obtain ⟨T5, h5, X5, e5, W5, st5⟩ := putF X4 hx hZ hown (host := "") (Or.inl (own_w hw 233 rfl)) Via.refl e4 ((Fld.other W2 IFc (Or.inr (slot_ne (Or.inl (own_w hw 234 rfl)) (Or.inl (own_w hw 236 rfl)) (by decide) (t := .int) (t' := .int) (by decide) (by decide)))).keep Kc3 nin0) ((Exa.wr W2 E_0).keep Kc3) (Or.inl (own_w hw 234 rfl)) (own_w hw 102 rfl) (ty := .int) (by decide) rfl rfl (g := (mkF m 24 #[.val (.ref a0s), .val (.ref a1), .unset, .unset] [(.int (1 : Int32)), (.ref a0s)])) rfl rfl (hb hby d25_24)
  refine own_st st5 ?_
  have N5 := Fr.snoc X5 N3 g_0
  have K5 := K3.wr W5 (Or.inl (List.mem_of_getElem? (i := 0) rfl))
  have O5 := O3.wr W5 g_0
  have Fw5 := Fld.same W5 ((Fld.other W2 IFc (Or.inr (slot_ne (Or.inl (own_w hw 234 rfl)) (Or.inl (own_w hw 236 rfl)) (by decide) (t := .int) (t' := .int) (by decide) (by decide)))).keep Kc3 nin0)
  show own_G p.tables e below _ (T5.setTop (mkF m 27 #[.val (.ref a0s), .val (.ref a1), .unset, .unset] []))
  refine own_st (fun _ kS => XS.aloadN X5.here hx rfl (hb hby d25_27) rfl rfl kS) ?_
  show own_G p.tables e below _ (T5.setTop (mkF m 28 #[.val (.ref a0s), .val (.ref a1), .unset, .unset] [(.ref a1)]))
  obtain ⟨cq6, kq6, q6a, q6b, q6c⟩ := isOf hZ e5 (Exa.wr W5 ((Exa.wr W2 E_1).keep Kc3))
  obtain ⟨_, _, ⟨T6, L6, k6, n6⟩, -, X6, ⟨Lc6, hQ6, l6, y6, z6⟩, st6⟩ := X5.virtualBack hx (y := (⟨"com/example/cartouche/cartouche/checking/Verdict", "failed", "()Ljava/util/List;"⟩ : MethodName)) (z := (⟨"com/example/cartouche/cartouche/checking/Verdict", "failed", "()Ljava/util/List;"⟩ : MethodName)) hown (mvT hZ (own_w hw 265 rfl)) (mvT hZ (own_w hw 248 rfl)) (notFace_of_selects (args := #[]) (mvT hZ (own_w hw 250 rfl))) (mvT hZ (own_w hw 250 rfl)) (mvT hZ (own_w hw 249 rfl)) (by decide) (backOf (W := 0) (rm_failed1 l Z a0 hw [] a1 a3 wL wE kE wD w_REQUIRED h5 n0 (Nat.le_trans (Nat.le_trans (Nat.le_trans Z0 (Keep.of_wr W2).1) Kc3.1) (Keep.of_wr W5).1) O5 (Exa.wr W5 ((Exa.wr W2 E_1).keep Kc3)) (Fld.other W5 ((Fld.other W2 F_f (Or.inl (Ne.symm ne01))).keep Kc3 nin0) (Or.inl (Ne.symm ne01))) (Exa.wr W5 ((Exa.wr W2 E_3).keep Kc3)) (Fld.other W5 ((Fld.other W2 F_s3 (Or.inl (Ne.symm ne03))).keep Kc3 nin0) (Or.inl (Ne.symm ne03))) (Fld.other W5 ((Fld.other W2 F_m3 (Or.inl (Ne.symm ne03))).keep Kc3 nin0) (Or.inl (Ne.symm ne03))) E_L F_el R_E S_D S_REQUIRED) hZ (own_w hw 251 rfl) (own_w hw 91 rfl) (by decide) (by decide)) q6a q6c (g := (mkF m 28 #[.val (.ref a0s), .val (.ref a1), .unset, .unset] [(.ref a1)])) rfl (by rw [hml]; rfl) (Steps.refl _) (argsL := []) (rest := []) (lenOf own_pd2 rfl) rfl (by show 2 * 0 + _ ≤ _; exact Nat.le_of_eq rfl) (hb hby d25_28) (fun _ _ => ⟨rfl, e5, (by decide : 2 + 2 ≤ _), (by decide : 7 + 7 ≤ _)⟩)
  dsimp only [Pt.U, Pt.locs, Pt.cells, Pt.slots] at X6 l6 y6 z6 st6 hQ6
  subst l6 y6 z6
  obtain ⟨b_6, rfl, Nq6, Kc6, P6_0, P6_1, P6_2, P6_3⟩ := hQ6
  have N6 := Fr.app N5 Nq6
  have ne_a0s_b_6 : a0s ≠ b_6 := Nat.ne_of_lt (Nat.lt_of_lt_of_le (Exa.wr W5 ((Exa.wr W2 E_0).keep Kc3)).lt P6_0)
  have ne_a1_b_6 : a1 ≠ b_6 := Nat.ne_of_lt (Nat.lt_of_lt_of_le (Exa.wr W5 ((Exa.wr W2 E_1).keep Kc3)).lt P6_0)
  have ne_a3_b_6 : a3 ≠ b_6 := Nat.ne_of_lt (Nat.lt_of_lt_of_le (Exa.wr W5 ((Exa.wr W2 E_3).keep Kc3)).lt P6_0)
  have ge_b_6 : n0 ≤ b_6 := Nat.le_trans (Nat.le_trans (Nat.le_trans (Nat.le_trans Z0 (Keep.of_wr W2).1) Kc3.1) (Keep.of_wr W5).1) P6_0
  have sz_b_6 : h0.size ≤ b_6 := Nat.le_trans K5.1 P6_0
  have K6 := K5.trans Kc6 all0
  have O6 := O5.keep Kc6 all0
  refine own_tr st6 ?_
  show own_G p.tables e below _ (T6.setTop (mkF m 31 #[.val (.ref a0s), .val (.ref a1), .unset, .unset] [(.ref b_6)]))
  obtain ⟨cq7, kq7, q7a, q7b, q7c⟩ := isOf hZ rfl P6_1
  obtain ⟨_, _, ⟨T7, L7, k7, n7⟩, -, X7, ⟨Lc7, hQ7, l7, y7, z7⟩, st7⟩ := X6.interfaceBack hx (xi := (⟨"java/util/List", "iterator", "()Ljava/util/Iterator;"⟩ : MethodName)) (y := (⟨"java/util/ArrayList", "iterator", "()Ljava/util/Iterator;"⟩ : MethodName)) hown (mvT hZ (own_w hw 191 rfl)) (mvT hZ (own_w hw 149 rfl)) (mvT hZ (own_w hw 150 rfl)) (mvT hZ (own_w hw 192 rfl)) (mvT hZ (own_w hw 193 rfl)) (mvT hZ (own_w hw 194 rfl)) (mvT hZ (own_w hw 195 rfl)) (mvT hZ (own_w hw 196 rfl)) (by decide) (backOf (W := 0) (rm_itA l Z a0 hw [] b_6 T6.heap n0 (Nat.le_trans (Nat.le_trans (Nat.le_trans (Nat.le_trans Z0 (Keep.of_wr W2).1) Kc3.1) (Keep.of_wr W5).1) Kc6.1)  P6_1 P6_3) hZ (own_w hw 197 rfl) (own_w hw 14 rfl) (by decide) (by decide)) q7a q7b q7c (g := (mkF m 31 #[.val (.ref a0s), .val (.ref a1), .unset, .unset] [(.ref b_6)])) rfl (by rw [hml]; rfl) (Steps.refl _) (argsL := []) (rest := []) (lenOf own_pd8 rfl) rfl (by show 2 * 0 + _ ≤ _; exact Nat.le_of_eq rfl) (hb hby d25_31) (fun _ _ => ⟨rfl, rfl, (by decide : 4 + 1 ≤ _), (by decide : 14 + 4 ≤ _)⟩)
  dsimp only [Pt.U, Pt.locs, Pt.cells, Pt.slots] at X7 l7 y7 z7 st7 hQ7
  subst l7 y7 z7
  obtain ⟨b_7, rfl, Nq7, Kc7, P7_0, P7_1, P7_2, P7_3⟩ := hQ7
  have N7 := Fr.app N6 Nq7
  have ne_a0s_b_7 : a0s ≠ b_7 := Nat.ne_of_lt (Nat.lt_of_lt_of_le ((Exa.wr W5 ((Exa.wr W2 E_0).keep Kc3)).keep Kc6).lt P7_0)
  have ne_a1_b_7 : a1 ≠ b_7 := Nat.ne_of_lt (Nat.lt_of_lt_of_le ((Exa.wr W5 ((Exa.wr W2 E_1).keep Kc3)).keep Kc6).lt P7_0)
  have ne_a3_b_7 : a3 ≠ b_7 := Nat.ne_of_lt (Nat.lt_of_lt_of_le ((Exa.wr W5 ((Exa.wr W2 E_3).keep Kc3)).keep Kc6).lt P7_0)
  have ne_b_6_b_7 : b_6 ≠ b_7 := Nat.ne_of_lt (Nat.lt_of_lt_of_le P6_1.lt P7_0)
  have ge_b_7 : n0 ≤ b_7 := Nat.le_trans (Nat.le_trans (Nat.le_trans (Nat.le_trans (Nat.le_trans Z0 (Keep.of_wr W2).1) Kc3.1) (Keep.of_wr W5).1) Kc6.1) P7_0
  have sz_b_7 : h0.size ≤ b_7 := Nat.le_trans K6.1 P7_0
  have K7 := K6.trans Kc7 all0
  have O7 := O6.keep Kc7 all0
  refine own_tr st7 ?_
  show own_G p.tables e below _ (T7.setTop (mkF m 36 #[.val (.ref a0s), .val (.ref a1), .unset, .unset] [(.ref b_7)]))
  refine own_st (fun _ kS => XS.astoreN X7.here hx rfl (hb hby d25_36) rfl rfl (l' := #[.val (.ref a0s), .val (.ref a1), .val (.ref b_7), .unset]) rfl kS) ?_
  show own_G p.tables e below _ (T7.setTop (mkF m 37 #[.val (.ref a0s), .val (.ref a1), .val (.ref b_7), .unset] []))
  refine own_st (fun _ kS => XS.aloadN X7.here hx rfl (hb hby d25_37) rfl rfl kS) ?_
  show own_G p.tables e below _ (T7.setTop (mkF m 38 #[.val (.ref a0s), .val (.ref a1), .val (.ref b_7), .unset] [(.ref b_7)]))
  obtain ⟨cq8, kq8, q8a, q8b, q8c⟩ := isOf hZ rfl P7_1
  obtain ⟨_, _, ⟨T8, L8, k8, n8⟩, -, X8, ⟨Lc8, hQ8, l8, y8, z8⟩, st8⟩ := X7.interfaceBack hx (xi := (⟨"java/util/Iterator", "hasNext", "()Z"⟩ : MethodName)) (y := (⟨"java/util/ArrayList$Itr", "hasNext", "()Z"⟩ : MethodName)) hown (mvT hZ (own_w hw 214 rfl)) (mvT hZ (own_w hw 183 rfl)) (mvT hZ (own_w hw 184 rfl)) (mvT hZ (own_w hw 215 rfl)) (mvT hZ (own_w hw 216 rfl)) (mvT hZ (own_w hw 217 rfl)) (mvT hZ (own_w hw 218 rfl)) (mvT hZ (own_w hw 219 rfl)) (by decide) (backOf (W := 0) (rm_hnA l Z a0 hw [] b_7 b_6 T7.heap n0 (Nat.le_trans (Nat.le_trans (Nat.le_trans (Nat.le_trans (Nat.le_trans Z0 (Keep.of_wr W2).1) Kc3.1) (Keep.of_wr W5).1) Kc6.1) Kc7.1)  P7_2 P7_3 (P6_2.keep Kc7 nin0)) hZ (own_w hw 220 rfl) (own_w hw 200 rfl) (by decide) (by decide)) q8a q8b q8c (g := (mkF m 38 #[.val (.ref a0s), .val (.ref a1), .val (.ref b_7), .unset] [(.ref b_7)])) rfl (by rw [hml]; rfl) (Steps.refl _) (argsL := []) (rest := []) (lenOf own_pd1 rfl) rfl (by show 2 * 0 + _ ≤ _; exact Nat.le_of_eq rfl) (hb hby d25_38) (fun _ _ => ⟨rfl, rfl, (by decide : 5 + 0 ≤ _), (by decide : 18 + 0 ≤ _)⟩)
  dsimp only [Pt.U, Pt.locs, Pt.cells, Pt.slots] at X8 l8 y8 z8 st8 hQ8
  subst l8 y8 z8
  obtain ⟨rfl, Nq8, eq8⟩ := hQ8
  have N8 := Fr.app N7 Nq8
  refine own_tr st8 ?_
  show own_G p.tables e below _ (T8.setTop (mkF m 43 #[.val (.ref a0s), .val (.ref a1), .val (.ref b_7), .unset] [(.int (0 : Int32))]))
  refine own_st (fun _ kS => XS.ifYes X8.here hx rfl (pc0 := 43) (pc' := 79) rfl (hb hby d25_43) rfl ((if0 _ _).trans (teq (by decide : (0 : Int32) = (0 : Int32))).1) (by decide) (by decide) kS) ?_
  show own_G p.tables e below _ (T8.setTop (mkF m 79 #[.val (.ref a0s), .val (.ref a1), .val (.ref b_7), .unset] []))
  refine own_st (fun _ kS => XS.aloadN X8.here hx rfl (hb hby d25_79) rfl rfl kS) ?_
  show own_G p.tables e below _ (T8.setTop (mkF m 80 #[.val (.ref a0s), .val (.ref a1), .val (.ref b_7), .unset] [(.ref a1)]))
  obtain ⟨cq9, kq9, q9a, q9b, q9c⟩ := isOf hZ eq8 (((Exa.wr W5 ((Exa.wr W2 E_1).keep Kc3)).keep Kc6).keep Kc7)
  obtain ⟨_, _, ⟨T9, L9, k9, n9⟩, -, X9, ⟨Lc9, hQ9, l9, y9, z9⟩, st9⟩ := X8.virtualBack hx (y := (⟨"com/example/cartouche/cartouche/checking/Verdict", "warned", "()Ljava/util/List;"⟩ : MethodName)) (z := (⟨"com/example/cartouche/cartouche/checking/Verdict", "warned", "()Ljava/util/List;"⟩ : MethodName)) hown (mvT hZ (own_w hw 266 rfl)) (mvT hZ (own_w hw 267 rfl)) (notFace_of_selects (args := #[]) (mvT hZ (own_w hw 269 rfl))) (mvT hZ (own_w hw 269 rfl)) (mvT hZ (own_w hw 268 rfl)) (by decide) (backOf (W := 0) (rm_warned1 l Z a0 hw [] a1 a3 wL wE kE wD w_RECOMMENDED T7.heap n0 (Nat.le_trans (Nat.le_trans (Nat.le_trans (Nat.le_trans (Nat.le_trans Z0 (Keep.of_wr W2).1) Kc3.1) (Keep.of_wr W5).1) Kc6.1) Kc7.1) O7 (((Exa.wr W5 ((Exa.wr W2 E_1).keep Kc3)).keep Kc6).keep Kc7) (((Fld.other W5 ((Fld.other W2 F_f (Or.inl (Ne.symm ne01))).keep Kc3 nin0) (Or.inl (Ne.symm ne01))).keep Kc6 nin0).keep Kc7 nin0) (((Exa.wr W5 ((Exa.wr W2 E_3).keep Kc3)).keep Kc6).keep Kc7) (((Fld.other W5 ((Fld.other W2 F_s3 (Or.inl (Ne.symm ne03))).keep Kc3 nin0) (Or.inl (Ne.symm ne03))).keep Kc6 nin0).keep Kc7 nin0) (((Fld.other W5 ((Fld.other W2 F_m3 (Or.inl (Ne.symm ne03))).keep Kc3 nin0) (Or.inl (Ne.symm ne03))).keep Kc6 nin0).keep Kc7 nin0) E_L F_el R_E S_D S_RECOMMENDED) hZ (own_w hw 270 rfl) (own_w hw 91 rfl) (by decide) (by decide)) q9a q9c (g := (mkF m 80 #[.val (.ref a0s), .val (.ref a1), .val (.ref b_7), .unset] [(.ref a1)])) rfl (by rw [hml]; rfl) (Steps.refl _) (argsL := []) (rest := []) (lenOf own_pd2 rfl) rfl (by show 2 * 0 + _ ≤ _; exact Nat.le_of_eq rfl) (hb hby d25_80) (fun _ _ => ⟨rfl, eq8, (by decide : 5 + 2 ≤ _), (by decide : 18 + 7 ≤ _)⟩)
  dsimp only [Pt.U, Pt.locs, Pt.cells, Pt.slots] at X9 l9 y9 z9 st9 hQ9
  subst l9 y9 z9
  obtain ⟨b_9, rfl, Nq9, Kc9, P9_0, P9_1, P9_2, P9_3⟩ := hQ9
  have N9 := Fr.app N8 Nq9
  have ne_a0s_b_9 : a0s ≠ b_9 := Nat.ne_of_lt (Nat.lt_of_lt_of_le (((Exa.wr W5 ((Exa.wr W2 E_0).keep Kc3)).keep Kc6).keep Kc7).lt P9_0)
  have ne_a1_b_9 : a1 ≠ b_9 := Nat.ne_of_lt (Nat.lt_of_lt_of_le (((Exa.wr W5 ((Exa.wr W2 E_1).keep Kc3)).keep Kc6).keep Kc7).lt P9_0)
  have ne_a3_b_9 : a3 ≠ b_9 := Nat.ne_of_lt (Nat.lt_of_lt_of_le (((Exa.wr W5 ((Exa.wr W2 E_3).keep Kc3)).keep Kc6).keep Kc7).lt P9_0)
  have ne_b_6_b_9 : b_6 ≠ b_9 := Nat.ne_of_lt (Nat.lt_of_lt_of_le (P6_1.keep Kc7).lt P9_0)
  have ne_b_7_b_9 : b_7 ≠ b_9 := Nat.ne_of_lt (Nat.lt_of_lt_of_le P7_1.lt P9_0)
  have ge_b_9 : n0 ≤ b_9 := Nat.le_trans (Nat.le_trans (Nat.le_trans (Nat.le_trans (Nat.le_trans (Nat.le_trans Z0 (Keep.of_wr W2).1) Kc3.1) (Keep.of_wr W5).1) Kc6.1) Kc7.1) P9_0
  have sz_b_9 : h0.size ≤ b_9 := Nat.le_trans K7.1 P9_0
  have K9 := K7.trans Kc9 all0
  have O9 := O7.keep Kc9 all0
  refine own_tr st9 ?_
  show own_G p.tables e below _ (T9.setTop (mkF m 83 #[.val (.ref a0s), .val (.ref a1), .val (.ref b_7), .unset] [(.ref b_9)]))
  obtain ⟨cq10, kq10, q10a, q10b, q10c⟩ := isOf hZ rfl P9_1
  obtain ⟨_, _, ⟨T10, L10, k10, n10⟩, -, X10, ⟨Lc10, hQ10, l10, y10, z10⟩, st10⟩ := X9.interfaceBack hx (xi := (⟨"java/util/List", "iterator", "()Ljava/util/Iterator;"⟩ : MethodName)) (y := (⟨"java/util/ArrayList", "iterator", "()Ljava/util/Iterator;"⟩ : MethodName)) hown (mvT hZ (own_w hw 191 rfl)) (mvT hZ (own_w hw 149 rfl)) (mvT hZ (own_w hw 150 rfl)) (mvT hZ (own_w hw 192 rfl)) (mvT hZ (own_w hw 193 rfl)) (mvT hZ (own_w hw 194 rfl)) (mvT hZ (own_w hw 195 rfl)) (mvT hZ (own_w hw 196 rfl)) (by decide) (backOf (W := 0) (rm_itA l Z a0 hw [] b_9 T9.heap n0 (Nat.le_trans (Nat.le_trans (Nat.le_trans (Nat.le_trans (Nat.le_trans (Nat.le_trans Z0 (Keep.of_wr W2).1) Kc3.1) (Keep.of_wr W5).1) Kc6.1) Kc7.1) Kc9.1)  P9_1 P9_3) hZ (own_w hw 197 rfl) (own_w hw 14 rfl) (by decide) (by decide)) q10a q10b q10c (g := (mkF m 83 #[.val (.ref a0s), .val (.ref a1), .val (.ref b_7), .unset] [(.ref b_9)])) rfl (by rw [hml]; rfl) (Steps.refl _) (argsL := []) (rest := []) (lenOf own_pd8 rfl) rfl (by show 2 * 0 + _ ≤ _; exact Nat.le_of_eq rfl) (hb hby d25_83) (fun _ _ => ⟨rfl, rfl, (by decide : 7 + 1 ≤ _), (by decide : 25 + 4 ≤ _)⟩)
  dsimp only [Pt.U, Pt.locs, Pt.cells, Pt.slots] at X10 l10 y10 z10 st10 hQ10
  subst l10 y10 z10
  obtain ⟨b_10, rfl, Nq10, Kc10, P10_0, P10_1, P10_2, P10_3⟩ := hQ10
  have N10 := Fr.app N9 Nq10
  have ne_a0s_b_10 : a0s ≠ b_10 := Nat.ne_of_lt (Nat.lt_of_lt_of_le ((((Exa.wr W5 ((Exa.wr W2 E_0).keep Kc3)).keep Kc6).keep Kc7).keep Kc9).lt P10_0)
  have ne_a1_b_10 : a1 ≠ b_10 := Nat.ne_of_lt (Nat.lt_of_lt_of_le ((((Exa.wr W5 ((Exa.wr W2 E_1).keep Kc3)).keep Kc6).keep Kc7).keep Kc9).lt P10_0)
  have ne_a3_b_10 : a3 ≠ b_10 := Nat.ne_of_lt (Nat.lt_of_lt_of_le ((((Exa.wr W5 ((Exa.wr W2 E_3).keep Kc3)).keep Kc6).keep Kc7).keep Kc9).lt P10_0)
  have ne_b_6_b_10 : b_6 ≠ b_10 := Nat.ne_of_lt (Nat.lt_of_lt_of_le ((P6_1.keep Kc7).keep Kc9).lt P10_0)
  have ne_b_7_b_10 : b_7 ≠ b_10 := Nat.ne_of_lt (Nat.lt_of_lt_of_le (P7_1.keep Kc9).lt P10_0)
  have ne_b_9_b_10 : b_9 ≠ b_10 := Nat.ne_of_lt (Nat.lt_of_lt_of_le P9_1.lt P10_0)
  have ge_b_10 : n0 ≤ b_10 := Nat.le_trans (Nat.le_trans (Nat.le_trans (Nat.le_trans (Nat.le_trans (Nat.le_trans (Nat.le_trans Z0 (Keep.of_wr W2).1) Kc3.1) (Keep.of_wr W5).1) Kc6.1) Kc7.1) Kc9.1) P10_0
  have sz_b_10 : h0.size ≤ b_10 := Nat.le_trans K9.1 P10_0
  have K10 := K9.trans Kc10 all0
  have O10 := O9.keep Kc10 all0
  refine own_tr st10 ?_
  show own_G p.tables e below _ (T10.setTop (mkF m 88 #[.val (.ref a0s), .val (.ref a1), .val (.ref b_7), .unset] [(.ref b_10)]))
  refine own_st (fun _ kS => XS.astoreN X10.here hx rfl (hb hby d25_88) rfl rfl (l' := #[.val (.ref a0s), .val (.ref a1), .val (.ref b_10), .unset]) rfl kS) ?_
  show own_G p.tables e below _ (T10.setTop (mkF m 89 #[.val (.ref a0s), .val (.ref a1), .val (.ref b_10), .unset] []))
  refine own_st (fun _ kS => XS.aloadN X10.here hx rfl (hb hby d25_89) rfl rfl kS) ?_
  show own_G p.tables e below _ (T10.setTop (mkF m 90 #[.val (.ref a0s), .val (.ref a1), .val (.ref b_10), .unset] [(.ref b_10)]))
  obtain ⟨cq11, kq11, q11a, q11b, q11c⟩ := isOf hZ rfl P10_1
  obtain ⟨_, _, ⟨T11, L11, k11, n11⟩, -, X11, ⟨Lc11, hQ11, l11, y11, z11⟩, st11⟩ := X10.interfaceBack hx (xi := (⟨"java/util/Iterator", "hasNext", "()Z"⟩ : MethodName)) (y := (⟨"java/util/ArrayList$Itr", "hasNext", "()Z"⟩ : MethodName)) hown (mvT hZ (own_w hw 214 rfl)) (mvT hZ (own_w hw 183 rfl)) (mvT hZ (own_w hw 184 rfl)) (mvT hZ (own_w hw 215 rfl)) (mvT hZ (own_w hw 216 rfl)) (mvT hZ (own_w hw 217 rfl)) (mvT hZ (own_w hw 218 rfl)) (mvT hZ (own_w hw 219 rfl)) (by decide) (backOf (W := 0) (rm_hnA l Z a0 hw [] b_10 b_9 T10.heap n0 (Nat.le_trans (Nat.le_trans (Nat.le_trans (Nat.le_trans (Nat.le_trans (Nat.le_trans (Nat.le_trans Z0 (Keep.of_wr W2).1) Kc3.1) (Keep.of_wr W5).1) Kc6.1) Kc7.1) Kc9.1) Kc10.1)  P10_2 P10_3 (P9_2.keep Kc10 nin0)) hZ (own_w hw 220 rfl) (own_w hw 200 rfl) (by decide) (by decide)) q11a q11b q11c (g := (mkF m 90 #[.val (.ref a0s), .val (.ref a1), .val (.ref b_10), .unset] [(.ref b_10)])) rfl (by rw [hml]; rfl) (Steps.refl _) (argsL := []) (rest := []) (lenOf own_pd1 rfl) rfl (by show 2 * 0 + _ ≤ _; exact Nat.le_of_eq rfl) (hb hby d25_90) (fun _ _ => ⟨rfl, rfl, (by decide : 8 + 0 ≤ _), (by decide : 29 + 0 ≤ _)⟩)
  dsimp only [Pt.U, Pt.locs, Pt.cells, Pt.slots] at X11 l11 y11 z11 st11 hQ11
  subst l11 y11 z11
  obtain ⟨rfl, Nq11, eq11⟩ := hQ11
  have N11 := Fr.app N10 Nq11
  refine own_tr st11 ?_
  show own_G p.tables e below _ (T11.setTop (mkF m 95 #[.val (.ref a0s), .val (.ref a1), .val (.ref b_10), .unset] [(.int (0 : Int32))]))
  refine own_st (fun _ kS => XS.ifYes X11.here hx rfl (pc0 := 95) (pc' := 131) rfl (hb hby d25_95) rfl ((if0 _ _).trans (teq (by decide : (0 : Int32) = (0 : Int32))).1) (by decide) (by decide) kS) ?_
  show own_G p.tables e below _ (T11.setTop (mkF m 131 #[.val (.ref a0s), .val (.ref a1), .val (.ref b_10), .unset] []))
  exact own_retV X11 hx hlk hret (hb hby d25_131) (by decide) (by decide) (by rw [eq11]; exact ⟨rfl, N11, K10, (((((Exa.wr W5 ((Exa.wr W2 E_0).keep Kc3)).keep Kc6).keep Kc7).keep Kc9).keep Kc10), (((((Fld.other W5 ((Fld.other W2 IFu (Or.inr (slot_ne (Or.inl (own_w hw 232 rfl)) (Or.inl (own_w hw 236 rfl)) (by decide) (t := .int) (t' := .int) (by decide) (by decide)))).keep Kc3 nin0) (Or.inr (slot_ne (Or.inl (own_w hw 232 rfl)) (Or.inl (own_w hw 234 rfl)) (by decide) (t := .int) (t' := .int) (by decide) (by decide)))).keep Kc6 nin0).keep Kc7 nin0).keep Kc9 nin0).keep Kc10 nin0), ((((Fw5.keep Kc6 nin0).keep Kc7 nin0).keep Kc9 nin0).keep Kc10 nin0), (((((Fld.other W5 (Fw2.keep Kc3 nin0) (Or.inr (slot_ne (Or.inl (own_w hw 236 rfl)) (Or.inl (own_w hw 234 rfl)) (by decide) (t := .int) (t' := .int) (by decide) (by decide)))).keep Kc6 nin0).keep Kc7 nin0).keep Kc9 nin0).keep Kc10 nin0)⟩)
theorem ef_count1_1 (m : MethodId) (x0 : Addr) (x1 : Addr) : entryFrame m #[(.ref x0), (.ref x1)] 4 = mkF m 0 #[.val (.ref x0), .val (.ref x1), .unset, .unset] [] := by first | (simp [entryFrame, mkF, argsToLocals, Value.category]; done) | rfl
def Q_count1_1 (Z : State) (a0s : Addr) (a1 : Addr) (a3 : Addr) (wL : Addr) (wE : Addr) (kE : ClassId) (wD : Addr) (w_REQUIRED : Addr) (w_RECOMMENDED : Addr) (h0 : Heap) (n0 : Nat) (v : Option Value) (h : Heap) (L : List Loc) : Prop := v = none ∧ Fr n0 L ∧ Keep h0 h [a0s] ∧ Exa Z h a0s "com/example/cartouche/cartouche/checking/Summary" ∧ Fld Z h a0s "com/example/cartouche/cartouche/checking/Summary" "unreadable" "I" (.int (0 : Int32)) ∧ Fld Z h a0s "com/example/cartouche/cartouche/checking/Summary" "conforming" "I" (.int (2 : Int32)) ∧ Fld Z h a0s "com/example/cartouche/cartouche/checking/Summary" "records" "I" (.int (2 : Int32))
set_option maxRecDepth 65536 in
set_option maxHeartbeats 40000000 in
theorem rm_count1_1 (l : Launch) (Z : State) (a0 : Array Value) (hw : ∀ d ∈ tables_1, d.before a0 Z = true) (ws : List Jvm.Cond) (a0s : Addr) (a1 : Addr) (a3 : Addr) (wL : Addr) (wE : Addr) (kE : ClassId) (wD : Addr) (w_REQUIRED : Addr) (w_RECOMMENDED : Addr) (h0 : Heap) (n0 : Nat) (Z0 : n0 ≤ h0.size) (O0 : Old Z n0 h0) (E_0 : Exa Z h0 a0s "com/example/cartouche/cartouche/checking/Summary") (g_0 : n0 ≤ a0s) (ne01 : a0s ≠ a1) (ne03 : a0s ≠ a3) (IFu : Fld Z h0 a0s "com/example/cartouche/cartouche/checking/Summary" "unreadable" "I" (.int (0 : Int32))) (IFc : Fld Z h0 a0s "com/example/cartouche/cartouche/checking/Summary" "conforming" "I" (.int (1 : Int32))) (IFr : Fld Z h0 a0s "com/example/cartouche/cartouche/checking/Summary" "records" "I" (.int (1 : Int32))) (E_1 : Exa Z h0 a1 "com/example/cartouche/cartouche/checking/Verdict") (F_f : Fld Z h0 a1 "com/example/cartouche/cartouche/checking/Verdict" "failures" "Ljava/util/List;" (.ref a3)) (E_3 : Exa Z h0 a3 "java/util/ArrayList") (F_s3 : Fld Z h0 a3 "java/util/ArrayList" "size" "I" (.int (0 : Int32))) (F_m3 : Fld Z h0 a3 "java/util/AbstractList" "modCount" "I" (.int (0 : Int32))) (E_L : Exa Z Z.heap wL "java/util/ImmutableCollections$ListN") (F_el : Fld Z Z.heap wL "java/util/ImmutableCollections$ListN" "elements" "[Ljava/lang/Object;" (.ref wE)) (R_E : Arv Z Z.heap wE kE (.object "java/lang/Object") (0 : Int32) [] .null) (S_D : Sta Z Z.heap "java/util/ArrayList" "DEFAULTCAPACITY_EMPTY_ELEMENTDATA" "[Ljava/lang/Object;" (.ref wD)) (S_REQUIRED : Sta Z Z.heap "com/example/cartouche/cartouche/checking/Level" "REQUIRED" "Lcom/example/cartouche/cartouche/checking/Level;" (.ref w_REQUIRED)) (S_RECOMMENDED : Sta Z Z.heap "com/example/cartouche/cartouche/checking/Level" "RECOMMENDED" "Lcom/example/cartouche/cartouche/checking/Level;" (.ref w_RECOMMENDED)) :
    MetFree l (⟨"com/example/cartouche/cartouche/checking/Summary", "count", "(Lcom/example/cartouche/cartouche/checking/Verdict;)V"⟩ : MethodName) (head1 (Jvm.Cond.code (⟨"com/example/cartouche/cartouche/checking/Summary", "count", "(Lcom/example/cartouche/cartouche/checking/Verdict;)V"⟩ : MethodName) prog_30_method_2_code 4 none :: ws) ({ frames := 7, cells := 8, slots := 29, locals := 90 } : Room)) (fun a U => a = #[(.ref a0s), (.ref a1)] ∧ Z.Warmed39 U.vm ∧ U.heap = h0) (fun _ _ _ _ _ => True) (fun _ U o U' => ∃ v L, o = .returned v ∧ Q_count1_1 Z a0s a1 a3 wL wE kE wD w_REQUIRED w_RECOMMENDED h0 n0 v U'.heap L ∧ FrameEnd U o U' L ({ frames := 7, cells := 8, slots := 29, locals := 90 } : Room).cells ({ frames := 7, cells := 8, slots := 29, locals := 90 } : Room).slots) := by
  refine MetFree.of_bodySF (plainFor_of_name pn_25) hisR ?_
  intro p e s m args below meth c s₁ Bd hml0 hP hK
  obtain ⟨rfl, hZ, hh⟩ := hP
  have hx := Bd.exec
  have hby := Bd.bytes
  have hml : c.maxLocals = 4 := hml0
  have hown : s.vm.findClass "com/example/cartouche/cartouche/checking/Summary" = some m.cls := findClass_of_methodNamed Bd.named
  have hnm := (name_of_methodNamed Bd.named Bd.method).1
  have hlk := Bd.notSynchronized
  have hret := Bd.returns
  have X0 : Stand p l e ({ frames := 7, cells := 8, slots := 29, locals := 90 } : Room) s m #[(.ref a0s), (.ref a1)] below meth c s₁ [] 0 0 := Stand.of_body Bd
  have e0 : s₁.heap = h0 := by rw [← hh, Bd.state]; rfl
  have N0 := Fr.nil n0
  have K0 := Keep.refl h0 [a0s]
  refine own_in ({ frames := 7, cells := 8, slots := 29, locals := 90 } : Room).cells ({ frames := 7, cells := 8, slots := 29, locals := 90 } : Room).slots (Q_count1_1 Z a0s a1 a3 wL wE kE wD w_REQUIRED w_RECOMMENDED h0 n0) (ef_count1_1 m a0s a1) ?_
  show own_G p.tables e below _ (s₁.setTop (mkF m 0 #[.val (.ref a0s), .val (.ref a1), .unset, .unset] []))
  refine own_st (fun _ kS => XS.aloadN X0.here hx rfl (hb hby d25_0) rfl rfl kS) ?_
  refine own_st (fun _ kS => XS.dup X0.here hx rfl (hb hby d25_1) rfl rfl kS) ?_
  show own_G p.tables e below _ (s₁.setTop (mkF m 2 #[.val (.ref a0s), .val (.ref a1), .unset, .unset] [(.ref a0s), (.ref a0s)]))
  obtain ⟨T1, X1, e1, st1⟩ := getF X0 hx hZ hown (host := "") (Or.inl (own_w hw 235 rfl)) Via.refl e0 IFr (g := (mkF m 2 #[.val (.ref a0s), .val (.ref a1), .unset, .unset] [(.ref a0s), (.ref a0s)])) rfl rfl (hb hby d25_2)
  refine own_st st1 ?_
  show own_G p.tables e below _ (T1.setTop (mkF m 5 #[.val (.ref a0s), .val (.ref a1), .unset, .unset] [(.int (1 : Int32)), (.ref a0s)]))
  refine own_st (fun _ kS => XS.iconst X1.here hx rfl (hb hby d25_5) kS) ?_
  show own_G p.tables e below _ (T1.setTop (mkF m 6 #[.val (.ref a0s), .val (.ref a1), .unset, .unset] [(.int (1 : Int32)), (.int (1 : Int32)), (.ref a0s)]))
  refine own_st (fun _ kS => XS.iadd X1.here hx rfl (hb hby d25_6) rfl kS) ?_
  show own_G p.tables e below _ (T1.setTop (mkF m 7 #[.val (.ref a0s), .val (.ref a1), .unset, .unset] [(.int (2 : Int32)), (.ref a0s)]))
  obtain ⟨T2, h2, X2, e2, W2, st2⟩ := putF X1 hx hZ hown (host := "") (Or.inl (own_w hw 235 rfl)) Via.refl e1 IFr E_0 (Or.inl (own_w hw 236 rfl)) (own_w hw 102 rfl) (ty := .int) (by decide) rfl rfl (g := (mkF m 7 #[.val (.ref a0s), .val (.ref a1), .unset, .unset] [(.int (2 : Int32)), (.ref a0s)])) rfl rfl (hb hby d25_7)
  refine own_st st2 ?_
  have N2 := Fr.snoc X2 N0 g_0
  have K2 := K0.wr W2 (Or.inl (List.mem_of_getElem? (i := 0) rfl))
  have O2 := O0.wr W2 g_0
  have Fw2 := Fld.same W2 IFr
  show own_G p.tables e below _ (T2.setTop (mkF m 10 #[.val (.ref a0s), .val (.ref a1), .unset, .unset] []))
  refine own_st (fun _ kS => XS.aloadN X2.here hx rfl (hb hby d25_10) rfl rfl kS) ?_
  show own_G p.tables e below _ (T2.setTop (mkF m 11 #[.val (.ref a0s), .val (.ref a1), .unset, .unset] [(.ref a1)]))
  obtain ⟨cq3, kq3, q3a, q3b, q3c⟩ := isOf hZ e2 (Exa.wr W2 E_1)
  obtain ⟨_, _, ⟨T3, L3, k3, n3⟩, -, X3, ⟨Lc3, hQ3, l3, y3, z3⟩, st3⟩ := X2.virtualBack hx (y := (⟨"com/example/cartouche/cartouche/checking/Verdict", "conforms", "()Z"⟩ : MethodName)) (z := (⟨"com/example/cartouche/cartouche/checking/Verdict", "conforms", "()Z"⟩ : MethodName)) hown (mvT hZ (own_w hw 242 rfl)) (mvT hZ (own_w hw 243 rfl)) (notFace_of_selects (args := #[]) (mvT hZ (own_w hw 245 rfl))) (mvT hZ (own_w hw 245 rfl)) (mvT hZ (own_w hw 244 rfl)) (by decide) (backOf (W := 0) (rm_conforms1 l Z a0 hw [] a1 a3 wL wE kE wD w_REQUIRED h2 n0 (Nat.le_trans Z0 (Keep.of_wr W2).1) O2 (Exa.wr W2 E_1) (Fld.other W2 F_f (Or.inl (Ne.symm ne01))) (Exa.wr W2 E_3) (Fld.other W2 F_s3 (Or.inl (Ne.symm ne03))) (Fld.other W2 F_m3 (Or.inl (Ne.symm ne03))) E_L F_el R_E S_D S_REQUIRED) hZ (own_w hw 246 rfl) (own_w hw 91 rfl) (by decide) (by decide)) q3a q3c (g := (mkF m 11 #[.val (.ref a0s), .val (.ref a1), .unset, .unset] [(.ref a1)])) rfl (by rw [hml]; rfl) (Steps.refl _) (argsL := []) (rest := []) (lenOf own_pd1 rfl) rfl (by show 2 * 0 + _ ≤ _; exact Nat.le_of_eq rfl) (hb hby d25_11) (fun _ _ => ⟨rfl, e2, (by decide : 0 + 2 ≤ _), (by decide : 0 + 7 ≤ _)⟩)
  dsimp only [Pt.U, Pt.locs, Pt.cells, Pt.slots] at X3 l3 y3 z3 st3 hQ3
  subst l3 y3 z3
  obtain ⟨rfl, Nq3, Kc3⟩ := hQ3
  have N3 := Fr.app N2 Nq3
  have K3 := K2.trans Kc3 all0
  have O3 := O2.keep Kc3 all0
  refine own_tr st3 ?_
  show own_G p.tables e below _ (T3.setTop (mkF m 14 #[.val (.ref a0s), .val (.ref a1), .unset, .unset] [(.int (1 : Int32))]))
  refine own_st (fun _ kS => XS.ifNo X3.here hx rfl (hb hby d25_14) rfl ((if0 _ _).trans (feq (by decide : ¬ ((1 : Int32) = (0 : Int32)))).1) kS) ?_
  show own_G p.tables e below _ (T3.setTop (mkF m 17 #[.val (.ref a0s), .val (.ref a1), .unset, .unset] []))
  refine own_st (fun _ kS => XS.aloadN X3.here hx rfl (hb hby d25_17) rfl rfl kS) ?_
  refine own_st (fun _ kS => XS.dup X3.here hx rfl (hb hby d25_18) rfl rfl kS) ?_
  show own_G p.tables e below _ (T3.setTop (mkF m 19 #[.val (.ref a0s), .val (.ref a1), .unset, .unset] [(.ref a0s), (.ref a0s)]))
  obtain ⟨T4, X4, e4, st4⟩ := getF X3 hx hZ hown (host := "") (Or.inl (own_w hw 233 rfl)) Via.refl rfl ((Fld.other W2 IFc (Or.inr (slot_ne (Or.inl (own_w hw 234 rfl)) (Or.inl (own_w hw 236 rfl)) (by decide) (t := .int) (t' := .int) (by decide) (by decide)))).keep Kc3 nin0) (g := (mkF m 19 #[.val (.ref a0s), .val (.ref a1), .unset, .unset] [(.ref a0s), (.ref a0s)])) rfl rfl (hb hby d25_19)
  refine own_st st4 ?_
  show own_G p.tables e below _ (T4.setTop (mkF m 22 #[.val (.ref a0s), .val (.ref a1), .unset, .unset] [(.int (1 : Int32)), (.ref a0s)]))
  refine own_st (fun _ kS => XS.iconst X4.here hx rfl (hb hby d25_22) kS) ?_
  show own_G p.tables e below _ (T4.setTop (mkF m 23 #[.val (.ref a0s), .val (.ref a1), .unset, .unset] [(.int (1 : Int32)), (.int (1 : Int32)), (.ref a0s)]))
  refine own_st (fun _ kS => XS.iadd X4.here hx rfl (hb hby d25_23) rfl kS) ?_
  show own_G p.tables e below _ (T4.setTop (mkF m 24 #[.val (.ref a0s), .val (.ref a1), .unset, .unset] [(.int (2 : Int32)), (.ref a0s)]))
  obtain ⟨T5, h5, X5, e5, W5, st5⟩ := putF X4 hx hZ hown (host := "") (Or.inl (own_w hw 233 rfl)) Via.refl e4 ((Fld.other W2 IFc (Or.inr (slot_ne (Or.inl (own_w hw 234 rfl)) (Or.inl (own_w hw 236 rfl)) (by decide) (t := .int) (t' := .int) (by decide) (by decide)))).keep Kc3 nin0) ((Exa.wr W2 E_0).keep Kc3) (Or.inl (own_w hw 234 rfl)) (own_w hw 102 rfl) (ty := .int) (by decide) rfl rfl (g := (mkF m 24 #[.val (.ref a0s), .val (.ref a1), .unset, .unset] [(.int (2 : Int32)), (.ref a0s)])) rfl rfl (hb hby d25_24)
  refine own_st st5 ?_
  have N5 := Fr.snoc X5 N3 g_0
  have K5 := K3.wr W5 (Or.inl (List.mem_of_getElem? (i := 0) rfl))
  have O5 := O3.wr W5 g_0
  have Fw5 := Fld.same W5 ((Fld.other W2 IFc (Or.inr (slot_ne (Or.inl (own_w hw 234 rfl)) (Or.inl (own_w hw 236 rfl)) (by decide) (t := .int) (t' := .int) (by decide) (by decide)))).keep Kc3 nin0)
  show own_G p.tables e below _ (T5.setTop (mkF m 27 #[.val (.ref a0s), .val (.ref a1), .unset, .unset] []))
  refine own_st (fun _ kS => XS.aloadN X5.here hx rfl (hb hby d25_27) rfl rfl kS) ?_
  show own_G p.tables e below _ (T5.setTop (mkF m 28 #[.val (.ref a0s), .val (.ref a1), .unset, .unset] [(.ref a1)]))
  obtain ⟨cq6, kq6, q6a, q6b, q6c⟩ := isOf hZ e5 (Exa.wr W5 ((Exa.wr W2 E_1).keep Kc3))
  obtain ⟨_, _, ⟨T6, L6, k6, n6⟩, -, X6, ⟨Lc6, hQ6, l6, y6, z6⟩, st6⟩ := X5.virtualBack hx (y := (⟨"com/example/cartouche/cartouche/checking/Verdict", "failed", "()Ljava/util/List;"⟩ : MethodName)) (z := (⟨"com/example/cartouche/cartouche/checking/Verdict", "failed", "()Ljava/util/List;"⟩ : MethodName)) hown (mvT hZ (own_w hw 265 rfl)) (mvT hZ (own_w hw 248 rfl)) (notFace_of_selects (args := #[]) (mvT hZ (own_w hw 250 rfl))) (mvT hZ (own_w hw 250 rfl)) (mvT hZ (own_w hw 249 rfl)) (by decide) (backOf (W := 0) (rm_failed1 l Z a0 hw [] a1 a3 wL wE kE wD w_REQUIRED h5 n0 (Nat.le_trans (Nat.le_trans (Nat.le_trans Z0 (Keep.of_wr W2).1) Kc3.1) (Keep.of_wr W5).1) O5 (Exa.wr W5 ((Exa.wr W2 E_1).keep Kc3)) (Fld.other W5 ((Fld.other W2 F_f (Or.inl (Ne.symm ne01))).keep Kc3 nin0) (Or.inl (Ne.symm ne01))) (Exa.wr W5 ((Exa.wr W2 E_3).keep Kc3)) (Fld.other W5 ((Fld.other W2 F_s3 (Or.inl (Ne.symm ne03))).keep Kc3 nin0) (Or.inl (Ne.symm ne03))) (Fld.other W5 ((Fld.other W2 F_m3 (Or.inl (Ne.symm ne03))).keep Kc3 nin0) (Or.inl (Ne.symm ne03))) E_L F_el R_E S_D S_REQUIRED) hZ (own_w hw 251 rfl) (own_w hw 91 rfl) (by decide) (by decide)) q6a q6c (g := (mkF m 28 #[.val (.ref a0s), .val (.ref a1), .unset, .unset] [(.ref a1)])) rfl (by rw [hml]; rfl) (Steps.refl _) (argsL := []) (rest := []) (lenOf own_pd2 rfl) rfl (by show 2 * 0 + _ ≤ _; exact Nat.le_of_eq rfl) (hb hby d25_28) (fun _ _ => ⟨rfl, e5, (by decide : 2 + 2 ≤ _), (by decide : 7 + 7 ≤ _)⟩)
  dsimp only [Pt.U, Pt.locs, Pt.cells, Pt.slots] at X6 l6 y6 z6 st6 hQ6
  subst l6 y6 z6
  obtain ⟨b_6, rfl, Nq6, Kc6, P6_0, P6_1, P6_2, P6_3⟩ := hQ6
  have N6 := Fr.app N5 Nq6
  have ne_a0s_b_6 : a0s ≠ b_6 := Nat.ne_of_lt (Nat.lt_of_lt_of_le (Exa.wr W5 ((Exa.wr W2 E_0).keep Kc3)).lt P6_0)
  have ne_a1_b_6 : a1 ≠ b_6 := Nat.ne_of_lt (Nat.lt_of_lt_of_le (Exa.wr W5 ((Exa.wr W2 E_1).keep Kc3)).lt P6_0)
  have ne_a3_b_6 : a3 ≠ b_6 := Nat.ne_of_lt (Nat.lt_of_lt_of_le (Exa.wr W5 ((Exa.wr W2 E_3).keep Kc3)).lt P6_0)
  have ge_b_6 : n0 ≤ b_6 := Nat.le_trans (Nat.le_trans (Nat.le_trans (Nat.le_trans Z0 (Keep.of_wr W2).1) Kc3.1) (Keep.of_wr W5).1) P6_0
  have sz_b_6 : h0.size ≤ b_6 := Nat.le_trans K5.1 P6_0
  have K6 := K5.trans Kc6 all0
  have O6 := O5.keep Kc6 all0
  refine own_tr st6 ?_
  show own_G p.tables e below _ (T6.setTop (mkF m 31 #[.val (.ref a0s), .val (.ref a1), .unset, .unset] [(.ref b_6)]))
  obtain ⟨cq7, kq7, q7a, q7b, q7c⟩ := isOf hZ rfl P6_1
  obtain ⟨_, _, ⟨T7, L7, k7, n7⟩, -, X7, ⟨Lc7, hQ7, l7, y7, z7⟩, st7⟩ := X6.interfaceBack hx (xi := (⟨"java/util/List", "iterator", "()Ljava/util/Iterator;"⟩ : MethodName)) (y := (⟨"java/util/ArrayList", "iterator", "()Ljava/util/Iterator;"⟩ : MethodName)) hown (mvT hZ (own_w hw 191 rfl)) (mvT hZ (own_w hw 149 rfl)) (mvT hZ (own_w hw 150 rfl)) (mvT hZ (own_w hw 192 rfl)) (mvT hZ (own_w hw 193 rfl)) (mvT hZ (own_w hw 194 rfl)) (mvT hZ (own_w hw 195 rfl)) (mvT hZ (own_w hw 196 rfl)) (by decide) (backOf (W := 0) (rm_itA l Z a0 hw [] b_6 T6.heap n0 (Nat.le_trans (Nat.le_trans (Nat.le_trans (Nat.le_trans Z0 (Keep.of_wr W2).1) Kc3.1) (Keep.of_wr W5).1) Kc6.1)  P6_1 P6_3) hZ (own_w hw 197 rfl) (own_w hw 14 rfl) (by decide) (by decide)) q7a q7b q7c (g := (mkF m 31 #[.val (.ref a0s), .val (.ref a1), .unset, .unset] [(.ref b_6)])) rfl (by rw [hml]; rfl) (Steps.refl _) (argsL := []) (rest := []) (lenOf own_pd8 rfl) rfl (by show 2 * 0 + _ ≤ _; exact Nat.le_of_eq rfl) (hb hby d25_31) (fun _ _ => ⟨rfl, rfl, (by decide : 4 + 1 ≤ _), (by decide : 14 + 4 ≤ _)⟩)
  dsimp only [Pt.U, Pt.locs, Pt.cells, Pt.slots] at X7 l7 y7 z7 st7 hQ7
  subst l7 y7 z7
  obtain ⟨b_7, rfl, Nq7, Kc7, P7_0, P7_1, P7_2, P7_3⟩ := hQ7
  have N7 := Fr.app N6 Nq7
  have ne_a0s_b_7 : a0s ≠ b_7 := Nat.ne_of_lt (Nat.lt_of_lt_of_le ((Exa.wr W5 ((Exa.wr W2 E_0).keep Kc3)).keep Kc6).lt P7_0)
  have ne_a1_b_7 : a1 ≠ b_7 := Nat.ne_of_lt (Nat.lt_of_lt_of_le ((Exa.wr W5 ((Exa.wr W2 E_1).keep Kc3)).keep Kc6).lt P7_0)
  have ne_a3_b_7 : a3 ≠ b_7 := Nat.ne_of_lt (Nat.lt_of_lt_of_le ((Exa.wr W5 ((Exa.wr W2 E_3).keep Kc3)).keep Kc6).lt P7_0)
  have ne_b_6_b_7 : b_6 ≠ b_7 := Nat.ne_of_lt (Nat.lt_of_lt_of_le P6_1.lt P7_0)
  have ge_b_7 : n0 ≤ b_7 := Nat.le_trans (Nat.le_trans (Nat.le_trans (Nat.le_trans (Nat.le_trans Z0 (Keep.of_wr W2).1) Kc3.1) (Keep.of_wr W5).1) Kc6.1) P7_0
  have sz_b_7 : h0.size ≤ b_7 := Nat.le_trans K6.1 P7_0
  have K7 := K6.trans Kc7 all0
  have O7 := O6.keep Kc7 all0
  refine own_tr st7 ?_
  show own_G p.tables e below _ (T7.setTop (mkF m 36 #[.val (.ref a0s), .val (.ref a1), .unset, .unset] [(.ref b_7)]))
  refine own_st (fun _ kS => XS.astoreN X7.here hx rfl (hb hby d25_36) rfl rfl (l' := #[.val (.ref a0s), .val (.ref a1), .val (.ref b_7), .unset]) rfl kS) ?_
  show own_G p.tables e below _ (T7.setTop (mkF m 37 #[.val (.ref a0s), .val (.ref a1), .val (.ref b_7), .unset] []))
  refine own_st (fun _ kS => XS.aloadN X7.here hx rfl (hb hby d25_37) rfl rfl kS) ?_
  show own_G p.tables e below _ (T7.setTop (mkF m 38 #[.val (.ref a0s), .val (.ref a1), .val (.ref b_7), .unset] [(.ref b_7)]))
  obtain ⟨cq8, kq8, q8a, q8b, q8c⟩ := isOf hZ rfl P7_1
  obtain ⟨_, _, ⟨T8, L8, k8, n8⟩, -, X8, ⟨Lc8, hQ8, l8, y8, z8⟩, st8⟩ := X7.interfaceBack hx (xi := (⟨"java/util/Iterator", "hasNext", "()Z"⟩ : MethodName)) (y := (⟨"java/util/ArrayList$Itr", "hasNext", "()Z"⟩ : MethodName)) hown (mvT hZ (own_w hw 214 rfl)) (mvT hZ (own_w hw 183 rfl)) (mvT hZ (own_w hw 184 rfl)) (mvT hZ (own_w hw 215 rfl)) (mvT hZ (own_w hw 216 rfl)) (mvT hZ (own_w hw 217 rfl)) (mvT hZ (own_w hw 218 rfl)) (mvT hZ (own_w hw 219 rfl)) (by decide) (backOf (W := 0) (rm_hnA l Z a0 hw [] b_7 b_6 T7.heap n0 (Nat.le_trans (Nat.le_trans (Nat.le_trans (Nat.le_trans (Nat.le_trans Z0 (Keep.of_wr W2).1) Kc3.1) (Keep.of_wr W5).1) Kc6.1) Kc7.1)  P7_2 P7_3 (P6_2.keep Kc7 nin0)) hZ (own_w hw 220 rfl) (own_w hw 200 rfl) (by decide) (by decide)) q8a q8b q8c (g := (mkF m 38 #[.val (.ref a0s), .val (.ref a1), .val (.ref b_7), .unset] [(.ref b_7)])) rfl (by rw [hml]; rfl) (Steps.refl _) (argsL := []) (rest := []) (lenOf own_pd1 rfl) rfl (by show 2 * 0 + _ ≤ _; exact Nat.le_of_eq rfl) (hb hby d25_38) (fun _ _ => ⟨rfl, rfl, (by decide : 5 + 0 ≤ _), (by decide : 18 + 0 ≤ _)⟩)
  dsimp only [Pt.U, Pt.locs, Pt.cells, Pt.slots] at X8 l8 y8 z8 st8 hQ8
  subst l8 y8 z8
  obtain ⟨rfl, Nq8, eq8⟩ := hQ8
  have N8 := Fr.app N7 Nq8
  refine own_tr st8 ?_
  show own_G p.tables e below _ (T8.setTop (mkF m 43 #[.val (.ref a0s), .val (.ref a1), .val (.ref b_7), .unset] [(.int (0 : Int32))]))
  refine own_st (fun _ kS => XS.ifYes X8.here hx rfl (pc0 := 43) (pc' := 79) rfl (hb hby d25_43) rfl ((if0 _ _).trans (teq (by decide : (0 : Int32) = (0 : Int32))).1) (by decide) (by decide) kS) ?_
  show own_G p.tables e below _ (T8.setTop (mkF m 79 #[.val (.ref a0s), .val (.ref a1), .val (.ref b_7), .unset] []))
  refine own_st (fun _ kS => XS.aloadN X8.here hx rfl (hb hby d25_79) rfl rfl kS) ?_
  show own_G p.tables e below _ (T8.setTop (mkF m 80 #[.val (.ref a0s), .val (.ref a1), .val (.ref b_7), .unset] [(.ref a1)]))
  obtain ⟨cq9, kq9, q9a, q9b, q9c⟩ := isOf hZ eq8 (((Exa.wr W5 ((Exa.wr W2 E_1).keep Kc3)).keep Kc6).keep Kc7)
  obtain ⟨_, _, ⟨T9, L9, k9, n9⟩, -, X9, ⟨Lc9, hQ9, l9, y9, z9⟩, st9⟩ := X8.virtualBack hx (y := (⟨"com/example/cartouche/cartouche/checking/Verdict", "warned", "()Ljava/util/List;"⟩ : MethodName)) (z := (⟨"com/example/cartouche/cartouche/checking/Verdict", "warned", "()Ljava/util/List;"⟩ : MethodName)) hown (mvT hZ (own_w hw 266 rfl)) (mvT hZ (own_w hw 267 rfl)) (notFace_of_selects (args := #[]) (mvT hZ (own_w hw 269 rfl))) (mvT hZ (own_w hw 269 rfl)) (mvT hZ (own_w hw 268 rfl)) (by decide) (backOf (W := 0) (rm_warned1 l Z a0 hw [] a1 a3 wL wE kE wD w_RECOMMENDED T7.heap n0 (Nat.le_trans (Nat.le_trans (Nat.le_trans (Nat.le_trans (Nat.le_trans Z0 (Keep.of_wr W2).1) Kc3.1) (Keep.of_wr W5).1) Kc6.1) Kc7.1) O7 (((Exa.wr W5 ((Exa.wr W2 E_1).keep Kc3)).keep Kc6).keep Kc7) (((Fld.other W5 ((Fld.other W2 F_f (Or.inl (Ne.symm ne01))).keep Kc3 nin0) (Or.inl (Ne.symm ne01))).keep Kc6 nin0).keep Kc7 nin0) (((Exa.wr W5 ((Exa.wr W2 E_3).keep Kc3)).keep Kc6).keep Kc7) (((Fld.other W5 ((Fld.other W2 F_s3 (Or.inl (Ne.symm ne03))).keep Kc3 nin0) (Or.inl (Ne.symm ne03))).keep Kc6 nin0).keep Kc7 nin0) (((Fld.other W5 ((Fld.other W2 F_m3 (Or.inl (Ne.symm ne03))).keep Kc3 nin0) (Or.inl (Ne.symm ne03))).keep Kc6 nin0).keep Kc7 nin0) E_L F_el R_E S_D S_RECOMMENDED) hZ (own_w hw 270 rfl) (own_w hw 91 rfl) (by decide) (by decide)) q9a q9c (g := (mkF m 80 #[.val (.ref a0s), .val (.ref a1), .val (.ref b_7), .unset] [(.ref a1)])) rfl (by rw [hml]; rfl) (Steps.refl _) (argsL := []) (rest := []) (lenOf own_pd2 rfl) rfl (by show 2 * 0 + _ ≤ _; exact Nat.le_of_eq rfl) (hb hby d25_80) (fun _ _ => ⟨rfl, eq8, (by decide : 5 + 2 ≤ _), (by decide : 18 + 7 ≤ _)⟩)
  dsimp only [Pt.U, Pt.locs, Pt.cells, Pt.slots] at X9 l9 y9 z9 st9 hQ9
  subst l9 y9 z9
  obtain ⟨b_9, rfl, Nq9, Kc9, P9_0, P9_1, P9_2, P9_3⟩ := hQ9
  have N9 := Fr.app N8 Nq9
  have ne_a0s_b_9 : a0s ≠ b_9 := Nat.ne_of_lt (Nat.lt_of_lt_of_le (((Exa.wr W5 ((Exa.wr W2 E_0).keep Kc3)).keep Kc6).keep Kc7).lt P9_0)
  have ne_a1_b_9 : a1 ≠ b_9 := Nat.ne_of_lt (Nat.lt_of_lt_of_le (((Exa.wr W5 ((Exa.wr W2 E_1).keep Kc3)).keep Kc6).keep Kc7).lt P9_0)
  have ne_a3_b_9 : a3 ≠ b_9 := Nat.ne_of_lt (Nat.lt_of_lt_of_le (((Exa.wr W5 ((Exa.wr W2 E_3).keep Kc3)).keep Kc6).keep Kc7).lt P9_0)
  have ne_b_6_b_9 : b_6 ≠ b_9 := Nat.ne_of_lt (Nat.lt_of_lt_of_le (P6_1.keep Kc7).lt P9_0)
  have ne_b_7_b_9 : b_7 ≠ b_9 := Nat.ne_of_lt (Nat.lt_of_lt_of_le P7_1.lt P9_0)
  have ge_b_9 : n0 ≤ b_9 := Nat.le_trans (Nat.le_trans (Nat.le_trans (Nat.le_trans (Nat.le_trans (Nat.le_trans Z0 (Keep.of_wr W2).1) Kc3.1) (Keep.of_wr W5).1) Kc6.1) Kc7.1) P9_0
  have sz_b_9 : h0.size ≤ b_9 := Nat.le_trans K7.1 P9_0
  have K9 := K7.trans Kc9 all0
  have O9 := O7.keep Kc9 all0
  refine own_tr st9 ?_
  show own_G p.tables e below _ (T9.setTop (mkF m 83 #[.val (.ref a0s), .val (.ref a1), .val (.ref b_7), .unset] [(.ref b_9)]))
  obtain ⟨cq10, kq10, q10a, q10b, q10c⟩ := isOf hZ rfl P9_1
  obtain ⟨_, _, ⟨T10, L10, k10, n10⟩, -, X10, ⟨Lc10, hQ10, l10, y10, z10⟩, st10⟩ := X9.interfaceBack hx (xi := (⟨"java/util/List", "iterator", "()Ljava/util/Iterator;"⟩ : MethodName)) (y := (⟨"java/util/ArrayList", "iterator", "()Ljava/util/Iterator;"⟩ : MethodName)) hown (mvT hZ (own_w hw 191 rfl)) (mvT hZ (own_w hw 149 rfl)) (mvT hZ (own_w hw 150 rfl)) (mvT hZ (own_w hw 192 rfl)) (mvT hZ (own_w hw 193 rfl)) (mvT hZ (own_w hw 194 rfl)) (mvT hZ (own_w hw 195 rfl)) (mvT hZ (own_w hw 196 rfl)) (by decide) (backOf (W := 0) (rm_itA l Z a0 hw [] b_9 T9.heap n0 (Nat.le_trans (Nat.le_trans (Nat.le_trans (Nat.le_trans (Nat.le_trans (Nat.le_trans Z0 (Keep.of_wr W2).1) Kc3.1) (Keep.of_wr W5).1) Kc6.1) Kc7.1) Kc9.1)  P9_1 P9_3) hZ (own_w hw 197 rfl) (own_w hw 14 rfl) (by decide) (by decide)) q10a q10b q10c (g := (mkF m 83 #[.val (.ref a0s), .val (.ref a1), .val (.ref b_7), .unset] [(.ref b_9)])) rfl (by rw [hml]; rfl) (Steps.refl _) (argsL := []) (rest := []) (lenOf own_pd8 rfl) rfl (by show 2 * 0 + _ ≤ _; exact Nat.le_of_eq rfl) (hb hby d25_83) (fun _ _ => ⟨rfl, rfl, (by decide : 7 + 1 ≤ _), (by decide : 25 + 4 ≤ _)⟩)
  dsimp only [Pt.U, Pt.locs, Pt.cells, Pt.slots] at X10 l10 y10 z10 st10 hQ10
  subst l10 y10 z10
  obtain ⟨b_10, rfl, Nq10, Kc10, P10_0, P10_1, P10_2, P10_3⟩ := hQ10
  have N10 := Fr.app N9 Nq10
  have ne_a0s_b_10 : a0s ≠ b_10 := Nat.ne_of_lt (Nat.lt_of_lt_of_le ((((Exa.wr W5 ((Exa.wr W2 E_0).keep Kc3)).keep Kc6).keep Kc7).keep Kc9).lt P10_0)
  have ne_a1_b_10 : a1 ≠ b_10 := Nat.ne_of_lt (Nat.lt_of_lt_of_le ((((Exa.wr W5 ((Exa.wr W2 E_1).keep Kc3)).keep Kc6).keep Kc7).keep Kc9).lt P10_0)
  have ne_a3_b_10 : a3 ≠ b_10 := Nat.ne_of_lt (Nat.lt_of_lt_of_le ((((Exa.wr W5 ((Exa.wr W2 E_3).keep Kc3)).keep Kc6).keep Kc7).keep Kc9).lt P10_0)
  have ne_b_6_b_10 : b_6 ≠ b_10 := Nat.ne_of_lt (Nat.lt_of_lt_of_le ((P6_1.keep Kc7).keep Kc9).lt P10_0)
  have ne_b_7_b_10 : b_7 ≠ b_10 := Nat.ne_of_lt (Nat.lt_of_lt_of_le (P7_1.keep Kc9).lt P10_0)
  have ne_b_9_b_10 : b_9 ≠ b_10 := Nat.ne_of_lt (Nat.lt_of_lt_of_le P9_1.lt P10_0)
  have ge_b_10 : n0 ≤ b_10 := Nat.le_trans (Nat.le_trans (Nat.le_trans (Nat.le_trans (Nat.le_trans (Nat.le_trans (Nat.le_trans Z0 (Keep.of_wr W2).1) Kc3.1) (Keep.of_wr W5).1) Kc6.1) Kc7.1) Kc9.1) P10_0
  have sz_b_10 : h0.size ≤ b_10 := Nat.le_trans K9.1 P10_0
  have K10 := K9.trans Kc10 all0
  have O10 := O9.keep Kc10 all0
  refine own_tr st10 ?_
  show own_G p.tables e below _ (T10.setTop (mkF m 88 #[.val (.ref a0s), .val (.ref a1), .val (.ref b_7), .unset] [(.ref b_10)]))
  refine own_st (fun _ kS => XS.astoreN X10.here hx rfl (hb hby d25_88) rfl rfl (l' := #[.val (.ref a0s), .val (.ref a1), .val (.ref b_10), .unset]) rfl kS) ?_
  show own_G p.tables e below _ (T10.setTop (mkF m 89 #[.val (.ref a0s), .val (.ref a1), .val (.ref b_10), .unset] []))
  refine own_st (fun _ kS => XS.aloadN X10.here hx rfl (hb hby d25_89) rfl rfl kS) ?_
  show own_G p.tables e below _ (T10.setTop (mkF m 90 #[.val (.ref a0s), .val (.ref a1), .val (.ref b_10), .unset] [(.ref b_10)]))
  obtain ⟨cq11, kq11, q11a, q11b, q11c⟩ := isOf hZ rfl P10_1
  obtain ⟨_, _, ⟨T11, L11, k11, n11⟩, -, X11, ⟨Lc11, hQ11, l11, y11, z11⟩, st11⟩ := X10.interfaceBack hx (xi := (⟨"java/util/Iterator", "hasNext", "()Z"⟩ : MethodName)) (y := (⟨"java/util/ArrayList$Itr", "hasNext", "()Z"⟩ : MethodName)) hown (mvT hZ (own_w hw 214 rfl)) (mvT hZ (own_w hw 183 rfl)) (mvT hZ (own_w hw 184 rfl)) (mvT hZ (own_w hw 215 rfl)) (mvT hZ (own_w hw 216 rfl)) (mvT hZ (own_w hw 217 rfl)) (mvT hZ (own_w hw 218 rfl)) (mvT hZ (own_w hw 219 rfl)) (by decide) (backOf (W := 0) (rm_hnA l Z a0 hw [] b_10 b_9 T10.heap n0 (Nat.le_trans (Nat.le_trans (Nat.le_trans (Nat.le_trans (Nat.le_trans (Nat.le_trans (Nat.le_trans Z0 (Keep.of_wr W2).1) Kc3.1) (Keep.of_wr W5).1) Kc6.1) Kc7.1) Kc9.1) Kc10.1)  P10_2 P10_3 (P9_2.keep Kc10 nin0)) hZ (own_w hw 220 rfl) (own_w hw 200 rfl) (by decide) (by decide)) q11a q11b q11c (g := (mkF m 90 #[.val (.ref a0s), .val (.ref a1), .val (.ref b_10), .unset] [(.ref b_10)])) rfl (by rw [hml]; rfl) (Steps.refl _) (argsL := []) (rest := []) (lenOf own_pd1 rfl) rfl (by show 2 * 0 + _ ≤ _; exact Nat.le_of_eq rfl) (hb hby d25_90) (fun _ _ => ⟨rfl, rfl, (by decide : 8 + 0 ≤ _), (by decide : 29 + 0 ≤ _)⟩)
  dsimp only [Pt.U, Pt.locs, Pt.cells, Pt.slots] at X11 l11 y11 z11 st11 hQ11
  subst l11 y11 z11
  obtain ⟨rfl, Nq11, eq11⟩ := hQ11
  have N11 := Fr.app N10 Nq11
  refine own_tr st11 ?_
  show own_G p.tables e below _ (T11.setTop (mkF m 95 #[.val (.ref a0s), .val (.ref a1), .val (.ref b_10), .unset] [(.int (0 : Int32))]))
  refine own_st (fun _ kS => XS.ifYes X11.here hx rfl (pc0 := 95) (pc' := 131) rfl (hb hby d25_95) rfl ((if0 _ _).trans (teq (by decide : (0 : Int32) = (0 : Int32))).1) (by decide) (by decide) kS) ?_
  show own_G p.tables e below _ (T11.setTop (mkF m 131 #[.val (.ref a0s), .val (.ref a1), .val (.ref b_10), .unset] []))
  exact own_retV X11 hx hlk hret (hb hby d25_131) (by decide) (by decide) (by rw [eq11]; exact ⟨rfl, N11, K10, (((((Exa.wr W5 ((Exa.wr W2 E_0).keep Kc3)).keep Kc6).keep Kc7).keep Kc9).keep Kc10), (((((Fld.other W5 ((Fld.other W2 IFu (Or.inr (slot_ne (Or.inl (own_w hw 232 rfl)) (Or.inl (own_w hw 236 rfl)) (by decide) (t := .int) (t' := .int) (by decide) (by decide)))).keep Kc3 nin0) (Or.inr (slot_ne (Or.inl (own_w hw 232 rfl)) (Or.inl (own_w hw 234 rfl)) (by decide) (t := .int) (t' := .int) (by decide) (by decide)))).keep Kc6 nin0).keep Kc7 nin0).keep Kc9 nin0).keep Kc10 nin0), ((((Fw5.keep Kc6 nin0).keep Kc7 nin0).keep Kc9 nin0).keep Kc10 nin0), (((((Fld.other W5 (Fw2.keep Kc3 nin0) (Or.inr (slot_ne (Or.inl (own_w hw 236 rfl)) (Or.inl (own_w hw 234 rfl)) (by decide) (t := .int) (t' := .int) (by decide) (by decide)))).keep Kc6 nin0).keep Kc7 nin0).keep Kc9 nin0).keep Kc10 nin0)⟩)
theorem d30_0 : decode prog_30_method_3_code 0 = .ok (.aload_n 0, 1) := by decide +kernel
theorem d30_1 : decode prog_30_method_3_code 1 = .ok (.dup, 1) := by decide +kernel
theorem d30_2 : decode prog_30_method_3_code 2 = .ok (.getfield 91, 3) := by decide +kernel
theorem d30_5 : decode prog_30_method_3_code 5 = .ok (.iconst 1, 1) := by decide +kernel
theorem d30_6 : decode prog_30_method_3_code 6 = .ok (.iadd, 1) := by decide +kernel
theorem d30_7 : decode prog_30_method_3_code 7 = .ok (.putfield 91, 3) := by decide +kernel
theorem d30_10 : decode prog_30_method_3_code 10 = .ok (.return_, 1) := by decide +kernel
theorem pn_30 : plainName "com/example/cartouche/cartouche/checking/Summary" = true := by first | (simp [plainName, overriddenIn]; done) | decide +kernel
theorem ef_unread0_0 (m : MethodId) (x0 : Addr) : entryFrame m #[(.ref x0)] 1 = mkF m 0 #[.val (.ref x0)] [] := by first | (simp [entryFrame, mkF, argsToLocals, Value.category]; done) | rfl
def Q_unread0_0 (Z : State) (a1 : Addr) (h0 : Heap) (n0 : Nat) (v : Option Value) (h : Heap) (L : List Loc) : Prop := v = none ∧ Fr n0 L ∧ Keep h0 h [a1] ∧ Exa Z h a1 "com/example/cartouche/cartouche/checking/Summary" ∧ Fld Z h a1 "com/example/cartouche/cartouche/checking/Summary" "unreadable" "I" (.int (1 : Int32)) ∧ Fld Z h a1 "com/example/cartouche/cartouche/checking/Summary" "conforming" "I" (.int (0 : Int32)) ∧ Fld Z h a1 "com/example/cartouche/cartouche/checking/Summary" "records" "I" (.int (0 : Int32))
set_option maxRecDepth 65536 in
set_option maxHeartbeats 40000000 in
theorem rm_unread0_0 (l : Launch) (Z : State) (a0 : Array Value) (hw : ∀ d ∈ tables_1, d.before a0 Z = true) (ws : List Jvm.Cond) (a1 : Addr) (h0 : Heap) (n0 : Nat) (Z0 : n0 ≤ h0.size) (E_1 : Exa Z h0 a1 "com/example/cartouche/cartouche/checking/Summary") (g_1 : n0 ≤ a1) (IFu : Fld Z h0 a1 "com/example/cartouche/cartouche/checking/Summary" "unreadable" "I" (.int (0 : Int32))) (IFc : Fld Z h0 a1 "com/example/cartouche/cartouche/checking/Summary" "conforming" "I" (.int (0 : Int32))) (IFr : Fld Z h0 a1 "com/example/cartouche/cartouche/checking/Summary" "records" "I" (.int (0 : Int32))) :
    MetFree l (⟨"com/example/cartouche/cartouche/checking/Summary", "countUnreadable", "()V"⟩ : MethodName) (head1 (Jvm.Cond.code (⟨"com/example/cartouche/cartouche/checking/Summary", "countUnreadable", "()V"⟩ : MethodName) prog_30_method_3_code 1 none :: ws) ({ frames := 0, cells := 0, slots := 0, locals := 0 } : Room)) (fun a U => a = #[(.ref a1)] ∧ Z.Warmed39 U.vm ∧ U.heap = h0) (fun _ _ _ _ _ => True) (fun _ U o U' => ∃ v L, o = .returned v ∧ Q_unread0_0 Z a1 h0 n0 v U'.heap L ∧ FrameEnd U o U' L ({ frames := 0, cells := 0, slots := 0, locals := 0 } : Room).cells ({ frames := 0, cells := 0, slots := 0, locals := 0 } : Room).slots) := by
  refine MetFree.of_bodySF (plainFor_of_name pn_30) hisR ?_
  intro p e s m args below meth c s₁ Bd hml0 hP hK
  obtain ⟨rfl, hZ, hh⟩ := hP
  have hx := Bd.exec
  have hby := Bd.bytes
  have hml : c.maxLocals = 1 := hml0
  have hown : s.vm.findClass "com/example/cartouche/cartouche/checking/Summary" = some m.cls := findClass_of_methodNamed Bd.named
  have hnm := (name_of_methodNamed Bd.named Bd.method).1
  have hlk := Bd.notSynchronized
  have hret := Bd.returns
  have X0 : Stand p l e ({ frames := 0, cells := 0, slots := 0, locals := 0 } : Room) s m #[(.ref a1)] below meth c s₁ [] 0 0 := Stand.of_body Bd
  have e0 : s₁.heap = h0 := by rw [← hh, Bd.state]; rfl
  have N0 := Fr.nil n0
  have K0 := Keep.refl h0 [a1]
  refine own_in ({ frames := 0, cells := 0, slots := 0, locals := 0 } : Room).cells ({ frames := 0, cells := 0, slots := 0, locals := 0 } : Room).slots (Q_unread0_0 Z a1 h0 n0) (ef_unread0_0 m a1) ?_
  show own_G p.tables e below _ (s₁.setTop (mkF m 0 #[.val (.ref a1)] []))
  refine own_st (fun _ kS => XS.aloadN X0.here hx rfl (hb hby d30_0) rfl rfl kS) ?_
  refine own_st (fun _ kS => XS.dup X0.here hx rfl (hb hby d30_1) rfl rfl kS) ?_
  show own_G p.tables e below _ (s₁.setTop (mkF m 2 #[.val (.ref a1)] [(.ref a1), (.ref a1)]))
  obtain ⟨T1, X1, e1, st1⟩ := getF X0 hx hZ hown (host := "") (Or.inl (own_w hw 231 rfl)) Via.refl e0 IFu (g := (mkF m 2 #[.val (.ref a1)] [(.ref a1), (.ref a1)])) rfl rfl (hb hby d30_2)
  refine own_st st1 ?_
  show own_G p.tables e below _ (T1.setTop (mkF m 5 #[.val (.ref a1)] [(.int (0 : Int32)), (.ref a1)]))
  refine own_st (fun _ kS => XS.iconst X1.here hx rfl (hb hby d30_5) kS) ?_
  show own_G p.tables e below _ (T1.setTop (mkF m 6 #[.val (.ref a1)] [(.int (1 : Int32)), (.int (0 : Int32)), (.ref a1)]))
  refine own_st (fun _ kS => XS.iadd X1.here hx rfl (hb hby d30_6) rfl kS) ?_
  show own_G p.tables e below _ (T1.setTop (mkF m 7 #[.val (.ref a1)] [(.int (1 : Int32)), (.ref a1)]))
  obtain ⟨T2, h2, X2, e2, W2, st2⟩ := putF X1 hx hZ hown (host := "") (Or.inl (own_w hw 231 rfl)) Via.refl e1 IFu E_1 (Or.inl (own_w hw 232 rfl)) (own_w hw 102 rfl) (ty := .int) (by decide) rfl rfl (g := (mkF m 7 #[.val (.ref a1)] [(.int (1 : Int32)), (.ref a1)])) rfl rfl (hb hby d30_7)
  refine own_st st2 ?_
  have N2 := Fr.snoc X2 N0 g_1
  have K2 := K0.wr W2 (Or.inl (List.mem_of_getElem? (i := 0) rfl))
  have Fw2 := Fld.same W2 IFu
  show own_G p.tables e below _ (T2.setTop (mkF m 10 #[.val (.ref a1)] []))
  exact own_retV X2 hx hlk hret (hb hby d30_10) (by decide) (by decide) (by rw [e2]; exact ⟨rfl, N2, K2, (Exa.wr W2 E_1), Fw2, (Fld.other W2 IFc (Or.inr (slot_ne (Or.inl (own_w hw 234 rfl)) (Or.inl (own_w hw 232 rfl)) (by decide) (t := .int) (t' := .int) (by decide) (by decide)))), (Fld.other W2 IFr (Or.inr (slot_ne (Or.inl (own_w hw 236 rfl)) (Or.inl (own_w hw 232 rfl)) (by decide) (t := .int) (t' := .int) (by decide) (by decide))))⟩)
theorem ef_unread0_1 (m : MethodId) (x0 : Addr) : entryFrame m #[(.ref x0)] 1 = mkF m 0 #[.val (.ref x0)] [] := by first | (simp [entryFrame, mkF, argsToLocals, Value.category]; done) | rfl
def Q_unread0_1 (Z : State) (a1 : Addr) (h0 : Heap) (n0 : Nat) (v : Option Value) (h : Heap) (L : List Loc) : Prop := v = none ∧ Fr n0 L ∧ Keep h0 h [a1] ∧ Exa Z h a1 "com/example/cartouche/cartouche/checking/Summary" ∧ Fld Z h a1 "com/example/cartouche/cartouche/checking/Summary" "unreadable" "I" (.int (1 : Int32)) ∧ Fld Z h a1 "com/example/cartouche/cartouche/checking/Summary" "conforming" "I" (.int (1 : Int32)) ∧ Fld Z h a1 "com/example/cartouche/cartouche/checking/Summary" "records" "I" (.int (1 : Int32))
set_option maxRecDepth 65536 in
set_option maxHeartbeats 40000000 in
theorem rm_unread0_1 (l : Launch) (Z : State) (a0 : Array Value) (hw : ∀ d ∈ tables_1, d.before a0 Z = true) (ws : List Jvm.Cond) (a1 : Addr) (h0 : Heap) (n0 : Nat) (Z0 : n0 ≤ h0.size) (E_1 : Exa Z h0 a1 "com/example/cartouche/cartouche/checking/Summary") (g_1 : n0 ≤ a1) (IFu : Fld Z h0 a1 "com/example/cartouche/cartouche/checking/Summary" "unreadable" "I" (.int (0 : Int32))) (IFc : Fld Z h0 a1 "com/example/cartouche/cartouche/checking/Summary" "conforming" "I" (.int (1 : Int32))) (IFr : Fld Z h0 a1 "com/example/cartouche/cartouche/checking/Summary" "records" "I" (.int (1 : Int32))) :
    MetFree l (⟨"com/example/cartouche/cartouche/checking/Summary", "countUnreadable", "()V"⟩ : MethodName) (head1 (Jvm.Cond.code (⟨"com/example/cartouche/cartouche/checking/Summary", "countUnreadable", "()V"⟩ : MethodName) prog_30_method_3_code 1 none :: ws) ({ frames := 0, cells := 0, slots := 0, locals := 0 } : Room)) (fun a U => a = #[(.ref a1)] ∧ Z.Warmed39 U.vm ∧ U.heap = h0) (fun _ _ _ _ _ => True) (fun _ U o U' => ∃ v L, o = .returned v ∧ Q_unread0_1 Z a1 h0 n0 v U'.heap L ∧ FrameEnd U o U' L ({ frames := 0, cells := 0, slots := 0, locals := 0 } : Room).cells ({ frames := 0, cells := 0, slots := 0, locals := 0 } : Room).slots) := by
  refine MetFree.of_bodySF (plainFor_of_name pn_30) hisR ?_
  intro p e s m args below meth c s₁ Bd hml0 hP hK
  obtain ⟨rfl, hZ, hh⟩ := hP
  have hx := Bd.exec
  have hby := Bd.bytes
  have hml : c.maxLocals = 1 := hml0
  have hown : s.vm.findClass "com/example/cartouche/cartouche/checking/Summary" = some m.cls := findClass_of_methodNamed Bd.named
  have hnm := (name_of_methodNamed Bd.named Bd.method).1
  have hlk := Bd.notSynchronized
  have hret := Bd.returns
  have X0 : Stand p l e ({ frames := 0, cells := 0, slots := 0, locals := 0 } : Room) s m #[(.ref a1)] below meth c s₁ [] 0 0 := Stand.of_body Bd
  have e0 : s₁.heap = h0 := by rw [← hh, Bd.state]; rfl
  have N0 := Fr.nil n0
  have K0 := Keep.refl h0 [a1]
  refine own_in ({ frames := 0, cells := 0, slots := 0, locals := 0 } : Room).cells ({ frames := 0, cells := 0, slots := 0, locals := 0 } : Room).slots (Q_unread0_1 Z a1 h0 n0) (ef_unread0_1 m a1) ?_
  show own_G p.tables e below _ (s₁.setTop (mkF m 0 #[.val (.ref a1)] []))
  refine own_st (fun _ kS => XS.aloadN X0.here hx rfl (hb hby d30_0) rfl rfl kS) ?_
  refine own_st (fun _ kS => XS.dup X0.here hx rfl (hb hby d30_1) rfl rfl kS) ?_
  show own_G p.tables e below _ (s₁.setTop (mkF m 2 #[.val (.ref a1)] [(.ref a1), (.ref a1)]))
  obtain ⟨T1, X1, e1, st1⟩ := getF X0 hx hZ hown (host := "") (Or.inl (own_w hw 231 rfl)) Via.refl e0 IFu (g := (mkF m 2 #[.val (.ref a1)] [(.ref a1), (.ref a1)])) rfl rfl (hb hby d30_2)
  refine own_st st1 ?_
  show own_G p.tables e below _ (T1.setTop (mkF m 5 #[.val (.ref a1)] [(.int (0 : Int32)), (.ref a1)]))
  refine own_st (fun _ kS => XS.iconst X1.here hx rfl (hb hby d30_5) kS) ?_
  show own_G p.tables e below _ (T1.setTop (mkF m 6 #[.val (.ref a1)] [(.int (1 : Int32)), (.int (0 : Int32)), (.ref a1)]))
  refine own_st (fun _ kS => XS.iadd X1.here hx rfl (hb hby d30_6) rfl kS) ?_
  show own_G p.tables e below _ (T1.setTop (mkF m 7 #[.val (.ref a1)] [(.int (1 : Int32)), (.ref a1)]))
  obtain ⟨T2, h2, X2, e2, W2, st2⟩ := putF X1 hx hZ hown (host := "") (Or.inl (own_w hw 231 rfl)) Via.refl e1 IFu E_1 (Or.inl (own_w hw 232 rfl)) (own_w hw 102 rfl) (ty := .int) (by decide) rfl rfl (g := (mkF m 7 #[.val (.ref a1)] [(.int (1 : Int32)), (.ref a1)])) rfl rfl (hb hby d30_7)
  refine own_st st2 ?_
  have N2 := Fr.snoc X2 N0 g_1
  have K2 := K0.wr W2 (Or.inl (List.mem_of_getElem? (i := 0) rfl))
  have Fw2 := Fld.same W2 IFu
  show own_G p.tables e below _ (T2.setTop (mkF m 10 #[.val (.ref a1)] []))
  exact own_retV X2 hx hlk hret (hb hby d30_10) (by decide) (by decide) (by rw [e2]; exact ⟨rfl, N2, K2, (Exa.wr W2 E_1), Fw2, (Fld.other W2 IFc (Or.inr (slot_ne (Or.inl (own_w hw 234 rfl)) (Or.inl (own_w hw 232 rfl)) (by decide) (t := .int) (t' := .int) (by decide) (by decide)))), (Fld.other W2 IFr (Or.inr (slot_ne (Or.inl (own_w hw 236 rfl)) (Or.inl (own_w hw 232 rfl)) (by decide) (t := .int) (t' := .int) (by decide) (by decide))))⟩)
theorem ef_unread0_2 (m : MethodId) (x0 : Addr) : entryFrame m #[(.ref x0)] 1 = mkF m 0 #[.val (.ref x0)] [] := by first | (simp [entryFrame, mkF, argsToLocals, Value.category]; done) | rfl
def Q_unread0_2 (Z : State) (a1 : Addr) (h0 : Heap) (n0 : Nat) (v : Option Value) (h : Heap) (L : List Loc) : Prop := v = none ∧ Fr n0 L ∧ Keep h0 h [a1] ∧ Exa Z h a1 "com/example/cartouche/cartouche/checking/Summary" ∧ Fld Z h a1 "com/example/cartouche/cartouche/checking/Summary" "unreadable" "I" (.int (1 : Int32)) ∧ Fld Z h a1 "com/example/cartouche/cartouche/checking/Summary" "conforming" "I" (.int (2 : Int32)) ∧ Fld Z h a1 "com/example/cartouche/cartouche/checking/Summary" "records" "I" (.int (2 : Int32))
set_option maxRecDepth 65536 in
set_option maxHeartbeats 40000000 in
theorem rm_unread0_2 (l : Launch) (Z : State) (a0 : Array Value) (hw : ∀ d ∈ tables_1, d.before a0 Z = true) (ws : List Jvm.Cond) (a1 : Addr) (h0 : Heap) (n0 : Nat) (Z0 : n0 ≤ h0.size) (E_1 : Exa Z h0 a1 "com/example/cartouche/cartouche/checking/Summary") (g_1 : n0 ≤ a1) (IFu : Fld Z h0 a1 "com/example/cartouche/cartouche/checking/Summary" "unreadable" "I" (.int (0 : Int32))) (IFc : Fld Z h0 a1 "com/example/cartouche/cartouche/checking/Summary" "conforming" "I" (.int (2 : Int32))) (IFr : Fld Z h0 a1 "com/example/cartouche/cartouche/checking/Summary" "records" "I" (.int (2 : Int32))) :
    MetFree l (⟨"com/example/cartouche/cartouche/checking/Summary", "countUnreadable", "()V"⟩ : MethodName) (head1 (Jvm.Cond.code (⟨"com/example/cartouche/cartouche/checking/Summary", "countUnreadable", "()V"⟩ : MethodName) prog_30_method_3_code 1 none :: ws) ({ frames := 0, cells := 0, slots := 0, locals := 0 } : Room)) (fun a U => a = #[(.ref a1)] ∧ Z.Warmed39 U.vm ∧ U.heap = h0) (fun _ _ _ _ _ => True) (fun _ U o U' => ∃ v L, o = .returned v ∧ Q_unread0_2 Z a1 h0 n0 v U'.heap L ∧ FrameEnd U o U' L ({ frames := 0, cells := 0, slots := 0, locals := 0 } : Room).cells ({ frames := 0, cells := 0, slots := 0, locals := 0 } : Room).slots) := by
  refine MetFree.of_bodySF (plainFor_of_name pn_30) hisR ?_
  intro p e s m args below meth c s₁ Bd hml0 hP hK
  obtain ⟨rfl, hZ, hh⟩ := hP
  have hx := Bd.exec
  have hby := Bd.bytes
  have hml : c.maxLocals = 1 := hml0
  have hown : s.vm.findClass "com/example/cartouche/cartouche/checking/Summary" = some m.cls := findClass_of_methodNamed Bd.named
  have hnm := (name_of_methodNamed Bd.named Bd.method).1
  have hlk := Bd.notSynchronized
  have hret := Bd.returns
  have X0 : Stand p l e ({ frames := 0, cells := 0, slots := 0, locals := 0 } : Room) s m #[(.ref a1)] below meth c s₁ [] 0 0 := Stand.of_body Bd
  have e0 : s₁.heap = h0 := by rw [← hh, Bd.state]; rfl
  have N0 := Fr.nil n0
  have K0 := Keep.refl h0 [a1]
  refine own_in ({ frames := 0, cells := 0, slots := 0, locals := 0 } : Room).cells ({ frames := 0, cells := 0, slots := 0, locals := 0 } : Room).slots (Q_unread0_2 Z a1 h0 n0) (ef_unread0_2 m a1) ?_
  show own_G p.tables e below _ (s₁.setTop (mkF m 0 #[.val (.ref a1)] []))
  refine own_st (fun _ kS => XS.aloadN X0.here hx rfl (hb hby d30_0) rfl rfl kS) ?_
  refine own_st (fun _ kS => XS.dup X0.here hx rfl (hb hby d30_1) rfl rfl kS) ?_
  show own_G p.tables e below _ (s₁.setTop (mkF m 2 #[.val (.ref a1)] [(.ref a1), (.ref a1)]))
  obtain ⟨T1, X1, e1, st1⟩ := getF X0 hx hZ hown (host := "") (Or.inl (own_w hw 231 rfl)) Via.refl e0 IFu (g := (mkF m 2 #[.val (.ref a1)] [(.ref a1), (.ref a1)])) rfl rfl (hb hby d30_2)
  refine own_st st1 ?_
  show own_G p.tables e below _ (T1.setTop (mkF m 5 #[.val (.ref a1)] [(.int (0 : Int32)), (.ref a1)]))
  refine own_st (fun _ kS => XS.iconst X1.here hx rfl (hb hby d30_5) kS) ?_
  show own_G p.tables e below _ (T1.setTop (mkF m 6 #[.val (.ref a1)] [(.int (1 : Int32)), (.int (0 : Int32)), (.ref a1)]))
  refine own_st (fun _ kS => XS.iadd X1.here hx rfl (hb hby d30_6) rfl kS) ?_
  show own_G p.tables e below _ (T1.setTop (mkF m 7 #[.val (.ref a1)] [(.int (1 : Int32)), (.ref a1)]))
  obtain ⟨T2, h2, X2, e2, W2, st2⟩ := putF X1 hx hZ hown (host := "") (Or.inl (own_w hw 231 rfl)) Via.refl e1 IFu E_1 (Or.inl (own_w hw 232 rfl)) (own_w hw 102 rfl) (ty := .int) (by decide) rfl rfl (g := (mkF m 7 #[.val (.ref a1)] [(.int (1 : Int32)), (.ref a1)])) rfl rfl (hb hby d30_7)
  refine own_st st2 ?_
  have N2 := Fr.snoc X2 N0 g_1
  have K2 := K0.wr W2 (Or.inl (List.mem_of_getElem? (i := 0) rfl))
  have Fw2 := Fld.same W2 IFu
  show own_G p.tables e below _ (T2.setTop (mkF m 10 #[.val (.ref a1)] []))
  exact own_retV X2 hx hlk hret (hb hby d30_10) (by decide) (by decide) (by rw [e2]; exact ⟨rfl, N2, K2, (Exa.wr W2 E_1), Fw2, (Fld.other W2 IFc (Or.inr (slot_ne (Or.inl (own_w hw 234 rfl)) (Or.inl (own_w hw 232 rfl)) (by decide) (t := .int) (t' := .int) (by decide) (by decide)))), (Fld.other W2 IFr (Or.inr (slot_ne (Or.inl (own_w hw 236 rfl)) (Or.inl (own_w hw 232 rfl)) (by decide) (t := .int) (t' := .int) (by decide) (by decide))))⟩)
theorem ef_unread1_0 (m : MethodId) (x0 : Addr) : entryFrame m #[(.ref x0)] 1 = mkF m 0 #[.val (.ref x0)] [] := by first | (simp [entryFrame, mkF, argsToLocals, Value.category]; done) | rfl
def Q_unread1_0 (Z : State) (a1 : Addr) (h0 : Heap) (n0 : Nat) (v : Option Value) (h : Heap) (L : List Loc) : Prop := v = none ∧ Fr n0 L ∧ Keep h0 h [a1] ∧ Exa Z h a1 "com/example/cartouche/cartouche/checking/Summary" ∧ Fld Z h a1 "com/example/cartouche/cartouche/checking/Summary" "unreadable" "I" (.int (2 : Int32)) ∧ Fld Z h a1 "com/example/cartouche/cartouche/checking/Summary" "conforming" "I" (.int (0 : Int32)) ∧ Fld Z h a1 "com/example/cartouche/cartouche/checking/Summary" "records" "I" (.int (0 : Int32))
set_option maxRecDepth 65536 in
set_option maxHeartbeats 40000000 in
theorem rm_unread1_0 (l : Launch) (Z : State) (a0 : Array Value) (hw : ∀ d ∈ tables_1, d.before a0 Z = true) (ws : List Jvm.Cond) (a1 : Addr) (h0 : Heap) (n0 : Nat) (Z0 : n0 ≤ h0.size) (E_1 : Exa Z h0 a1 "com/example/cartouche/cartouche/checking/Summary") (g_1 : n0 ≤ a1) (IFu : Fld Z h0 a1 "com/example/cartouche/cartouche/checking/Summary" "unreadable" "I" (.int (1 : Int32))) (IFc : Fld Z h0 a1 "com/example/cartouche/cartouche/checking/Summary" "conforming" "I" (.int (0 : Int32))) (IFr : Fld Z h0 a1 "com/example/cartouche/cartouche/checking/Summary" "records" "I" (.int (0 : Int32))) :
    MetFree l (⟨"com/example/cartouche/cartouche/checking/Summary", "countUnreadable", "()V"⟩ : MethodName) (head1 (Jvm.Cond.code (⟨"com/example/cartouche/cartouche/checking/Summary", "countUnreadable", "()V"⟩ : MethodName) prog_30_method_3_code 1 none :: ws) ({ frames := 0, cells := 0, slots := 0, locals := 0 } : Room)) (fun a U => a = #[(.ref a1)] ∧ Z.Warmed39 U.vm ∧ U.heap = h0) (fun _ _ _ _ _ => True) (fun _ U o U' => ∃ v L, o = .returned v ∧ Q_unread1_0 Z a1 h0 n0 v U'.heap L ∧ FrameEnd U o U' L ({ frames := 0, cells := 0, slots := 0, locals := 0 } : Room).cells ({ frames := 0, cells := 0, slots := 0, locals := 0 } : Room).slots) := by
  refine MetFree.of_bodySF (plainFor_of_name pn_30) hisR ?_
  intro p e s m args below meth c s₁ Bd hml0 hP hK
  obtain ⟨rfl, hZ, hh⟩ := hP
  have hx := Bd.exec
  have hby := Bd.bytes
  have hml : c.maxLocals = 1 := hml0
  have hown : s.vm.findClass "com/example/cartouche/cartouche/checking/Summary" = some m.cls := findClass_of_methodNamed Bd.named
  have hnm := (name_of_methodNamed Bd.named Bd.method).1
  have hlk := Bd.notSynchronized
  have hret := Bd.returns
  have X0 : Stand p l e ({ frames := 0, cells := 0, slots := 0, locals := 0 } : Room) s m #[(.ref a1)] below meth c s₁ [] 0 0 := Stand.of_body Bd
  have e0 : s₁.heap = h0 := by rw [← hh, Bd.state]; rfl
  have N0 := Fr.nil n0
  have K0 := Keep.refl h0 [a1]
  refine own_in ({ frames := 0, cells := 0, slots := 0, locals := 0 } : Room).cells ({ frames := 0, cells := 0, slots := 0, locals := 0 } : Room).slots (Q_unread1_0 Z a1 h0 n0) (ef_unread1_0 m a1) ?_
  show own_G p.tables e below _ (s₁.setTop (mkF m 0 #[.val (.ref a1)] []))
  refine own_st (fun _ kS => XS.aloadN X0.here hx rfl (hb hby d30_0) rfl rfl kS) ?_
  refine own_st (fun _ kS => XS.dup X0.here hx rfl (hb hby d30_1) rfl rfl kS) ?_
  show own_G p.tables e below _ (s₁.setTop (mkF m 2 #[.val (.ref a1)] [(.ref a1), (.ref a1)]))
  obtain ⟨T1, X1, e1, st1⟩ := getF X0 hx hZ hown (host := "") (Or.inl (own_w hw 231 rfl)) Via.refl e0 IFu (g := (mkF m 2 #[.val (.ref a1)] [(.ref a1), (.ref a1)])) rfl rfl (hb hby d30_2)
  refine own_st st1 ?_
  show own_G p.tables e below _ (T1.setTop (mkF m 5 #[.val (.ref a1)] [(.int (1 : Int32)), (.ref a1)]))
  refine own_st (fun _ kS => XS.iconst X1.here hx rfl (hb hby d30_5) kS) ?_
  show own_G p.tables e below _ (T1.setTop (mkF m 6 #[.val (.ref a1)] [(.int (1 : Int32)), (.int (1 : Int32)), (.ref a1)]))
  refine own_st (fun _ kS => XS.iadd X1.here hx rfl (hb hby d30_6) rfl kS) ?_
  show own_G p.tables e below _ (T1.setTop (mkF m 7 #[.val (.ref a1)] [(.int (2 : Int32)), (.ref a1)]))
  obtain ⟨T2, h2, X2, e2, W2, st2⟩ := putF X1 hx hZ hown (host := "") (Or.inl (own_w hw 231 rfl)) Via.refl e1 IFu E_1 (Or.inl (own_w hw 232 rfl)) (own_w hw 102 rfl) (ty := .int) (by decide) rfl rfl (g := (mkF m 7 #[.val (.ref a1)] [(.int (2 : Int32)), (.ref a1)])) rfl rfl (hb hby d30_7)
  refine own_st st2 ?_
  have N2 := Fr.snoc X2 N0 g_1
  have K2 := K0.wr W2 (Or.inl (List.mem_of_getElem? (i := 0) rfl))
  have Fw2 := Fld.same W2 IFu
  show own_G p.tables e below _ (T2.setTop (mkF m 10 #[.val (.ref a1)] []))
  exact own_retV X2 hx hlk hret (hb hby d30_10) (by decide) (by decide) (by rw [e2]; exact ⟨rfl, N2, K2, (Exa.wr W2 E_1), Fw2, (Fld.other W2 IFc (Or.inr (slot_ne (Or.inl (own_w hw 234 rfl)) (Or.inl (own_w hw 232 rfl)) (by decide) (t := .int) (t' := .int) (by decide) (by decide)))), (Fld.other W2 IFr (Or.inr (slot_ne (Or.inl (own_w hw 236 rfl)) (Or.inl (own_w hw 232 rfl)) (by decide) (t := .int) (t' := .int) (by decide) (by decide))))⟩)
theorem ef_unread1_1 (m : MethodId) (x0 : Addr) : entryFrame m #[(.ref x0)] 1 = mkF m 0 #[.val (.ref x0)] [] := by first | (simp [entryFrame, mkF, argsToLocals, Value.category]; done) | rfl
def Q_unread1_1 (Z : State) (a1 : Addr) (h0 : Heap) (n0 : Nat) (v : Option Value) (h : Heap) (L : List Loc) : Prop := v = none ∧ Fr n0 L ∧ Keep h0 h [a1] ∧ Exa Z h a1 "com/example/cartouche/cartouche/checking/Summary" ∧ Fld Z h a1 "com/example/cartouche/cartouche/checking/Summary" "unreadable" "I" (.int (2 : Int32)) ∧ Fld Z h a1 "com/example/cartouche/cartouche/checking/Summary" "conforming" "I" (.int (1 : Int32)) ∧ Fld Z h a1 "com/example/cartouche/cartouche/checking/Summary" "records" "I" (.int (1 : Int32))
set_option maxRecDepth 65536 in
set_option maxHeartbeats 40000000 in
theorem rm_unread1_1 (l : Launch) (Z : State) (a0 : Array Value) (hw : ∀ d ∈ tables_1, d.before a0 Z = true) (ws : List Jvm.Cond) (a1 : Addr) (h0 : Heap) (n0 : Nat) (Z0 : n0 ≤ h0.size) (E_1 : Exa Z h0 a1 "com/example/cartouche/cartouche/checking/Summary") (g_1 : n0 ≤ a1) (IFu : Fld Z h0 a1 "com/example/cartouche/cartouche/checking/Summary" "unreadable" "I" (.int (1 : Int32))) (IFc : Fld Z h0 a1 "com/example/cartouche/cartouche/checking/Summary" "conforming" "I" (.int (1 : Int32))) (IFr : Fld Z h0 a1 "com/example/cartouche/cartouche/checking/Summary" "records" "I" (.int (1 : Int32))) :
    MetFree l (⟨"com/example/cartouche/cartouche/checking/Summary", "countUnreadable", "()V"⟩ : MethodName) (head1 (Jvm.Cond.code (⟨"com/example/cartouche/cartouche/checking/Summary", "countUnreadable", "()V"⟩ : MethodName) prog_30_method_3_code 1 none :: ws) ({ frames := 0, cells := 0, slots := 0, locals := 0 } : Room)) (fun a U => a = #[(.ref a1)] ∧ Z.Warmed39 U.vm ∧ U.heap = h0) (fun _ _ _ _ _ => True) (fun _ U o U' => ∃ v L, o = .returned v ∧ Q_unread1_1 Z a1 h0 n0 v U'.heap L ∧ FrameEnd U o U' L ({ frames := 0, cells := 0, slots := 0, locals := 0 } : Room).cells ({ frames := 0, cells := 0, slots := 0, locals := 0 } : Room).slots) := by
  refine MetFree.of_bodySF (plainFor_of_name pn_30) hisR ?_
  intro p e s m args below meth c s₁ Bd hml0 hP hK
  obtain ⟨rfl, hZ, hh⟩ := hP
  have hx := Bd.exec
  have hby := Bd.bytes
  have hml : c.maxLocals = 1 := hml0
  have hown : s.vm.findClass "com/example/cartouche/cartouche/checking/Summary" = some m.cls := findClass_of_methodNamed Bd.named
  have hnm := (name_of_methodNamed Bd.named Bd.method).1
  have hlk := Bd.notSynchronized
  have hret := Bd.returns
  have X0 : Stand p l e ({ frames := 0, cells := 0, slots := 0, locals := 0 } : Room) s m #[(.ref a1)] below meth c s₁ [] 0 0 := Stand.of_body Bd
  have e0 : s₁.heap = h0 := by rw [← hh, Bd.state]; rfl
  have N0 := Fr.nil n0
  have K0 := Keep.refl h0 [a1]
  refine own_in ({ frames := 0, cells := 0, slots := 0, locals := 0 } : Room).cells ({ frames := 0, cells := 0, slots := 0, locals := 0 } : Room).slots (Q_unread1_1 Z a1 h0 n0) (ef_unread1_1 m a1) ?_
  show own_G p.tables e below _ (s₁.setTop (mkF m 0 #[.val (.ref a1)] []))
  refine own_st (fun _ kS => XS.aloadN X0.here hx rfl (hb hby d30_0) rfl rfl kS) ?_
  refine own_st (fun _ kS => XS.dup X0.here hx rfl (hb hby d30_1) rfl rfl kS) ?_
  show own_G p.tables e below _ (s₁.setTop (mkF m 2 #[.val (.ref a1)] [(.ref a1), (.ref a1)]))
  obtain ⟨T1, X1, e1, st1⟩ := getF X0 hx hZ hown (host := "") (Or.inl (own_w hw 231 rfl)) Via.refl e0 IFu (g := (mkF m 2 #[.val (.ref a1)] [(.ref a1), (.ref a1)])) rfl rfl (hb hby d30_2)
  refine own_st st1 ?_
  show own_G p.tables e below _ (T1.setTop (mkF m 5 #[.val (.ref a1)] [(.int (1 : Int32)), (.ref a1)]))
  refine own_st (fun _ kS => XS.iconst X1.here hx rfl (hb hby d30_5) kS) ?_
  show own_G p.tables e below _ (T1.setTop (mkF m 6 #[.val (.ref a1)] [(.int (1 : Int32)), (.int (1 : Int32)), (.ref a1)]))
  refine own_st (fun _ kS => XS.iadd X1.here hx rfl (hb hby d30_6) rfl kS) ?_
  show own_G p.tables e below _ (T1.setTop (mkF m 7 #[.val (.ref a1)] [(.int (2 : Int32)), (.ref a1)]))
  obtain ⟨T2, h2, X2, e2, W2, st2⟩ := putF X1 hx hZ hown (host := "") (Or.inl (own_w hw 231 rfl)) Via.refl e1 IFu E_1 (Or.inl (own_w hw 232 rfl)) (own_w hw 102 rfl) (ty := .int) (by decide) rfl rfl (g := (mkF m 7 #[.val (.ref a1)] [(.int (2 : Int32)), (.ref a1)])) rfl rfl (hb hby d30_7)
  refine own_st st2 ?_
  have N2 := Fr.snoc X2 N0 g_1
  have K2 := K0.wr W2 (Or.inl (List.mem_of_getElem? (i := 0) rfl))
  have Fw2 := Fld.same W2 IFu
  show own_G p.tables e below _ (T2.setTop (mkF m 10 #[.val (.ref a1)] []))
  exact own_retV X2 hx hlk hret (hb hby d30_10) (by decide) (by decide) (by rw [e2]; exact ⟨rfl, N2, K2, (Exa.wr W2 E_1), Fw2, (Fld.other W2 IFc (Or.inr (slot_ne (Or.inl (own_w hw 234 rfl)) (Or.inl (own_w hw 232 rfl)) (by decide) (t := .int) (t' := .int) (by decide) (by decide)))), (Fld.other W2 IFr (Or.inr (slot_ne (Or.inl (own_w hw 236 rfl)) (Or.inl (own_w hw 232 rfl)) (by decide) (t := .int) (t' := .int) (by decide) (by decide))))⟩)
theorem ef_unread1_2 (m : MethodId) (x0 : Addr) : entryFrame m #[(.ref x0)] 1 = mkF m 0 #[.val (.ref x0)] [] := by first | (simp [entryFrame, mkF, argsToLocals, Value.category]; done) | rfl
def Q_unread1_2 (Z : State) (a1 : Addr) (h0 : Heap) (n0 : Nat) (v : Option Value) (h : Heap) (L : List Loc) : Prop := v = none ∧ Fr n0 L ∧ Keep h0 h [a1] ∧ Exa Z h a1 "com/example/cartouche/cartouche/checking/Summary" ∧ Fld Z h a1 "com/example/cartouche/cartouche/checking/Summary" "unreadable" "I" (.int (2 : Int32)) ∧ Fld Z h a1 "com/example/cartouche/cartouche/checking/Summary" "conforming" "I" (.int (2 : Int32)) ∧ Fld Z h a1 "com/example/cartouche/cartouche/checking/Summary" "records" "I" (.int (2 : Int32))
set_option maxRecDepth 65536 in
set_option maxHeartbeats 40000000 in
theorem rm_unread1_2 (l : Launch) (Z : State) (a0 : Array Value) (hw : ∀ d ∈ tables_1, d.before a0 Z = true) (ws : List Jvm.Cond) (a1 : Addr) (h0 : Heap) (n0 : Nat) (Z0 : n0 ≤ h0.size) (E_1 : Exa Z h0 a1 "com/example/cartouche/cartouche/checking/Summary") (g_1 : n0 ≤ a1) (IFu : Fld Z h0 a1 "com/example/cartouche/cartouche/checking/Summary" "unreadable" "I" (.int (1 : Int32))) (IFc : Fld Z h0 a1 "com/example/cartouche/cartouche/checking/Summary" "conforming" "I" (.int (2 : Int32))) (IFr : Fld Z h0 a1 "com/example/cartouche/cartouche/checking/Summary" "records" "I" (.int (2 : Int32))) :
    MetFree l (⟨"com/example/cartouche/cartouche/checking/Summary", "countUnreadable", "()V"⟩ : MethodName) (head1 (Jvm.Cond.code (⟨"com/example/cartouche/cartouche/checking/Summary", "countUnreadable", "()V"⟩ : MethodName) prog_30_method_3_code 1 none :: ws) ({ frames := 0, cells := 0, slots := 0, locals := 0 } : Room)) (fun a U => a = #[(.ref a1)] ∧ Z.Warmed39 U.vm ∧ U.heap = h0) (fun _ _ _ _ _ => True) (fun _ U o U' => ∃ v L, o = .returned v ∧ Q_unread1_2 Z a1 h0 n0 v U'.heap L ∧ FrameEnd U o U' L ({ frames := 0, cells := 0, slots := 0, locals := 0 } : Room).cells ({ frames := 0, cells := 0, slots := 0, locals := 0 } : Room).slots) := by
  refine MetFree.of_bodySF (plainFor_of_name pn_30) hisR ?_
  intro p e s m args below meth c s₁ Bd hml0 hP hK
  obtain ⟨rfl, hZ, hh⟩ := hP
  have hx := Bd.exec
  have hby := Bd.bytes
  have hml : c.maxLocals = 1 := hml0
  have hown : s.vm.findClass "com/example/cartouche/cartouche/checking/Summary" = some m.cls := findClass_of_methodNamed Bd.named
  have hnm := (name_of_methodNamed Bd.named Bd.method).1
  have hlk := Bd.notSynchronized
  have hret := Bd.returns
  have X0 : Stand p l e ({ frames := 0, cells := 0, slots := 0, locals := 0 } : Room) s m #[(.ref a1)] below meth c s₁ [] 0 0 := Stand.of_body Bd
  have e0 : s₁.heap = h0 := by rw [← hh, Bd.state]; rfl
  have N0 := Fr.nil n0
  have K0 := Keep.refl h0 [a1]
  refine own_in ({ frames := 0, cells := 0, slots := 0, locals := 0 } : Room).cells ({ frames := 0, cells := 0, slots := 0, locals := 0 } : Room).slots (Q_unread1_2 Z a1 h0 n0) (ef_unread1_2 m a1) ?_
  show own_G p.tables e below _ (s₁.setTop (mkF m 0 #[.val (.ref a1)] []))
  refine own_st (fun _ kS => XS.aloadN X0.here hx rfl (hb hby d30_0) rfl rfl kS) ?_
  refine own_st (fun _ kS => XS.dup X0.here hx rfl (hb hby d30_1) rfl rfl kS) ?_
  show own_G p.tables e below _ (s₁.setTop (mkF m 2 #[.val (.ref a1)] [(.ref a1), (.ref a1)]))
  obtain ⟨T1, X1, e1, st1⟩ := getF X0 hx hZ hown (host := "") (Or.inl (own_w hw 231 rfl)) Via.refl e0 IFu (g := (mkF m 2 #[.val (.ref a1)] [(.ref a1), (.ref a1)])) rfl rfl (hb hby d30_2)
  refine own_st st1 ?_
  show own_G p.tables e below _ (T1.setTop (mkF m 5 #[.val (.ref a1)] [(.int (1 : Int32)), (.ref a1)]))
  refine own_st (fun _ kS => XS.iconst X1.here hx rfl (hb hby d30_5) kS) ?_
  show own_G p.tables e below _ (T1.setTop (mkF m 6 #[.val (.ref a1)] [(.int (1 : Int32)), (.int (1 : Int32)), (.ref a1)]))
  refine own_st (fun _ kS => XS.iadd X1.here hx rfl (hb hby d30_6) rfl kS) ?_
  show own_G p.tables e below _ (T1.setTop (mkF m 7 #[.val (.ref a1)] [(.int (2 : Int32)), (.ref a1)]))
  obtain ⟨T2, h2, X2, e2, W2, st2⟩ := putF X1 hx hZ hown (host := "") (Or.inl (own_w hw 231 rfl)) Via.refl e1 IFu E_1 (Or.inl (own_w hw 232 rfl)) (own_w hw 102 rfl) (ty := .int) (by decide) rfl rfl (g := (mkF m 7 #[.val (.ref a1)] [(.int (2 : Int32)), (.ref a1)])) rfl rfl (hb hby d30_7)
  refine own_st st2 ?_
  have N2 := Fr.snoc X2 N0 g_1
  have K2 := K0.wr W2 (Or.inl (List.mem_of_getElem? (i := 0) rfl))
  have Fw2 := Fld.same W2 IFu
  show own_G p.tables e below _ (T2.setTop (mkF m 10 #[.val (.ref a1)] []))
  exact own_retV X2 hx hlk hret (hb hby d30_10) (by decide) (by decide) (by rw [e2]; exact ⟨rfl, N2, K2, (Exa.wr W2 E_1), Fw2, (Fld.other W2 IFc (Or.inr (slot_ne (Or.inl (own_w hw 234 rfl)) (Or.inl (own_w hw 232 rfl)) (by decide) (t := .int) (t' := .int) (by decide) (by decide)))), (Fld.other W2 IFr (Or.inr (slot_ne (Or.inl (own_w hw 236 rfl)) (Or.inl (own_w hw 232 rfl)) (by decide) (t := .int) (t' := .int) (by decide) (by decide))))⟩)
theorem pn_0 : plainName "com/example/cartouche/cartouche/checking/SummaryPassedPinLaw" = true := by first | (simp [plainName, overriddenIn]; done) | decide +kernel
def Q_law (n0 : Nat) (v : Option Value) (h : Heap) (L : List Loc) : Prop := v = some (.int (1 : Int32)) ∧ Fr n0 L
theorem own_pd10 : parseMethodDescriptor "(Ljava/lang/String;Ljava/util/List;)V" = some ⟨[(.object "java/lang/String"), (.object "java/util/List")], none⟩ := by decide +kernel
theorem own_pd11 : parseMethodDescriptor "(Ljava/util/OptionalInt;Ljava/util/List;)V" = some ⟨[(.object "java/util/OptionalInt"), (.object "java/util/List")], none⟩ := by decide +kernel
theorem own_pd12 : parseMethodDescriptor "(Lcom/example/cartouche/cartouche/checking/Profile;)V" = some ⟨[(.object "com/example/cartouche/cartouche/checking/Profile")], none⟩ := by decide +kernel
theorem own_pd13 : parseMethodDescriptor "(Lcom/example/cartouche/cartouche/checking/Verdict;)V" = some ⟨[(.object "com/example/cartouche/cartouche/checking/Verdict")], none⟩ := by decide +kernel
theorem ef_law (m : MethodId) (x0 : Int32) (x1 : Int32) : entryFrame m #[(.int x0), (.int x1)] maxLocals = mkF m 0 #[.val (.int x0), .val (.int x1), .unset, .unset, .unset, .unset, .unset, .unset, .unset] [] := by first | (simp [entryFrame, mkF, argsToLocals, Value.category, maxLocals]; done) | rfl
set_option maxRecDepth 65536 in
set_option maxHeartbeats 40000000 in
theorem rm_law (l : Launch) (Z : State) (a0 : Array Value) (hw : ∀ d ∈ tables_1, d.before a0 Z = true) (ws : List Jvm.Cond) (p1 : Int32) (p2 : Int32) (wL : Addr) (wE : Addr) (kE : ClassId) (wD : Addr) (w_REQUIRED : Addr) (w_RECOMMENDED : Addr) (h0 : Heap) (n0 : Nat) (Z0 : n0 ≤ h0.size) (O0 : Old Z n0 h0) (S_D : Sta Z Z.heap "java/util/ArrayList" "DEFAULTCAPACITY_EMPTY_ELEMENTDATA" "[Ljava/lang/Object;" (.ref wD)) (S_L : Sta Z Z.heap "java/util/ImmutableCollections" "EMPTY_LIST" "Ljava/util/ImmutableCollections$ListN;" (.ref wL)) (S_REQUIRED : Sta Z Z.heap "com/example/cartouche/cartouche/checking/Level" "REQUIRED" "Lcom/example/cartouche/cartouche/checking/Level;" (.ref w_REQUIRED)) (S_RECOMMENDED : Sta Z Z.heap "com/example/cartouche/cartouche/checking/Level" "RECOMMENDED" "Lcom/example/cartouche/cartouche/checking/Level;" (.ref w_RECOMMENDED)) (E_L : Exa Z Z.heap wL "java/util/ImmutableCollections$ListN") (F_a : Fld Z Z.heap wL "java/util/ImmutableCollections$ListN" "allowNulls" "Z" (.int (0 : Int32))) (F_el : Fld Z Z.heap wL "java/util/ImmutableCollections$ListN" "elements" "[Ljava/lang/Object;" (.ref wE)) (R_E : Arv Z Z.heap wE kE (.object "java/lang/Object") (0 : Int32) [] .null) (hIJ : (∃ c t, Z.vm.findClass "java/util/ArrayList" = some c ∧ Z.vm.findClass "java/util/ImmutableCollections$List12" = some t ∧ Z.vm.assignable c t = true) ∨ (∃ c t, Z.vm.findClass "java/util/ArrayList" = some c ∧ Z.vm.findClass "java/util/ImmutableCollections$List12" = some t ∧ Z.vm.assignable c t = false)) (hJ : (∃ c t, Z.vm.findClass "java/util/ImmutableCollections$ListN" = some c ∧ Z.vm.findClass "java/util/ImmutableCollections$List12" = some t ∧ Z.vm.assignable c t = true) ∨ (∃ c t, Z.vm.findClass "java/util/ImmutableCollections$ListN" = some c ∧ Z.vm.findClass "java/util/ImmutableCollections$List12" = some t ∧ Z.vm.assignable c t = false)) (hN : ∃ c t, Z.vm.findClass "java/util/ArrayList" = some c ∧ Z.vm.findClass "java/util/ImmutableCollections$ListN" = some t ∧ Z.vm.assignable c t = false) :
    MetFree l x (head1 (Jvm.Cond.code x code maxLocals ret :: ws) room_1) (fun a U => a = #[(.int p1), (.int p2)] ∧ Z.Warmed39 U.vm ∧ U.heap = h0) (fun _ _ _ _ _ => True) (fun _ U o U' => ∃ v L, o = .returned v ∧ Q_law n0 v U'.heap L ∧ ReturnedEndW U o U' L room_1.cells room_1.slots) := by
  refine MetFree.of_bodySF (plainFor_of_name pn_0) hisR ?_
  intro p e s m args below meth c s₁ Bd hml0 hP hK
  obtain ⟨rfl, hZ, hh⟩ := hP
  have hx := Bd.exec
  have hby := Bd.bytes
  have hml : c.maxLocals = 9 := hml0
  have hown : s.vm.findClass "com/example/cartouche/cartouche/checking/SummaryPassedPinLaw" = some m.cls := findClass_of_methodNamed Bd.named
  have hnm := (name_of_methodNamed Bd.named Bd.method).1
  have hlk := Bd.notSynchronized
  have hret := Bd.returns
  have X0 : Stand p l e room_1 (s.setVm s.vm) m #[(.int p1), (.int p2)] below meth c s₁ [] 0 0 := Stand.of_body Bd
  have hS : s.Since s.vm 0 := (State.WarmedH.refl s).since 0
  have e0 : s₁.heap = h0 := by rw [← hh, Bd.state]; rfl
  have N0 := Fr.nil n0
  refine own_inW room_1.cells room_1.slots (Q_law n0) (ef_law m p1 p2) ?_
  show own_G p.tables e below _ (s₁.setTop (mkF m 0 #[.val (.int p1), .val (.int p2), .unset, .unset, .unset, .unset, .unset, .unset, .unset] []))
  rcases hIJ with hI | hI
  · skip
    show own_G p.tables e below _ (s₁.setTop (mkF m 0 #[.val (.int p1), .val (.int p2), .unset, .unset, .unset, .unset, .unset, .unset, .unset] []))
    refine own_st (fun _ kS => XS.iloadN X0.here hx rfl (hb hby at_0) rfl kS) ?_
    show own_G p.tables e below _ (s₁.setTop (mkF m 1 #[.val (.int p1), .val (.int p2), .unset, .unset, .unset, .unset, .unset, .unset, .unset] [(.int p1)]))
    refine own_st (fun _ kS => X0.ldcInt hx hown (mvT hZ (own_w hw 0 rfl)) (g := (mkF m 1 #[.val (.int p1), .val (.int p2), .unset, .unset, .unset, .unset, .unset, .unset, .unset] [(.int p1)])) rfl (hb hby at_1) _ kS) ?_
    show own_G p.tables e below _ (s₁.setTop (mkF m 3 #[.val (.int p1), .val (.int p2), .unset, .unset, .unset, .unset, .unset, .unset, .unset] [(.int (2147483647 : Int32)), (.int p1)]))
    refine own_st (fun _ kS => XS.iand X0.here hx rfl (hb hby at_3) rfl kS) ?_
    show own_G p.tables e below _ (s₁.setTop (mkF m 4 #[.val (.int p1), .val (.int p2), .unset, .unset, .unset, .unset, .unset, .unset, .unset] [(.int (p1 &&& (2147483647 : Int32)))]))
    refine own_st (fun _ kS => XS.iconst X0.here hx rfl (hb hby at_4) kS) ?_
    show own_G p.tables e below _ (s₁.setTop (mkF m 5 #[.val (.int p1), .val (.int p2), .unset, .unset, .unset, .unset, .unset, .unset, .unset] [(.int (3 : Int32)), (.int (p1 &&& (2147483647 : Int32)))]))
    refine own_st (fun _ kS => iremM (g := (mkF m 5 #[.val (.int p1), .val (.int p2), .unset, .unset, .unset, .unset, .unset, .unset, .unset] [(.int (3 : Int32)), (.int (p1 &&& (2147483647 : Int32)))])) X0 hx rfl (hb hby at_5) rfl (by decide) kS) ?_
    show own_G p.tables e below _ (s₁.setTop (mkF m 6 #[.val (.int p1), .val (.int p2), .unset, .unset, .unset, .unset, .unset, .unset, .unset] [(.int ((p1 &&& (2147483647 : Int32)) % (3 : Int32)))]))
    refine own_st (fun _ kS => XS.istoreN X0.here hx rfl (hb hby at_6) rfl (l' := #[.val (.int p1), .val (.int p2), .val (.int ((p1 &&& (2147483647 : Int32)) % (3 : Int32))), .unset, .unset, .unset, .unset, .unset, .unset]) rfl kS) ?_
    show own_G p.tables e below _ (s₁.setTop (mkF m 7 #[.val (.int p1), .val (.int p2), .val (.int ((p1 &&& (2147483647 : Int32)) % (3 : Int32))), .unset, .unset, .unset, .unset, .unset, .unset] []))
    refine own_st (fun _ kS => XS.iloadN X0.here hx rfl (hb hby at_7) rfl kS) ?_
    show own_G p.tables e below _ (s₁.setTop (mkF m 8 #[.val (.int p1), .val (.int p2), .val (.int ((p1 &&& (2147483647 : Int32)) % (3 : Int32))), .unset, .unset, .unset, .unset, .unset, .unset] [(.int p2)]))
    refine own_st (fun _ kS => X0.ldcInt hx hown (mvT hZ (own_w hw 0 rfl)) (g := (mkF m 8 #[.val (.int p1), .val (.int p2), .val (.int ((p1 &&& (2147483647 : Int32)) % (3 : Int32))), .unset, .unset, .unset, .unset, .unset, .unset] [(.int p2)])) rfl (hb hby at_8) _ kS) ?_
    show own_G p.tables e below _ (s₁.setTop (mkF m 10 #[.val (.int p1), .val (.int p2), .val (.int ((p1 &&& (2147483647 : Int32)) % (3 : Int32))), .unset, .unset, .unset, .unset, .unset, .unset] [(.int (2147483647 : Int32)), (.int p2)]))
    refine own_st (fun _ kS => XS.iand X0.here hx rfl (hb hby at_10) rfl kS) ?_
    show own_G p.tables e below _ (s₁.setTop (mkF m 11 #[.val (.int p1), .val (.int p2), .val (.int ((p1 &&& (2147483647 : Int32)) % (3 : Int32))), .unset, .unset, .unset, .unset, .unset, .unset] [(.int (p2 &&& (2147483647 : Int32)))]))
    refine own_st (fun _ kS => XS.iconst X0.here hx rfl (hb hby at_11) kS) ?_
    show own_G p.tables e below _ (s₁.setTop (mkF m 12 #[.val (.int p1), .val (.int p2), .val (.int ((p1 &&& (2147483647 : Int32)) % (3 : Int32))), .unset, .unset, .unset, .unset, .unset, .unset] [(.int (3 : Int32)), (.int (p2 &&& (2147483647 : Int32)))]))
    refine own_st (fun _ kS => iremM (g := (mkF m 12 #[.val (.int p1), .val (.int p2), .val (.int ((p1 &&& (2147483647 : Int32)) % (3 : Int32))), .unset, .unset, .unset, .unset, .unset, .unset] [(.int (3 : Int32)), (.int (p2 &&& (2147483647 : Int32)))])) X0 hx rfl (hb hby at_12) rfl (by decide) kS) ?_
    show own_G p.tables e below _ (s₁.setTop (mkF m 13 #[.val (.int p1), .val (.int p2), .val (.int ((p1 &&& (2147483647 : Int32)) % (3 : Int32))), .unset, .unset, .unset, .unset, .unset, .unset] [(.int ((p2 &&& (2147483647 : Int32)) % (3 : Int32)))]))
    refine own_st (fun _ kS => XS.istoreN X0.here hx rfl (hb hby at_13) rfl (l' := #[.val (.int p1), .val (.int p2), .val (.int ((p1 &&& (2147483647 : Int32)) % (3 : Int32))), .val (.int ((p2 &&& (2147483647 : Int32)) % (3 : Int32))), .unset, .unset, .unset, .unset, .unset]) rfl kS) ?_
    show own_G p.tables e below _ (s₁.setTop (mkF m 14 #[.val (.int p1), .val (.int p2), .val (.int ((p1 &&& (2147483647 : Int32)) % (3 : Int32))), .val (.int ((p2 &&& (2147483647 : Int32)) % (3 : Int32))), .unset, .unset, .unset, .unset, .unset] []))
    obtain ⟨T1, h1, X1, e1, E1, A1, D1, -, st1⟩ := newO X0 hx hZ hown (own_w hw 1 rfl) (own_w hw 2 rfl) (own_w hw 3 rfl) e0 (g := (mkF m 14 #[.val (.int p1), .val (.int p2), .val (.int ((p1 &&& (2147483647 : Int32)) % (3 : Int32))), .val (.int ((p2 &&& (2147483647 : Int32)) % (3 : Int32))), .unset, .unset, .unset, .unset, .unset] [])) rfl (hb hby at_14) (by decide) (by decide)
    obtain ⟨b1, g1⟩ : ∃ z, z = h0.size := ⟨_, rfl⟩
    have ge_b1 : n0 ≤ b1 := Nat.le_trans Z0 (Nat.le_of_eq g1.symm)
    rw [← g1] at A1 D1 st1
    have O1 := O0.ext E1
    have F1_name : Fld Z h1 b1 "com/example/cartouche/cartouche/checking/Profile" "name" "Ljava/lang/String;" .null := D1 (Or.inr (own_w hw 52 rfl)) (ty := (.object "java/lang/String")) (by decide)
    have F1_rules : Fld Z h1 b1 "com/example/cartouche/cartouche/checking/Profile" "rules" "Ljava/util/List;" .null := D1 (Or.inr (own_w hw 78 rfl)) (ty := (.object "java/util/List")) (by decide)
    have F1_schemas : Fld Z h1 b1 "com/example/cartouche/cartouche/checking/Profile" "schemas" "Ljava/util/List;" .null := D1 (Or.inr (own_w hw 88 rfl)) (ty := (.object "java/util/List")) (by decide)
    refine own_st st1 ?_
    show own_G p.tables e below _ (T1.setTop (mkF m 17 #[.val (.int p1), .val (.int p2), .val (.int ((p1 &&& (2147483647 : Int32)) % (3 : Int32))), .val (.int ((p2 &&& (2147483647 : Int32)) % (3 : Int32))), .unset, .unset, .unset, .unset, .unset] [(.ref b1)]))
    refine own_st (fun _ kS => XS.dup X1.here hx rfl (hb hby at_17) rfl rfl kS) ?_
    show own_G p.tables e below _ (T1.setTop (mkF m 18 #[.val (.int p1), .val (.int p2), .val (.int ((p1 &&& (2147483647 : Int32)) % (3 : Int32))), .val (.int ((p2 &&& (2147483647 : Int32)) % (3 : Int32))), .unset, .unset, .unset, .unset, .unset] [(.ref b1), (.ref b1)]))
    have wS : ∀ a ∈ Bundle.stringAtoms, a.before a0 Z = true := fun d hd => hw d ((by decide +kernel : ∀ d ∈ Bundle.stringAtoms, d ∈ tables_1) d hd)
    obtain ⟨lit2, T2, h2, k2, X2, e2, E2, hS, hk2, hZ, hown, st2⟩ := ldcS X1 hx hZ hown (own_w hw 4 rfl) wS e1 hS (Nat.le_trans (Nat.zero_le _) E1.1) (g := (mkF m 18 #[.val (.int p1), .val (.int p2), .val (.int ((p1 &&& (2147483647 : Int32)) % (3 : Int32))), .val (.int ((p2 &&& (2147483647 : Int32)) % (3 : Int32))), .unset, .unset, .unset, .unset, .unset] [(.ref b1), (.ref b1)])) rfl (hb hby at_18) (n := 4) (by decide) (by decide) (by decide) (by decide)
    have O2 := O1.ext E2
    refine own_st st2 ?_
    show own_G p.tables e below _ (T2.setTop (mkF m 20 #[.val (.int p1), .val (.int p2), .val (.int ((p1 &&& (2147483647 : Int32)) % (3 : Int32))), .val (.int ((p2 &&& (2147483647 : Int32)) % (3 : Int32))), .unset, .unset, .unset, .unset, .unset] [(.ref lit2), (.ref b1), (.ref b1)]))
    obtain ⟨T3, h3, X3, e3, E3, A3, D3, -, st3⟩ := newO X2 hx hZ hown (own_w hw 12 rfl) (own_w hw 13 rfl) (own_w hw 14 rfl) e2 (g := (mkF m 20 #[.val (.int p1), .val (.int p2), .val (.int ((p1 &&& (2147483647 : Int32)) % (3 : Int32))), .val (.int ((p2 &&& (2147483647 : Int32)) % (3 : Int32))), .unset, .unset, .unset, .unset, .unset] [(.ref lit2), (.ref b1), (.ref b1)])) rfl (hb hby at_20) (by decide) (by decide)
    obtain ⟨b3, g3⟩ : ∃ z, z = h2.size := ⟨_, rfl⟩
    have ne_b1_b3 : b1 ≠ b3 := Nat.ne_of_lt (Nat.lt_of_lt_of_eq (Exa.ext E2 A1).lt g3.symm)
    have ge_b3 : n0 ≤ b3 := Nat.le_trans (Nat.le_trans (Nat.le_trans Z0 E1.1) E2.1) (Nat.le_of_eq g3.symm)
    rw [← g3] at A3 D3 st3
    have O3 := O2.ext E3
    have F3_modCount : Fld Z h3 b3 "java/util/AbstractList" "modCount" "I" (.int (0 : Int32)) := D3 (Or.inl (own_w hw 34 rfl)) (ty := .int) (by decide)
    have F3_elementData : Fld Z h3 b3 "java/util/ArrayList" "elementData" "[Ljava/lang/Object;" .null := D3 (Or.inl (own_w hw 37 rfl)) (ty := (.array (.object "java/lang/Object"))) (by decide)
    have F3_size : Fld Z h3 b3 "java/util/ArrayList" "size" "I" (.int (0 : Int32)) := D3 (Or.inl (own_w hw 75 rfl)) (ty := .int) (by decide)
    refine own_st st3 ?_
    show own_G p.tables e below _ (T3.setTop (mkF m 23 #[.val (.int p1), .val (.int p2), .val (.int ((p1 &&& (2147483647 : Int32)) % (3 : Int32))), .val (.int ((p2 &&& (2147483647 : Int32)) % (3 : Int32))), .unset, .unset, .unset, .unset, .unset] [(.ref b3), (.ref lit2), (.ref b1), (.ref b1)]))
    refine own_st (fun _ kS => XS.dup X3.here hx rfl (hb hby at_23) rfl rfl kS) ?_
    show own_G p.tables e below _ (T3.setTop (mkF m 24 #[.val (.int p1), .val (.int p2), .val (.int ((p1 &&& (2147483647 : Int32)) % (3 : Int32))), .val (.int ((p2 &&& (2147483647 : Int32)) % (3 : Int32))), .unset, .unset, .unset, .unset, .unset] [(.ref b3), (.ref b3), (.ref lit2), (.ref b1), (.ref b1)]))
    obtain ⟨_, _, ⟨T4, L4, k4, n4⟩, -, X4, ⟨Lc4, hQ4, l4, y4, z4⟩, st4⟩ := X3.specialBack hx (y := (⟨"java/util/ArrayList", "<init>", "()V"⟩ : MethodName)) rfl hown (mvT hZ (own_w hw 15 rfl)) (mvT hZ (own_w hw 16 rfl)) (mvT hZ (own_w hw 17 rfl)) (by decide) (backOf (W := 4) (rm_arlInit l Z a0 hw [] b3 wD h3 n0 (Nat.le_trans (Nat.le_trans (Nat.le_trans Z0 E1.1) E2.1) E3.1) O3 A3 ge_b3 F3_modCount F3_size F3_elementData S_D) hZ (own_w hw 17 rfl) (own_w hw 14 rfl) (by decide) (by decide)) (g := (mkF m 24 #[.val (.int p1), .val (.int p2), .val (.int ((p1 &&& (2147483647 : Int32)) % (3 : Int32))), .val (.int ((p2 &&& (2147483647 : Int32)) % (3 : Int32))), .unset, .unset, .unset, .unset, .unset] [(.ref b3), (.ref b3), (.ref lit2), (.ref b1), (.ref b1)])) rfl (by rw [hml]; rfl) (Steps.refl _) (a := b3) (argsL := []) (rest := [(.ref b3), (.ref lit2), (.ref b1), (.ref b1)]) (lenOf own_pd0 rfl) rfl (by show 2 * 0 + _ ≤ _; exact Nat.le_of_eq rfl) (hb hby at_24) (fun _ _ => ⟨rfl, e3, (by decide : 4 + 0 ≤ _), (by decide : 14 + 0 ≤ _)⟩)
    dsimp only [Pt.U, Pt.locs, Pt.cells, Pt.slots] at X4 l4 y4 z4 st4 hQ4
    subst l4 y4 z4
    obtain ⟨rfl, Nq4, Kc4, P4_0, P4_1, P4_2⟩ := hQ4
    have N4 := Fr.app N0 Nq4
    have O4 := O3.keep Kc4 (allS ge_b3 all0)
    refine own_tr st4 ?_
    show own_G p.tables e below _ (T4.setTop (mkF m 27 #[.val (.int p1), .val (.int p2), .val (.int ((p1 &&& (2147483647 : Int32)) % (3 : Int32))), .val (.int ((p2 &&& (2147483647 : Int32)) % (3 : Int32))), .unset, .unset, .unset, .unset, .unset] [(.ref b3), (.ref lit2), (.ref b1), (.ref b1)]))
    obtain ⟨_, _, ⟨T5, L5, k5, n5⟩, -, X5, ⟨Lc5, hQ5, l5, y5, z5⟩, st5⟩ := X4.specialBack hx (y := (⟨"com/example/cartouche/cartouche/checking/Profile", "<init>", "(Ljava/lang/String;Ljava/util/List;)V"⟩ : MethodName)) rfl hown (mvT hZ (own_w hw 38 rfl)) (mvT hZ (own_w hw 39 rfl)) (mvT hZ (own_w hw 40 rfl)) (by decide) (backOf (W := 1) (rm_prof2_1 l Z a0 hw [] b1 lit2 b3 wL T4.heap n0 (Nat.le_trans (Nat.le_trans (Nat.le_trans (Nat.le_trans Z0 E1.1) E2.1) E3.1) Kc4.1) O4 ((Exa.ext E3 (Exa.ext E2 A1)).keep Kc4) ge_b1 ne_b1_b3 P4_0 P4_2 P4_1 ((Fld.ext E3 (Fld.ext E2 F1_name)).keep Kc4 (ninS ne_b1_b3 nin0)) ((Fld.ext E3 (Fld.ext E2 F1_rules)).keep Kc4 (ninS ne_b1_b3 nin0)) ((Fld.ext E3 (Fld.ext E2 F1_schemas)).keep Kc4 (ninS ne_b1_b3 nin0)) hI hJ E_L F_a S_L) hZ (own_w hw 40 rfl) (own_w hw 3 rfl) (by decide) (by decide)) (g := (mkF m 27 #[.val (.int p1), .val (.int p2), .val (.int ((p1 &&& (2147483647 : Int32)) % (3 : Int32))), .val (.int ((p2 &&& (2147483647 : Int32)) % (3 : Int32))), .unset, .unset, .unset, .unset, .unset] [(.ref b3), (.ref lit2), (.ref b1), (.ref b1)])) rfl (by rw [hml]; rfl) (Steps.refl _) (a := b1) (argsL := [(.ref lit2), (.ref b3)]) (rest := [(.ref b1)]) (lenOf own_pd10 rfl) rfl (by show 2 * 0 + _ ≤ _; exact Nat.le_of_eq rfl) (hb hby at_27) (fun _ _ => ⟨rfl, rfl, (by decide : 4 + 0 ≤ _), (by decide : 14 + 0 ≤ _)⟩)
    dsimp only [Pt.U, Pt.locs, Pt.cells, Pt.slots] at X5 l5 y5 z5 st5 hQ5
    subst l5 y5 z5
    obtain ⟨rfl, Nq5, Kc5, P5_0, P5_1⟩ := hQ5
    have N5 := Fr.app N4 Nq5
    have O5 := O4.keep Kc5 (allS ge_b1 all0)
    refine own_tr st5 ?_
    show own_G p.tables e below _ (T5.setTop (mkF m 30 #[.val (.int p1), .val (.int p2), .val (.int ((p1 &&& (2147483647 : Int32)) % (3 : Int32))), .val (.int ((p2 &&& (2147483647 : Int32)) % (3 : Int32))), .unset, .unset, .unset, .unset, .unset] [(.ref b1)]))
    refine own_st (fun _ kS => XS.astore X5.here hx rfl (hb hby at_30) rfl rfl (l' := #[.val (.int p1), .val (.int p2), .val (.int ((p1 &&& (2147483647 : Int32)) % (3 : Int32))), .val (.int ((p2 &&& (2147483647 : Int32)) % (3 : Int32))), .val (.ref b1), .unset, .unset, .unset, .unset]) rfl kS) ?_
    show own_G p.tables e below _ (T5.setTop (mkF m 32 #[.val (.int p1), .val (.int p2), .val (.int ((p1 &&& (2147483647 : Int32)) % (3 : Int32))), .val (.int ((p2 &&& (2147483647 : Int32)) % (3 : Int32))), .val (.ref b1), .unset, .unset, .unset, .unset] []))
    obtain ⟨T6, h6, X6, e6, E6, A6, D6, -, st6⟩ := newO X5 hx hZ hown (own_w hw 89 rfl) (own_w hw 90 rfl) (own_w hw 91 rfl) rfl (g := (mkF m 32 #[.val (.int p1), .val (.int p2), .val (.int ((p1 &&& (2147483647 : Int32)) % (3 : Int32))), .val (.int ((p2 &&& (2147483647 : Int32)) % (3 : Int32))), .val (.ref b1), .unset, .unset, .unset, .unset] [])) rfl (hb hby at_32) (by decide) (by decide)
    obtain ⟨b6, g6⟩ : ∃ z, z = T5.heap.size := ⟨_, rfl⟩
    have ne_b1_b6 : b1 ≠ b6 := Nat.ne_of_lt (Nat.lt_of_lt_of_eq P5_0.lt g6.symm)
    have ne_b3_b6 : b3 ≠ b6 := Nat.ne_of_lt (Nat.lt_of_lt_of_eq (P4_0.keep Kc5).lt g6.symm)
    have ge_b6 : n0 ≤ b6 := Nat.le_trans (Nat.le_trans (Nat.le_trans (Nat.le_trans (Nat.le_trans (Nat.le_trans Z0 E1.1) E2.1) E3.1) Kc4.1) Kc5.1) (Nat.le_of_eq g6.symm)
    rw [← g6] at A6 D6 st6
    have O6 := O5.ext E6
    have F6_position : Fld Z h6 b6 "com/example/cartouche/cartouche/checking/Verdict" "position" "Ljava/util/OptionalInt;" .null := D6 (Or.inr (own_w hw 97 rfl)) (ty := (.object "java/util/OptionalInt")) (by decide)
    have F6_failures : Fld Z h6 b6 "com/example/cartouche/cartouche/checking/Verdict" "failures" "Ljava/util/List;" .null := D6 (Or.inr (own_w hw 100 rfl)) (ty := (.object "java/util/List")) (by decide)
    refine own_st st6 ?_
    show own_G p.tables e below _ (T6.setTop (mkF m 35 #[.val (.int p1), .val (.int p2), .val (.int ((p1 &&& (2147483647 : Int32)) % (3 : Int32))), .val (.int ((p2 &&& (2147483647 : Int32)) % (3 : Int32))), .val (.ref b1), .unset, .unset, .unset, .unset] [(.ref b6)]))
    refine own_st (fun _ kS => XS.dup X6.here hx rfl (hb hby at_35) rfl rfl kS) ?_
    refine own_st (fun _ kS => XS.aconstNull X6.here hx rfl (hb hby at_36) kS) ?_
    show own_G p.tables e below _ (T6.setTop (mkF m 37 #[.val (.int p1), .val (.int p2), .val (.int ((p1 &&& (2147483647 : Int32)) % (3 : Int32))), .val (.int ((p2 &&& (2147483647 : Int32)) % (3 : Int32))), .val (.ref b1), .unset, .unset, .unset, .unset] [.null, (.ref b6), (.ref b6)]))
    obtain ⟨T7, h7, X7, e7, E7, A7, D7, -, st7⟩ := newO X6 hx hZ hown (own_w hw 12 rfl) (own_w hw 13 rfl) (own_w hw 14 rfl) e6 (g := (mkF m 37 #[.val (.int p1), .val (.int p2), .val (.int ((p1 &&& (2147483647 : Int32)) % (3 : Int32))), .val (.int ((p2 &&& (2147483647 : Int32)) % (3 : Int32))), .val (.ref b1), .unset, .unset, .unset, .unset] [.null, (.ref b6), (.ref b6)])) rfl (hb hby at_37) (by decide) (by decide)
    obtain ⟨b7, g7⟩ : ∃ z, z = h6.size := ⟨_, rfl⟩
    have ne_b1_b7 : b1 ≠ b7 := Nat.ne_of_lt (Nat.lt_of_lt_of_eq (Exa.ext E6 P5_0).lt g7.symm)
    have ne_b3_b7 : b3 ≠ b7 := Nat.ne_of_lt (Nat.lt_of_lt_of_eq (Exa.ext E6 (P4_0.keep Kc5)).lt g7.symm)
    have ne_b6_b7 : b6 ≠ b7 := Nat.ne_of_lt (Nat.lt_of_lt_of_eq A6.lt g7.symm)
    have ge_b7 : n0 ≤ b7 := Nat.le_trans (Nat.le_trans (Nat.le_trans (Nat.le_trans (Nat.le_trans (Nat.le_trans (Nat.le_trans Z0 E1.1) E2.1) E3.1) Kc4.1) Kc5.1) E6.1) (Nat.le_of_eq g7.symm)
    rw [← g7] at A7 D7 st7
    have O7 := O6.ext E7
    have F7_modCount : Fld Z h7 b7 "java/util/AbstractList" "modCount" "I" (.int (0 : Int32)) := D7 (Or.inl (own_w hw 34 rfl)) (ty := .int) (by decide)
    have F7_elementData : Fld Z h7 b7 "java/util/ArrayList" "elementData" "[Ljava/lang/Object;" .null := D7 (Or.inl (own_w hw 37 rfl)) (ty := (.array (.object "java/lang/Object"))) (by decide)
    have F7_size : Fld Z h7 b7 "java/util/ArrayList" "size" "I" (.int (0 : Int32)) := D7 (Or.inl (own_w hw 75 rfl)) (ty := .int) (by decide)
    refine own_st st7 ?_
    show own_G p.tables e below _ (T7.setTop (mkF m 40 #[.val (.int p1), .val (.int p2), .val (.int ((p1 &&& (2147483647 : Int32)) % (3 : Int32))), .val (.int ((p2 &&& (2147483647 : Int32)) % (3 : Int32))), .val (.ref b1), .unset, .unset, .unset, .unset] [(.ref b7), .null, (.ref b6), (.ref b6)]))
    refine own_st (fun _ kS => XS.dup X7.here hx rfl (hb hby at_40) rfl rfl kS) ?_
    show own_G p.tables e below _ (T7.setTop (mkF m 41 #[.val (.int p1), .val (.int p2), .val (.int ((p1 &&& (2147483647 : Int32)) % (3 : Int32))), .val (.int ((p2 &&& (2147483647 : Int32)) % (3 : Int32))), .val (.ref b1), .unset, .unset, .unset, .unset] [(.ref b7), (.ref b7), .null, (.ref b6), (.ref b6)]))
    obtain ⟨_, _, ⟨T8, L8, k8, n8⟩, -, X8, ⟨Lc8, hQ8, l8, y8, z8⟩, st8⟩ := X7.specialBack hx (y := (⟨"java/util/ArrayList", "<init>", "()V"⟩ : MethodName)) rfl hown (mvT hZ (own_w hw 15 rfl)) (mvT hZ (own_w hw 16 rfl)) (mvT hZ (own_w hw 17 rfl)) (by decide) (backOf (W := 4) (rm_arlInit l Z a0 hw [] b7 wD h7 n0 (Nat.le_trans (Nat.le_trans (Nat.le_trans (Nat.le_trans (Nat.le_trans (Nat.le_trans (Nat.le_trans Z0 E1.1) E2.1) E3.1) Kc4.1) Kc5.1) E6.1) E7.1) O7 A7 ge_b7 F7_modCount F7_size F7_elementData S_D) hZ (own_w hw 17 rfl) (own_w hw 14 rfl) (by decide) (by decide)) (g := (mkF m 41 #[.val (.int p1), .val (.int p2), .val (.int ((p1 &&& (2147483647 : Int32)) % (3 : Int32))), .val (.int ((p2 &&& (2147483647 : Int32)) % (3 : Int32))), .val (.ref b1), .unset, .unset, .unset, .unset] [(.ref b7), (.ref b7), .null, (.ref b6), (.ref b6)])) rfl (by rw [hml]; rfl) (Steps.refl _) (a := b7) (argsL := []) (rest := [(.ref b7), .null, (.ref b6), (.ref b6)]) (lenOf own_pd0 rfl) rfl (by show 2 * 0 + _ ≤ _; exact Nat.le_of_eq rfl) (hb hby at_41) (fun _ _ => ⟨rfl, e7, (by decide : 6 + 0 ≤ _), (by decide : 19 + 0 ≤ _)⟩)
    dsimp only [Pt.U, Pt.locs, Pt.cells, Pt.slots] at X8 l8 y8 z8 st8 hQ8
    subst l8 y8 z8
    obtain ⟨rfl, Nq8, Kc8, P8_0, P8_1, P8_2⟩ := hQ8
    have N8 := Fr.app N5 Nq8
    have O8 := O7.keep Kc8 (allS ge_b7 all0)
    refine own_tr st8 ?_
    show own_G p.tables e below _ (T8.setTop (mkF m 44 #[.val (.int p1), .val (.int p2), .val (.int ((p1 &&& (2147483647 : Int32)) % (3 : Int32))), .val (.int ((p2 &&& (2147483647 : Int32)) % (3 : Int32))), .val (.ref b1), .unset, .unset, .unset, .unset] [(.ref b7), .null, (.ref b6), (.ref b6)]))
    obtain ⟨_, _, ⟨T9, L9, k9, n9⟩, -, X9, ⟨Lc9, hQ9, l9, y9, z9⟩, st9⟩ := X8.specialBack hx (y := (⟨"com/example/cartouche/cartouche/checking/Verdict", "<init>", "(Ljava/util/OptionalInt;Ljava/util/List;)V"⟩ : MethodName)) rfl hown (mvT hZ (own_w hw 92 rfl)) (mvT hZ (own_w hw 93 rfl)) (mvT hZ (own_w hw 94 rfl)) (by decide) (backOf (W := 1) (rm_ver_1 l Z a0 hw [] b6 b7 wL T8.heap n0 (Nat.le_trans (Nat.le_trans (Nat.le_trans (Nat.le_trans (Nat.le_trans (Nat.le_trans (Nat.le_trans (Nat.le_trans Z0 E1.1) E2.1) E3.1) Kc4.1) Kc5.1) E6.1) E7.1) Kc8.1) O8 ((Exa.ext E7 A6).keep Kc8) ge_b6 ne_b6_b7 P8_0 P8_2 P8_1 ((Fld.ext E7 F6_position).keep Kc8 (ninS ne_b6_b7 nin0)) ((Fld.ext E7 F6_failures).keep Kc8 (ninS ne_b6_b7 nin0)) hI hJ E_L F_a S_L) hZ (own_w hw 94 rfl) (own_w hw 91 rfl) (by decide) (by decide)) (g := (mkF m 44 #[.val (.int p1), .val (.int p2), .val (.int ((p1 &&& (2147483647 : Int32)) % (3 : Int32))), .val (.int ((p2 &&& (2147483647 : Int32)) % (3 : Int32))), .val (.ref b1), .unset, .unset, .unset, .unset] [(.ref b7), .null, (.ref b6), (.ref b6)])) rfl (by rw [hml]; rfl) (Steps.refl _) (a := b6) (argsL := [.null, (.ref b7)]) (rest := [(.ref b6)]) (lenOf own_pd11 rfl) rfl (by show 2 * 0 + _ ≤ _; exact Nat.le_of_eq rfl) (hb hby at_44) (fun _ _ => ⟨rfl, rfl, (by decide : 6 + 0 ≤ _), (by decide : 19 + 0 ≤ _)⟩)
    dsimp only [Pt.U, Pt.locs, Pt.cells, Pt.slots] at X9 l9 y9 z9 st9 hQ9
    subst l9 y9 z9
    obtain ⟨rfl, Nq9, Kc9, P9_0, P9_1⟩ := hQ9
    have N9 := Fr.app N8 Nq9
    have O9 := O8.keep Kc9 (allS ge_b6 all0)
    refine own_tr st9 ?_
    show own_G p.tables e below _ (T9.setTop (mkF m 47 #[.val (.int p1), .val (.int p2), .val (.int ((p1 &&& (2147483647 : Int32)) % (3 : Int32))), .val (.int ((p2 &&& (2147483647 : Int32)) % (3 : Int32))), .val (.ref b1), .unset, .unset, .unset, .unset] [(.ref b6)]))
    refine own_st (fun _ kS => XS.astore X9.here hx rfl (hb hby at_47) rfl rfl (l' := #[.val (.int p1), .val (.int p2), .val (.int ((p1 &&& (2147483647 : Int32)) % (3 : Int32))), .val (.int ((p2 &&& (2147483647 : Int32)) % (3 : Int32))), .val (.ref b1), .val (.ref b6), .unset, .unset, .unset]) rfl kS) ?_
    show own_G p.tables e below _ (T9.setTop (mkF m 49 #[.val (.int p1), .val (.int p2), .val (.int ((p1 &&& (2147483647 : Int32)) % (3 : Int32))), .val (.int ((p2 &&& (2147483647 : Int32)) % (3 : Int32))), .val (.ref b1), .val (.ref b6), .unset, .unset, .unset] []))
    obtain ⟨T10, h10, X10, e10, E10, A10, D10, -, st10⟩ := newO X9 hx hZ hown (own_w hw 101 rfl) (own_w hw 102 rfl) (own_w hw 103 rfl) rfl (g := (mkF m 49 #[.val (.int p1), .val (.int p2), .val (.int ((p1 &&& (2147483647 : Int32)) % (3 : Int32))), .val (.int ((p2 &&& (2147483647 : Int32)) % (3 : Int32))), .val (.ref b1), .val (.ref b6), .unset, .unset, .unset] [])) rfl (hb hby at_49) (by decide) (by decide)
    obtain ⟨b10, g10⟩ : ∃ z, z = T9.heap.size := ⟨_, rfl⟩
    have ne_b1_b10 : b1 ≠ b10 := Nat.ne_of_lt (Nat.lt_of_lt_of_eq (((Exa.ext E7 (Exa.ext E6 P5_0)).keep Kc8).keep Kc9).lt g10.symm)
    have ne_b3_b10 : b3 ≠ b10 := Nat.ne_of_lt (Nat.lt_of_lt_of_eq (((Exa.ext E7 (Exa.ext E6 (P4_0.keep Kc5))).keep Kc8).keep Kc9).lt g10.symm)
    have ne_b6_b10 : b6 ≠ b10 := Nat.ne_of_lt (Nat.lt_of_lt_of_eq P9_0.lt g10.symm)
    have ne_b7_b10 : b7 ≠ b10 := Nat.ne_of_lt (Nat.lt_of_lt_of_eq (P8_0.keep Kc9).lt g10.symm)
    have ge_b10 : n0 ≤ b10 := Nat.le_trans (Nat.le_trans (Nat.le_trans (Nat.le_trans (Nat.le_trans (Nat.le_trans (Nat.le_trans (Nat.le_trans (Nat.le_trans (Nat.le_trans Z0 E1.1) E2.1) E3.1) Kc4.1) Kc5.1) E6.1) E7.1) Kc8.1) Kc9.1) (Nat.le_of_eq g10.symm)
    rw [← g10] at A10 D10 st10
    have O10 := O9.ext E10
    have F10_failingByRule : Fld Z h10 b10 "com/example/cartouche/cartouche/checking/Summary" "failingByRule" "Ljava/util/Map;" .null := D10 (Or.inr (own_w hw 135 rfl)) (ty := (.object "java/util/Map")) (by decide)
    have F10_warningsByRule : Fld Z h10 b10 "com/example/cartouche/cartouche/checking/Summary" "warningsByRule" "Ljava/util/Map;" .null := D10 (Or.inr (own_w hw 137 rfl)) (ty := (.object "java/util/Map")) (by decide)
    have F10_unreadable : Fld Z h10 b10 "com/example/cartouche/cartouche/checking/Summary" "unreadable" "I" (.int (0 : Int32)) := D10 (Or.inl (own_w hw 232 rfl)) (ty := .int) (by decide)
    have F10_conforming : Fld Z h10 b10 "com/example/cartouche/cartouche/checking/Summary" "conforming" "I" (.int (0 : Int32)) := D10 (Or.inl (own_w hw 234 rfl)) (ty := .int) (by decide)
    have F10_records : Fld Z h10 b10 "com/example/cartouche/cartouche/checking/Summary" "records" "I" (.int (0 : Int32)) := D10 (Or.inl (own_w hw 236 rfl)) (ty := .int) (by decide)
    refine own_st st10 ?_
    show own_G p.tables e below _ (T10.setTop (mkF m 52 #[.val (.int p1), .val (.int p2), .val (.int ((p1 &&& (2147483647 : Int32)) % (3 : Int32))), .val (.int ((p2 &&& (2147483647 : Int32)) % (3 : Int32))), .val (.ref b1), .val (.ref b6), .unset, .unset, .unset] [(.ref b10)]))
    refine own_st (fun _ kS => XS.dup X10.here hx rfl (hb hby at_52) rfl rfl kS) ?_
    refine own_st (fun _ kS => XS.aload X10.here hx rfl (hb hby at_53) rfl rfl kS) ?_
    show own_G p.tables e below _ (T10.setTop (mkF m 55 #[.val (.int p1), .val (.int p2), .val (.int ((p1 &&& (2147483647 : Int32)) % (3 : Int32))), .val (.int ((p2 &&& (2147483647 : Int32)) % (3 : Int32))), .val (.ref b1), .val (.ref b6), .unset, .unset, .unset] [(.ref b1), (.ref b10), (.ref b10)]))
    obtain ⟨_, _, ⟨T11, L11, k11, n11⟩, -, X11, ⟨Lc11, hQ11, l11, y11, z11⟩, st11⟩ := X10.specialBack hx (y := (⟨"com/example/cartouche/cartouche/checking/Summary", "<init>", "(Lcom/example/cartouche/cartouche/checking/Profile;)V"⟩ : MethodName)) rfl hown (mvT hZ (own_w hw 104 rfl)) (mvT hZ (own_w hw 105 rfl)) (mvT hZ (own_w hw 106 rfl)) (by decide) (backOf (W := 1) (rm_sumInit1 l Z a0 hw [] b10 b1 b3 wL wE kE wD w_REQUIRED w_RECOMMENDED h10 n0 (Nat.le_trans (Nat.le_trans (Nat.le_trans (Nat.le_trans (Nat.le_trans (Nat.le_trans (Nat.le_trans (Nat.le_trans (Nat.le_trans (Nat.le_trans Z0 E1.1) E2.1) E3.1) Kc4.1) Kc5.1) E6.1) E7.1) Kc8.1) Kc9.1) E10.1) O10 A10 ge_b10 (Ne.symm ne_b1_b10) (Ne.symm ne_b3_b10) F10_failingByRule F10_warningsByRule F10_unreadable F10_conforming F10_records (Exa.ext E10 (((Exa.ext E7 (Exa.ext E6 P5_0)).keep Kc8).keep Kc9)) (Fld.ext E10 (((Fld.ext E7 (Fld.ext E6 P5_1)).keep Kc8 (ninS ne_b1_b7 nin0)).keep Kc9 (ninS ne_b1_b6 nin0))) (Exa.ext E10 (((Exa.ext E7 (Exa.ext E6 (P4_0.keep Kc5))).keep Kc8).keep Kc9)) (Fld.ext E10 (((Fld.ext E7 (Fld.ext E6 (P4_2.keep Kc5 (ninS (Ne.symm ne_b1_b3) nin0)))).keep Kc8 (ninS ne_b3_b7 nin0)).keep Kc9 (ninS ne_b3_b6 nin0))) (Fld.ext E10 (((Fld.ext E7 (Fld.ext E6 (P4_1.keep Kc5 (ninS (Ne.symm ne_b1_b3) nin0)))).keep Kc8 (ninS ne_b3_b7 nin0)).keep Kc9 (ninS ne_b3_b6 nin0))) E_L F_el R_E S_D S_REQUIRED S_RECOMMENDED) hZ (own_w hw 106 rfl) (own_w hw 103 rfl) (by decide) (by decide)) (g := (mkF m 55 #[.val (.int p1), .val (.int p2), .val (.int ((p1 &&& (2147483647 : Int32)) % (3 : Int32))), .val (.int ((p2 &&& (2147483647 : Int32)) % (3 : Int32))), .val (.ref b1), .val (.ref b6), .unset, .unset, .unset] [(.ref b1), (.ref b10), (.ref b10)])) rfl (by rw [hml]; rfl) (Steps.refl _) (a := b10) (argsL := [(.ref b1)]) (rest := [(.ref b10)]) (lenOf own_pd12 rfl) rfl (by show 2 * 0 + _ ≤ _; exact Nat.le_of_eq rfl) (hb hby at_55) (fun _ _ => ⟨rfl, e10, (by decide : 7 + 8 ≤ _), (by decide : 24 + 46 ≤ _)⟩)
    dsimp only [Pt.U, Pt.locs, Pt.cells, Pt.slots] at X11 l11 y11 z11 st11 hQ11
    subst l11 y11 z11
    obtain ⟨rfl, Nq11, Kc11, P11_0, P11_1, P11_2, P11_3⟩ := hQ11
    have N11 := Fr.app N9 Nq11
    have O11 := O10.keep Kc11 (allS ge_b10 all0)
    refine own_tr st11 ?_
    show own_G p.tables e below _ (T11.setTop (mkF m 58 #[.val (.int p1), .val (.int p2), .val (.int ((p1 &&& (2147483647 : Int32)) % (3 : Int32))), .val (.int ((p2 &&& (2147483647 : Int32)) % (3 : Int32))), .val (.ref b1), .val (.ref b6), .unset, .unset, .unset] [(.ref b10)]))
    refine own_st (fun _ kS => XS.astore X11.here hx rfl (hb hby at_58) rfl rfl (l' := #[.val (.int p1), .val (.int p2), .val (.int ((p1 &&& (2147483647 : Int32)) % (3 : Int32))), .val (.int ((p2 &&& (2147483647 : Int32)) % (3 : Int32))), .val (.ref b1), .val (.ref b6), .val (.ref b10), .unset, .unset]) rfl kS) ?_
    show own_G p.tables e below _ (T11.setTop (mkF m 60 #[.val (.int p1), .val (.int p2), .val (.int ((p1 &&& (2147483647 : Int32)) % (3 : Int32))), .val (.int ((p2 &&& (2147483647 : Int32)) % (3 : Int32))), .val (.ref b1), .val (.ref b6), .val (.ref b10), .unset, .unset] []))
    refine own_st (fun _ kS => XS.aload X11.here hx rfl (hb hby at_60) rfl rfl kS) ?_
    show own_G p.tables e below _ (T11.setTop (mkF m 62 #[.val (.int p1), .val (.int p2), .val (.int ((p1 &&& (2147483647 : Int32)) % (3 : Int32))), .val (.int ((p2 &&& (2147483647 : Int32)) % (3 : Int32))), .val (.ref b1), .val (.ref b6), .val (.ref b10), .unset, .unset] [(.ref b10)]))
    obtain ⟨cq12, kq12, q12a, q12b, q12c⟩ := isOf hZ rfl P11_0
    obtain ⟨_, _, ⟨T12, L12, k12, n12⟩, -, X12, ⟨Lc12, hQ12, l12, y12, z12⟩, st12⟩ := X11.virtualBack hx (y := (⟨"com/example/cartouche/cartouche/checking/Summary", "passed", "()Z"⟩ : MethodName)) (z := (⟨"com/example/cartouche/cartouche/checking/Summary", "passed", "()Z"⟩ : MethodName)) hown (mvT hZ (own_w hw 226 rfl)) (mvT hZ (own_w hw 227 rfl)) (notFace_of_selects (args := #[]) (mvT hZ (own_w hw 229 rfl))) (mvT hZ (own_w hw 229 rfl)) (mvT hZ (own_w hw 228 rfl)) (by decide) (backOf (W := 0) (rm_passed0_0 l Z a0 hw [] b10 T11.heap n0 (Nat.le_trans (Nat.le_trans (Nat.le_trans (Nat.le_trans (Nat.le_trans (Nat.le_trans (Nat.le_trans (Nat.le_trans (Nat.le_trans (Nat.le_trans (Nat.le_trans Z0 E1.1) E2.1) E3.1) Kc4.1) Kc5.1) E6.1) E7.1) Kc8.1) Kc9.1) E10.1) Kc11.1)  P11_1 P11_2 P11_3) hZ (own_w hw 230 rfl) (own_w hw 103 rfl) (by decide) (by decide)) q12a q12c (g := (mkF m 62 #[.val (.int p1), .val (.int p2), .val (.int ((p1 &&& (2147483647 : Int32)) % (3 : Int32))), .val (.int ((p2 &&& (2147483647 : Int32)) % (3 : Int32))), .val (.ref b1), .val (.ref b6), .val (.ref b10), .unset, .unset] [(.ref b10)])) rfl (by rw [hml]; rfl) (Steps.refl _) (argsL := []) (rest := []) (lenOf own_pd1 rfl) rfl (by show 2 * 0 + _ ≤ _; exact Nat.le_of_eq rfl) (hb hby at_62) (fun _ _ => ⟨rfl, rfl, (by decide : 15 + 0 ≤ _), (by decide : 70 + 0 ≤ _)⟩)
    dsimp only [Pt.U, Pt.locs, Pt.cells, Pt.slots] at X12 l12 y12 z12 st12 hQ12
    subst l12 y12 z12
    obtain ⟨rfl, Nq12, eq12⟩ := hQ12
    have N12 := Fr.app N11 Nq12
    refine own_tr st12 ?_
    show own_G p.tables e below _ (T12.setTop (mkF m 65 #[.val (.int p1), .val (.int p2), .val (.int ((p1 &&& (2147483647 : Int32)) % (3 : Int32))), .val (.int ((p2 &&& (2147483647 : Int32)) % (3 : Int32))), .val (.ref b1), .val (.ref b6), .val (.ref b10), .unset, .unset] [(.int (1 : Int32))]))
    refine own_st (fun _ kS => XS.istore X12.here hx rfl (hb hby at_65) rfl (l' := #[.val (.int p1), .val (.int p2), .val (.int ((p1 &&& (2147483647 : Int32)) % (3 : Int32))), .val (.int ((p2 &&& (2147483647 : Int32)) % (3 : Int32))), .val (.ref b1), .val (.ref b6), .val (.ref b10), .val (.int (1 : Int32)), .unset]) rfl kS) ?_
    show own_G p.tables e below _ (T12.setTop (mkF m 67 #[.val (.int p1), .val (.int p2), .val (.int ((p1 &&& (2147483647 : Int32)) % (3 : Int32))), .val (.int ((p2 &&& (2147483647 : Int32)) % (3 : Int32))), .val (.ref b1), .val (.ref b6), .val (.ref b10), .val (.int (1 : Int32)), .unset] []))
    rcases own_mod3 p1 with hk13 | hk13 | hk13
    · rw [hk13]
      show own_G p.tables e below _ (T12.setTop (mkF m 67 #[.val (.int p1), .val (.int p2), .val (.int (0 : Int32)), .val (.int ((p2 &&& (2147483647 : Int32)) % (3 : Int32))), .val (.ref b1), .val (.ref b6), .val (.ref b10), .val (.int (1 : Int32)), .unset] []))
      rcases own_mod3 p2 with hk14 | hk14 | hk14
      · rw [hk14]
        show own_G p.tables e below _ (T12.setTop (mkF m 67 #[.val (.int p1), .val (.int p2), .val (.int (0 : Int32)), .val (.int (0 : Int32)), .val (.ref b1), .val (.ref b6), .val (.ref b10), .val (.int (1 : Int32)), .unset] []))
        refine own_st (fun _ kS => XS.iloadN X12.here hx rfl (hb hby at_67) rfl kS) ?_
        refine own_st (fun _ kS => XS.iconst X12.here hx rfl (hb hby at_68) kS) ?_
        show own_G p.tables e below _ (T12.setTop (mkF m 69 #[.val (.int p1), .val (.int p2), .val (.int (0 : Int32)), .val (.int (0 : Int32)), .val (.ref b1), .val (.ref b6), .val (.ref b10), .val (.int (1 : Int32)), .unset] [(.int (1 : Int32)), (.int (0 : Int32))]))
        refine own_st (fun _ kS => XS.icmpYes X12.here hx rfl (pc0 := 69) (pc' := 79) rfl (hb hby at_69) rfl (tlt (by decide : (0 : Int32) < (1 : Int32))).1 (by decide) (by decide) kS) ?_
        show own_G p.tables e below _ (T12.setTop (mkF m 79 #[.val (.int p1), .val (.int p2), .val (.int (0 : Int32)), .val (.int (0 : Int32)), .val (.ref b1), .val (.ref b6), .val (.ref b10), .val (.int (1 : Int32)), .unset] []))
        refine own_st (fun _ kS => XS.iloadN X12.here hx rfl (hb hby at_79) rfl kS) ?_
        refine own_st (fun _ kS => XS.iconst X12.here hx rfl (hb hby at_80) kS) ?_
        show own_G p.tables e below _ (T12.setTop (mkF m 81 #[.val (.int p1), .val (.int p2), .val (.int (0 : Int32)), .val (.int (0 : Int32)), .val (.ref b1), .val (.ref b6), .val (.ref b10), .val (.int (1 : Int32)), .unset] [(.int (2 : Int32)), (.int (0 : Int32))]))
        refine own_st (fun _ kS => XS.icmpYes X12.here hx rfl (pc0 := 81) (pc' := 91) rfl (hb hby at_81) rfl (tlt (by decide : (0 : Int32) < (2 : Int32))).1 (by decide) (by decide) kS) ?_
        show own_G p.tables e below _ (T12.setTop (mkF m 91 #[.val (.int p1), .val (.int p2), .val (.int (0 : Int32)), .val (.int (0 : Int32)), .val (.ref b1), .val (.ref b6), .val (.ref b10), .val (.int (1 : Int32)), .unset] []))
        refine own_st (fun _ kS => XS.iloadN X12.here hx rfl (hb hby at_91) rfl kS) ?_
        refine own_st (fun _ kS => XS.iconst X12.here hx rfl (hb hby at_92) kS) ?_
        show own_G p.tables e below _ (T12.setTop (mkF m 93 #[.val (.int p1), .val (.int p2), .val (.int (0 : Int32)), .val (.int (0 : Int32)), .val (.ref b1), .val (.ref b6), .val (.ref b10), .val (.int (1 : Int32)), .unset] [(.int (1 : Int32)), (.int (0 : Int32))]))
        refine own_st (fun _ kS => XS.icmpYes X12.here hx rfl (pc0 := 93) (pc' := 101) rfl (hb hby at_93) rfl (tlt (by decide : (0 : Int32) < (1 : Int32))).1 (by decide) (by decide) kS) ?_
        show own_G p.tables e below _ (T12.setTop (mkF m 101 #[.val (.int p1), .val (.int p2), .val (.int (0 : Int32)), .val (.int (0 : Int32)), .val (.ref b1), .val (.ref b6), .val (.ref b10), .val (.int (1 : Int32)), .unset] []))
        refine own_st (fun _ kS => XS.iloadN X12.here hx rfl (hb hby at_101) rfl kS) ?_
        refine own_st (fun _ kS => XS.iconst X12.here hx rfl (hb hby at_102) kS) ?_
        show own_G p.tables e below _ (T12.setTop (mkF m 103 #[.val (.int p1), .val (.int p2), .val (.int (0 : Int32)), .val (.int (0 : Int32)), .val (.ref b1), .val (.ref b6), .val (.ref b10), .val (.int (1 : Int32)), .unset] [(.int (2 : Int32)), (.int (0 : Int32))]))
        refine own_st (fun _ kS => XS.icmpYes X12.here hx rfl (pc0 := 103) (pc' := 111) rfl (hb hby at_103) rfl (tlt (by decide : (0 : Int32) < (2 : Int32))).1 (by decide) (by decide) kS) ?_
        show own_G p.tables e below _ (T12.setTop (mkF m 111 #[.val (.int p1), .val (.int p2), .val (.int (0 : Int32)), .val (.int (0 : Int32)), .val (.ref b1), .val (.ref b6), .val (.ref b10), .val (.int (1 : Int32)), .unset] []))
        refine own_st (fun _ kS => XS.iloadN X12.here hx rfl (hb hby at_111) rfl kS) ?_
        show own_G p.tables e below _ (T12.setTop (mkF m 112 #[.val (.int p1), .val (.int p2), .val (.int (0 : Int32)), .val (.int (0 : Int32)), .val (.ref b1), .val (.ref b6), .val (.ref b10), .val (.int (1 : Int32)), .unset] [(.int (0 : Int32))]))
        refine own_st (fun _ kS => XS.ifNo X12.here hx rfl (hb hby at_112) rfl ((if0 _ _).trans (teq (by decide : (0 : Int32) = (0 : Int32))).2) kS) ?_
        show own_G p.tables e below _ (T12.setTop (mkF m 115 #[.val (.int p1), .val (.int p2), .val (.int (0 : Int32)), .val (.int (0 : Int32)), .val (.ref b1), .val (.ref b6), .val (.ref b10), .val (.int (1 : Int32)), .unset] []))
        refine own_st (fun _ kS => XS.iconst X12.here hx rfl (hb hby at_115) kS) ?_
        refine own_st (fun _ kS => XS.goto X12.here hx rfl (pc0 := 116) (pc' := 120) rfl (hb hby at_116) (by decide) (by decide) kS) ?_
        show own_G p.tables e below _ (T12.setTop (mkF m 120 #[.val (.int p1), .val (.int p2), .val (.int (0 : Int32)), .val (.int (0 : Int32)), .val (.ref b1), .val (.ref b6), .val (.ref b10), .val (.int (1 : Int32)), .unset] [(.int (1 : Int32))]))
        refine own_st (fun _ kS => XS.istore X12.here hx rfl (hb hby at_120) rfl (l' := #[.val (.int p1), .val (.int p2), .val (.int (0 : Int32)), .val (.int (0 : Int32)), .val (.ref b1), .val (.ref b6), .val (.ref b10), .val (.int (1 : Int32)), .val (.int (1 : Int32))]) rfl kS) ?_
        show own_G p.tables e below _ (T12.setTop (mkF m 122 #[.val (.int p1), .val (.int p2), .val (.int (0 : Int32)), .val (.int (0 : Int32)), .val (.ref b1), .val (.ref b6), .val (.ref b10), .val (.int (1 : Int32)), .val (.int (1 : Int32))] []))
        refine own_st (fun _ kS => XS.iload X12.here hx rfl (hb hby at_122) rfl kS) ?_
        show own_G p.tables e below _ (T12.setTop (mkF m 124 #[.val (.int p1), .val (.int p2), .val (.int (0 : Int32)), .val (.int (0 : Int32)), .val (.ref b1), .val (.ref b6), .val (.ref b10), .val (.int (1 : Int32)), .val (.int (1 : Int32))] [(.int (1 : Int32))]))
        refine own_st (fun _ kS => XS.ifNo X12.here hx rfl (hb hby at_124) rfl ((if0 _ _).trans (feq (by decide : ¬ ((1 : Int32) = (0 : Int32)))).1) kS) ?_
        show own_G p.tables e below _ (T12.setTop (mkF m 127 #[.val (.int p1), .val (.int p2), .val (.int (0 : Int32)), .val (.int (0 : Int32)), .val (.ref b1), .val (.ref b6), .val (.ref b10), .val (.int (1 : Int32)), .val (.int (1 : Int32))] []))
        refine own_st (fun _ kS => XS.aload X12.here hx rfl (hb hby at_127) rfl rfl kS) ?_
        show own_G p.tables e below _ (T12.setTop (mkF m 129 #[.val (.int p1), .val (.int p2), .val (.int (0 : Int32)), .val (.int (0 : Int32)), .val (.ref b1), .val (.ref b6), .val (.ref b10), .val (.int (1 : Int32)), .val (.int (1 : Int32))] [(.ref b10)]))
        obtain ⟨cq15, kq15, q15a, q15b, q15c⟩ := isOf hZ eq12 P11_0
        obtain ⟨_, _, ⟨T15, L15, k15, n15⟩, -, X15, ⟨Lc15, hQ15, l15, y15, z15⟩, st15⟩ := X12.virtualBack hx (y := (⟨"com/example/cartouche/cartouche/checking/Summary", "passed", "()Z"⟩ : MethodName)) (z := (⟨"com/example/cartouche/cartouche/checking/Summary", "passed", "()Z"⟩ : MethodName)) hown (mvT hZ (own_w hw 226 rfl)) (mvT hZ (own_w hw 227 rfl)) (notFace_of_selects (args := #[]) (mvT hZ (own_w hw 229 rfl))) (mvT hZ (own_w hw 229 rfl)) (mvT hZ (own_w hw 228 rfl)) (by decide) (backOf (W := 0) (rm_passed0_0 l Z a0 hw [] b10 T11.heap n0 (Nat.le_trans (Nat.le_trans (Nat.le_trans (Nat.le_trans (Nat.le_trans (Nat.le_trans (Nat.le_trans (Nat.le_trans (Nat.le_trans (Nat.le_trans (Nat.le_trans Z0 E1.1) E2.1) E3.1) Kc4.1) Kc5.1) E6.1) E7.1) Kc8.1) Kc9.1) E10.1) Kc11.1)  P11_1 P11_2 P11_3) hZ (own_w hw 230 rfl) (own_w hw 103 rfl) (by decide) (by decide)) q15a q15c (g := (mkF m 129 #[.val (.int p1), .val (.int p2), .val (.int (0 : Int32)), .val (.int (0 : Int32)), .val (.ref b1), .val (.ref b6), .val (.ref b10), .val (.int (1 : Int32)), .val (.int (1 : Int32))] [(.ref b10)])) rfl (by rw [hml]; rfl) (Steps.refl _) (argsL := []) (rest := []) (lenOf own_pd1 rfl) rfl (by show 2 * 0 + _ ≤ _; exact Nat.le_of_eq rfl) (hb hby at_129) (fun _ _ => ⟨rfl, eq12, (by decide : 15 + 0 ≤ _), (by decide : 70 + 0 ≤ _)⟩)
        dsimp only [Pt.U, Pt.locs, Pt.cells, Pt.slots] at X15 l15 y15 z15 st15 hQ15
        subst l15 y15 z15
        obtain ⟨rfl, Nq15, eq15⟩ := hQ15
        have N15 := Fr.app N12 Nq15
        refine own_tr st15 ?_
        show own_G p.tables e below _ (T15.setTop (mkF m 132 #[.val (.int p1), .val (.int p2), .val (.int (0 : Int32)), .val (.int (0 : Int32)), .val (.ref b1), .val (.ref b6), .val (.ref b10), .val (.int (1 : Int32)), .val (.int (1 : Int32))] [(.int (1 : Int32))]))
        refine own_st (fun _ kS => XS.iload X15.here hx rfl (hb hby at_132) rfl kS) ?_
        show own_G p.tables e below _ (T15.setTop (mkF m 134 #[.val (.int p1), .val (.int p2), .val (.int (0 : Int32)), .val (.int (0 : Int32)), .val (.ref b1), .val (.ref b6), .val (.ref b10), .val (.int (1 : Int32)), .val (.int (1 : Int32))] [(.int (1 : Int32)), (.int (1 : Int32))]))
        refine own_st (fun _ kS => XS.icmpNo X15.here hx rfl (hb hby at_134) rfl (teq (by decide : (1 : Int32) = (1 : Int32))).2 kS) ?_
        show own_G p.tables e below _ (T15.setTop (mkF m 137 #[.val (.int p1), .val (.int p2), .val (.int (0 : Int32)), .val (.int (0 : Int32)), .val (.ref b1), .val (.ref b6), .val (.ref b10), .val (.int (1 : Int32)), .val (.int (1 : Int32))] []))
        refine own_st (fun _ kS => XS.iconst X15.here hx rfl (hb hby at_137) kS) ?_
        refine own_st (fun _ kS => XS.goto X15.here hx rfl (pc0 := 138) (pc' := 142) rfl (hb hby at_138) (by decide) (by decide) kS) ?_
        show own_G p.tables e below _ (T15.setTop (mkF m 142 #[.val (.int p1), .val (.int p2), .val (.int (0 : Int32)), .val (.int (0 : Int32)), .val (.ref b1), .val (.ref b6), .val (.ref b10), .val (.int (1 : Int32)), .val (.int (1 : Int32))] [(.int (1 : Int32))]))
        exact own_retNW hS (own_le eq15 (Nat.le_trans (Nat.le_trans (Nat.le_trans (Nat.le_trans (Nat.le_trans (Nat.le_trans (Nat.le_trans (Nat.le_trans (Nat.le_trans hk2 E3.1) Kc4.1) Kc5.1) E6.1) E7.1) Kc8.1) Kc9.1) E10.1) Kc11.1)) X15 hx hlk (t := .boolean) hret (by simp) (hb hby at_142) (by decide) (by decide) (v' := (1 : Int32)) rfl (by rw [eq15]; exact ⟨rfl, N15⟩)
      · rw [hk14]
        show own_G p.tables e below _ (T12.setTop (mkF m 67 #[.val (.int p1), .val (.int p2), .val (.int (0 : Int32)), .val (.int (1 : Int32)), .val (.ref b1), .val (.ref b6), .val (.ref b10), .val (.int (1 : Int32)), .unset] []))
        refine own_st (fun _ kS => XS.iloadN X12.here hx rfl (hb hby at_67) rfl kS) ?_
        refine own_st (fun _ kS => XS.iconst X12.here hx rfl (hb hby at_68) kS) ?_
        show own_G p.tables e below _ (T12.setTop (mkF m 69 #[.val (.int p1), .val (.int p2), .val (.int (0 : Int32)), .val (.int (1 : Int32)), .val (.ref b1), .val (.ref b6), .val (.ref b10), .val (.int (1 : Int32)), .unset] [(.int (1 : Int32)), (.int (0 : Int32))]))
        refine own_st (fun _ kS => XS.icmpYes X12.here hx rfl (pc0 := 69) (pc' := 79) rfl (hb hby at_69) rfl (tlt (by decide : (0 : Int32) < (1 : Int32))).1 (by decide) (by decide) kS) ?_
        show own_G p.tables e below _ (T12.setTop (mkF m 79 #[.val (.int p1), .val (.int p2), .val (.int (0 : Int32)), .val (.int (1 : Int32)), .val (.ref b1), .val (.ref b6), .val (.ref b10), .val (.int (1 : Int32)), .unset] []))
        refine own_st (fun _ kS => XS.iloadN X12.here hx rfl (hb hby at_79) rfl kS) ?_
        refine own_st (fun _ kS => XS.iconst X12.here hx rfl (hb hby at_80) kS) ?_
        show own_G p.tables e below _ (T12.setTop (mkF m 81 #[.val (.int p1), .val (.int p2), .val (.int (0 : Int32)), .val (.int (1 : Int32)), .val (.ref b1), .val (.ref b6), .val (.ref b10), .val (.int (1 : Int32)), .unset] [(.int (2 : Int32)), (.int (0 : Int32))]))
        refine own_st (fun _ kS => XS.icmpYes X12.here hx rfl (pc0 := 81) (pc' := 91) rfl (hb hby at_81) rfl (tlt (by decide : (0 : Int32) < (2 : Int32))).1 (by decide) (by decide) kS) ?_
        show own_G p.tables e below _ (T12.setTop (mkF m 91 #[.val (.int p1), .val (.int p2), .val (.int (0 : Int32)), .val (.int (1 : Int32)), .val (.ref b1), .val (.ref b6), .val (.ref b10), .val (.int (1 : Int32)), .unset] []))
        refine own_st (fun _ kS => XS.iloadN X12.here hx rfl (hb hby at_91) rfl kS) ?_
        refine own_st (fun _ kS => XS.iconst X12.here hx rfl (hb hby at_92) kS) ?_
        show own_G p.tables e below _ (T12.setTop (mkF m 93 #[.val (.int p1), .val (.int p2), .val (.int (0 : Int32)), .val (.int (1 : Int32)), .val (.ref b1), .val (.ref b6), .val (.ref b10), .val (.int (1 : Int32)), .unset] [(.int (1 : Int32)), (.int (1 : Int32))]))
        refine own_st (fun _ kS => XS.icmpNo X12.here hx rfl (hb hby at_93) rfl (flt (by decide : ¬ ((1 : Int32) < (1 : Int32)))).1 kS) ?_
        show own_G p.tables e below _ (T12.setTop (mkF m 96 #[.val (.int p1), .val (.int p2), .val (.int (0 : Int32)), .val (.int (1 : Int32)), .val (.ref b1), .val (.ref b6), .val (.ref b10), .val (.int (1 : Int32)), .unset] []))
        refine own_st (fun _ kS => XS.aload X12.here hx rfl (hb hby at_96) rfl rfl kS) ?_
        show own_G p.tables e below _ (T12.setTop (mkF m 98 #[.val (.int p1), .val (.int p2), .val (.int (0 : Int32)), .val (.int (1 : Int32)), .val (.ref b1), .val (.ref b6), .val (.ref b10), .val (.int (1 : Int32)), .unset] [(.ref b10)]))
        obtain ⟨cq16, kq16, q16a, q16b, q16c⟩ := isOf hZ eq12 P11_0
        obtain ⟨_, _, ⟨T16, L16, k16, n16⟩, -, X16, ⟨Lc16, hQ16, l16, y16, z16⟩, st16⟩ := X12.virtualBack hx (y := (⟨"com/example/cartouche/cartouche/checking/Summary", "countUnreadable", "()V"⟩ : MethodName)) (z := (⟨"com/example/cartouche/cartouche/checking/Summary", "countUnreadable", "()V"⟩ : MethodName)) hown (mvT hZ (own_w hw 272 rfl)) (mvT hZ (own_w hw 273 rfl)) (notFace_of_selects (args := #[]) (mvT hZ (own_w hw 275 rfl))) (mvT hZ (own_w hw 275 rfl)) (mvT hZ (own_w hw 274 rfl)) (by decide) (backOf (W := 0) (rm_unread0_0 l Z a0 hw [] b10 T11.heap n0 (Nat.le_trans (Nat.le_trans (Nat.le_trans (Nat.le_trans (Nat.le_trans (Nat.le_trans (Nat.le_trans (Nat.le_trans (Nat.le_trans (Nat.le_trans (Nat.le_trans Z0 E1.1) E2.1) E3.1) Kc4.1) Kc5.1) E6.1) E7.1) Kc8.1) Kc9.1) E10.1) Kc11.1)  P11_0 ge_b10 P11_1 P11_2 P11_3) hZ (own_w hw 276 rfl) (own_w hw 103 rfl) (by decide) (by decide)) q16a q16c (g := (mkF m 98 #[.val (.int p1), .val (.int p2), .val (.int (0 : Int32)), .val (.int (1 : Int32)), .val (.ref b1), .val (.ref b6), .val (.ref b10), .val (.int (1 : Int32)), .unset] [(.ref b10)])) rfl (by rw [hml]; rfl) (Steps.refl _) (argsL := []) (rest := []) (lenOf own_pd0 rfl) rfl (by show 2 * 0 + _ ≤ _; exact Nat.le_of_eq rfl) (hb hby at_98) (fun _ _ => ⟨rfl, eq12, (by decide : 15 + 0 ≤ _), (by decide : 70 + 0 ≤ _)⟩)
        dsimp only [Pt.U, Pt.locs, Pt.cells, Pt.slots] at X16 l16 y16 z16 st16 hQ16
        subst l16 y16 z16
        obtain ⟨rfl, Nq16, Kc16, P16_0, P16_1, P16_2, P16_3⟩ := hQ16
        have N16 := Fr.app N12 Nq16
        have O16 := O11.keep Kc16 (allS ge_b10 all0)
        refine own_tr st16 ?_
        show own_G p.tables e below _ (T16.setTop (mkF m 101 #[.val (.int p1), .val (.int p2), .val (.int (0 : Int32)), .val (.int (1 : Int32)), .val (.ref b1), .val (.ref b6), .val (.ref b10), .val (.int (1 : Int32)), .unset] []))
        refine own_st (fun _ kS => XS.iloadN X16.here hx rfl (hb hby at_101) rfl kS) ?_
        refine own_st (fun _ kS => XS.iconst X16.here hx rfl (hb hby at_102) kS) ?_
        show own_G p.tables e below _ (T16.setTop (mkF m 103 #[.val (.int p1), .val (.int p2), .val (.int (0 : Int32)), .val (.int (1 : Int32)), .val (.ref b1), .val (.ref b6), .val (.ref b10), .val (.int (1 : Int32)), .unset] [(.int (2 : Int32)), (.int (1 : Int32))]))
        refine own_st (fun _ kS => XS.icmpYes X16.here hx rfl (pc0 := 103) (pc' := 111) rfl (hb hby at_103) rfl (tlt (by decide : (1 : Int32) < (2 : Int32))).1 (by decide) (by decide) kS) ?_
        show own_G p.tables e below _ (T16.setTop (mkF m 111 #[.val (.int p1), .val (.int p2), .val (.int (0 : Int32)), .val (.int (1 : Int32)), .val (.ref b1), .val (.ref b6), .val (.ref b10), .val (.int (1 : Int32)), .unset] []))
        refine own_st (fun _ kS => XS.iloadN X16.here hx rfl (hb hby at_111) rfl kS) ?_
        show own_G p.tables e below _ (T16.setTop (mkF m 112 #[.val (.int p1), .val (.int p2), .val (.int (0 : Int32)), .val (.int (1 : Int32)), .val (.ref b1), .val (.ref b6), .val (.ref b10), .val (.int (1 : Int32)), .unset] [(.int (1 : Int32))]))
        refine own_st (fun _ kS => XS.ifYes X16.here hx rfl (pc0 := 112) (pc' := 119) rfl (hb hby at_112) rfl ((if0 _ _).trans (feq (by decide : ¬ ((1 : Int32) = (0 : Int32)))).2) (by decide) (by decide) kS) ?_
        show own_G p.tables e below _ (T16.setTop (mkF m 119 #[.val (.int p1), .val (.int p2), .val (.int (0 : Int32)), .val (.int (1 : Int32)), .val (.ref b1), .val (.ref b6), .val (.ref b10), .val (.int (1 : Int32)), .unset] []))
        refine own_st (fun _ kS => XS.iconst X16.here hx rfl (hb hby at_119) kS) ?_
        show own_G p.tables e below _ (T16.setTop (mkF m 120 #[.val (.int p1), .val (.int p2), .val (.int (0 : Int32)), .val (.int (1 : Int32)), .val (.ref b1), .val (.ref b6), .val (.ref b10), .val (.int (1 : Int32)), .unset] [(.int (0 : Int32))]))
        refine own_st (fun _ kS => XS.istore X16.here hx rfl (hb hby at_120) rfl (l' := #[.val (.int p1), .val (.int p2), .val (.int (0 : Int32)), .val (.int (1 : Int32)), .val (.ref b1), .val (.ref b6), .val (.ref b10), .val (.int (1 : Int32)), .val (.int (0 : Int32))]) rfl kS) ?_
        show own_G p.tables e below _ (T16.setTop (mkF m 122 #[.val (.int p1), .val (.int p2), .val (.int (0 : Int32)), .val (.int (1 : Int32)), .val (.ref b1), .val (.ref b6), .val (.ref b10), .val (.int (1 : Int32)), .val (.int (0 : Int32))] []))
        refine own_st (fun _ kS => XS.iload X16.here hx rfl (hb hby at_122) rfl kS) ?_
        show own_G p.tables e below _ (T16.setTop (mkF m 124 #[.val (.int p1), .val (.int p2), .val (.int (0 : Int32)), .val (.int (1 : Int32)), .val (.ref b1), .val (.ref b6), .val (.ref b10), .val (.int (1 : Int32)), .val (.int (0 : Int32))] [(.int (1 : Int32))]))
        refine own_st (fun _ kS => XS.ifNo X16.here hx rfl (hb hby at_124) rfl ((if0 _ _).trans (feq (by decide : ¬ ((1 : Int32) = (0 : Int32)))).1) kS) ?_
        show own_G p.tables e below _ (T16.setTop (mkF m 127 #[.val (.int p1), .val (.int p2), .val (.int (0 : Int32)), .val (.int (1 : Int32)), .val (.ref b1), .val (.ref b6), .val (.ref b10), .val (.int (1 : Int32)), .val (.int (0 : Int32))] []))
        refine own_st (fun _ kS => XS.aload X16.here hx rfl (hb hby at_127) rfl rfl kS) ?_
        show own_G p.tables e below _ (T16.setTop (mkF m 129 #[.val (.int p1), .val (.int p2), .val (.int (0 : Int32)), .val (.int (1 : Int32)), .val (.ref b1), .val (.ref b6), .val (.ref b10), .val (.int (1 : Int32)), .val (.int (0 : Int32))] [(.ref b10)]))
        obtain ⟨cq17, kq17, q17a, q17b, q17c⟩ := isOf hZ rfl P16_0
        obtain ⟨_, _, ⟨T17, L17, k17, n17⟩, -, X17, ⟨Lc17, hQ17, l17, y17, z17⟩, st17⟩ := X16.virtualBack hx (y := (⟨"com/example/cartouche/cartouche/checking/Summary", "passed", "()Z"⟩ : MethodName)) (z := (⟨"com/example/cartouche/cartouche/checking/Summary", "passed", "()Z"⟩ : MethodName)) hown (mvT hZ (own_w hw 226 rfl)) (mvT hZ (own_w hw 227 rfl)) (notFace_of_selects (args := #[]) (mvT hZ (own_w hw 229 rfl))) (mvT hZ (own_w hw 229 rfl)) (mvT hZ (own_w hw 228 rfl)) (by decide) (backOf (W := 0) (rm_passed1_0 l Z a0 hw [] b10 T16.heap n0 (Nat.le_trans (Nat.le_trans (Nat.le_trans (Nat.le_trans (Nat.le_trans (Nat.le_trans (Nat.le_trans (Nat.le_trans (Nat.le_trans (Nat.le_trans (Nat.le_trans (Nat.le_trans Z0 E1.1) E2.1) E3.1) Kc4.1) Kc5.1) E6.1) E7.1) Kc8.1) Kc9.1) E10.1) Kc11.1) Kc16.1)  P16_1) hZ (own_w hw 230 rfl) (own_w hw 103 rfl) (by decide) (by decide)) q17a q17c (g := (mkF m 129 #[.val (.int p1), .val (.int p2), .val (.int (0 : Int32)), .val (.int (1 : Int32)), .val (.ref b1), .val (.ref b6), .val (.ref b10), .val (.int (1 : Int32)), .val (.int (0 : Int32))] [(.ref b10)])) rfl (by rw [hml]; rfl) (Steps.refl _) (argsL := []) (rest := []) (lenOf own_pd1 rfl) rfl (by show 2 * 0 + _ ≤ _; exact Nat.le_of_eq rfl) (hb hby at_129) (fun _ _ => ⟨rfl, rfl, (by decide : 15 + 0 ≤ _), (by decide : 70 + 0 ≤ _)⟩)
        dsimp only [Pt.U, Pt.locs, Pt.cells, Pt.slots] at X17 l17 y17 z17 st17 hQ17
        subst l17 y17 z17
        obtain ⟨rfl, Nq17, eq17⟩ := hQ17
        have N17 := Fr.app N16 Nq17
        refine own_tr st17 ?_
        show own_G p.tables e below _ (T17.setTop (mkF m 132 #[.val (.int p1), .val (.int p2), .val (.int (0 : Int32)), .val (.int (1 : Int32)), .val (.ref b1), .val (.ref b6), .val (.ref b10), .val (.int (1 : Int32)), .val (.int (0 : Int32))] [(.int (0 : Int32))]))
        refine own_st (fun _ kS => XS.iload X17.here hx rfl (hb hby at_132) rfl kS) ?_
        show own_G p.tables e below _ (T17.setTop (mkF m 134 #[.val (.int p1), .val (.int p2), .val (.int (0 : Int32)), .val (.int (1 : Int32)), .val (.ref b1), .val (.ref b6), .val (.ref b10), .val (.int (1 : Int32)), .val (.int (0 : Int32))] [(.int (0 : Int32)), (.int (0 : Int32))]))
        refine own_st (fun _ kS => XS.icmpNo X17.here hx rfl (hb hby at_134) rfl (teq (by decide : (0 : Int32) = (0 : Int32))).2 kS) ?_
        show own_G p.tables e below _ (T17.setTop (mkF m 137 #[.val (.int p1), .val (.int p2), .val (.int (0 : Int32)), .val (.int (1 : Int32)), .val (.ref b1), .val (.ref b6), .val (.ref b10), .val (.int (1 : Int32)), .val (.int (0 : Int32))] []))
        refine own_st (fun _ kS => XS.iconst X17.here hx rfl (hb hby at_137) kS) ?_
        refine own_st (fun _ kS => XS.goto X17.here hx rfl (pc0 := 138) (pc' := 142) rfl (hb hby at_138) (by decide) (by decide) kS) ?_
        show own_G p.tables e below _ (T17.setTop (mkF m 142 #[.val (.int p1), .val (.int p2), .val (.int (0 : Int32)), .val (.int (1 : Int32)), .val (.ref b1), .val (.ref b6), .val (.ref b10), .val (.int (1 : Int32)), .val (.int (0 : Int32))] [(.int (1 : Int32))]))
        exact own_retNW hS (own_le eq17 (Nat.le_trans (Nat.le_trans (Nat.le_trans (Nat.le_trans (Nat.le_trans (Nat.le_trans (Nat.le_trans (Nat.le_trans (Nat.le_trans (Nat.le_trans hk2 E3.1) Kc4.1) Kc5.1) E6.1) E7.1) Kc8.1) Kc9.1) E10.1) Kc11.1) Kc16.1)) X17 hx hlk (t := .boolean) hret (by simp) (hb hby at_142) (by decide) (by decide) (v' := (1 : Int32)) rfl (by rw [eq17]; exact ⟨rfl, N17⟩)
      · rw [hk14]
        show own_G p.tables e below _ (T12.setTop (mkF m 67 #[.val (.int p1), .val (.int p2), .val (.int (0 : Int32)), .val (.int (2 : Int32)), .val (.ref b1), .val (.ref b6), .val (.ref b10), .val (.int (1 : Int32)), .unset] []))
        refine own_st (fun _ kS => XS.iloadN X12.here hx rfl (hb hby at_67) rfl kS) ?_
        refine own_st (fun _ kS => XS.iconst X12.here hx rfl (hb hby at_68) kS) ?_
        show own_G p.tables e below _ (T12.setTop (mkF m 69 #[.val (.int p1), .val (.int p2), .val (.int (0 : Int32)), .val (.int (2 : Int32)), .val (.ref b1), .val (.ref b6), .val (.ref b10), .val (.int (1 : Int32)), .unset] [(.int (1 : Int32)), (.int (0 : Int32))]))
        refine own_st (fun _ kS => XS.icmpYes X12.here hx rfl (pc0 := 69) (pc' := 79) rfl (hb hby at_69) rfl (tlt (by decide : (0 : Int32) < (1 : Int32))).1 (by decide) (by decide) kS) ?_
        show own_G p.tables e below _ (T12.setTop (mkF m 79 #[.val (.int p1), .val (.int p2), .val (.int (0 : Int32)), .val (.int (2 : Int32)), .val (.ref b1), .val (.ref b6), .val (.ref b10), .val (.int (1 : Int32)), .unset] []))
        refine own_st (fun _ kS => XS.iloadN X12.here hx rfl (hb hby at_79) rfl kS) ?_
        refine own_st (fun _ kS => XS.iconst X12.here hx rfl (hb hby at_80) kS) ?_
        show own_G p.tables e below _ (T12.setTop (mkF m 81 #[.val (.int p1), .val (.int p2), .val (.int (0 : Int32)), .val (.int (2 : Int32)), .val (.ref b1), .val (.ref b6), .val (.ref b10), .val (.int (1 : Int32)), .unset] [(.int (2 : Int32)), (.int (0 : Int32))]))
        refine own_st (fun _ kS => XS.icmpYes X12.here hx rfl (pc0 := 81) (pc' := 91) rfl (hb hby at_81) rfl (tlt (by decide : (0 : Int32) < (2 : Int32))).1 (by decide) (by decide) kS) ?_
        show own_G p.tables e below _ (T12.setTop (mkF m 91 #[.val (.int p1), .val (.int p2), .val (.int (0 : Int32)), .val (.int (2 : Int32)), .val (.ref b1), .val (.ref b6), .val (.ref b10), .val (.int (1 : Int32)), .unset] []))
        refine own_st (fun _ kS => XS.iloadN X12.here hx rfl (hb hby at_91) rfl kS) ?_
        refine own_st (fun _ kS => XS.iconst X12.here hx rfl (hb hby at_92) kS) ?_
        show own_G p.tables e below _ (T12.setTop (mkF m 93 #[.val (.int p1), .val (.int p2), .val (.int (0 : Int32)), .val (.int (2 : Int32)), .val (.ref b1), .val (.ref b6), .val (.ref b10), .val (.int (1 : Int32)), .unset] [(.int (1 : Int32)), (.int (2 : Int32))]))
        refine own_st (fun _ kS => XS.icmpNo X12.here hx rfl (hb hby at_93) rfl (flt (by decide : ¬ ((2 : Int32) < (1 : Int32)))).1 kS) ?_
        show own_G p.tables e below _ (T12.setTop (mkF m 96 #[.val (.int p1), .val (.int p2), .val (.int (0 : Int32)), .val (.int (2 : Int32)), .val (.ref b1), .val (.ref b6), .val (.ref b10), .val (.int (1 : Int32)), .unset] []))
        refine own_st (fun _ kS => XS.aload X12.here hx rfl (hb hby at_96) rfl rfl kS) ?_
        show own_G p.tables e below _ (T12.setTop (mkF m 98 #[.val (.int p1), .val (.int p2), .val (.int (0 : Int32)), .val (.int (2 : Int32)), .val (.ref b1), .val (.ref b6), .val (.ref b10), .val (.int (1 : Int32)), .unset] [(.ref b10)]))
        obtain ⟨cq18, kq18, q18a, q18b, q18c⟩ := isOf hZ eq12 P11_0
        obtain ⟨_, _, ⟨T18, L18, k18, n18⟩, -, X18, ⟨Lc18, hQ18, l18, y18, z18⟩, st18⟩ := X12.virtualBack hx (y := (⟨"com/example/cartouche/cartouche/checking/Summary", "countUnreadable", "()V"⟩ : MethodName)) (z := (⟨"com/example/cartouche/cartouche/checking/Summary", "countUnreadable", "()V"⟩ : MethodName)) hown (mvT hZ (own_w hw 272 rfl)) (mvT hZ (own_w hw 273 rfl)) (notFace_of_selects (args := #[]) (mvT hZ (own_w hw 275 rfl))) (mvT hZ (own_w hw 275 rfl)) (mvT hZ (own_w hw 274 rfl)) (by decide) (backOf (W := 0) (rm_unread0_0 l Z a0 hw [] b10 T11.heap n0 (Nat.le_trans (Nat.le_trans (Nat.le_trans (Nat.le_trans (Nat.le_trans (Nat.le_trans (Nat.le_trans (Nat.le_trans (Nat.le_trans (Nat.le_trans (Nat.le_trans Z0 E1.1) E2.1) E3.1) Kc4.1) Kc5.1) E6.1) E7.1) Kc8.1) Kc9.1) E10.1) Kc11.1)  P11_0 ge_b10 P11_1 P11_2 P11_3) hZ (own_w hw 276 rfl) (own_w hw 103 rfl) (by decide) (by decide)) q18a q18c (g := (mkF m 98 #[.val (.int p1), .val (.int p2), .val (.int (0 : Int32)), .val (.int (2 : Int32)), .val (.ref b1), .val (.ref b6), .val (.ref b10), .val (.int (1 : Int32)), .unset] [(.ref b10)])) rfl (by rw [hml]; rfl) (Steps.refl _) (argsL := []) (rest := []) (lenOf own_pd0 rfl) rfl (by show 2 * 0 + _ ≤ _; exact Nat.le_of_eq rfl) (hb hby at_98) (fun _ _ => ⟨rfl, eq12, (by decide : 15 + 0 ≤ _), (by decide : 70 + 0 ≤ _)⟩)
        dsimp only [Pt.U, Pt.locs, Pt.cells, Pt.slots] at X18 l18 y18 z18 st18 hQ18
        subst l18 y18 z18
        obtain ⟨rfl, Nq18, Kc18, P18_0, P18_1, P18_2, P18_3⟩ := hQ18
        have N18 := Fr.app N12 Nq18
        have O18 := O11.keep Kc18 (allS ge_b10 all0)
        refine own_tr st18 ?_
        show own_G p.tables e below _ (T18.setTop (mkF m 101 #[.val (.int p1), .val (.int p2), .val (.int (0 : Int32)), .val (.int (2 : Int32)), .val (.ref b1), .val (.ref b6), .val (.ref b10), .val (.int (1 : Int32)), .unset] []))
        refine own_st (fun _ kS => XS.iloadN X18.here hx rfl (hb hby at_101) rfl kS) ?_
        refine own_st (fun _ kS => XS.iconst X18.here hx rfl (hb hby at_102) kS) ?_
        show own_G p.tables e below _ (T18.setTop (mkF m 103 #[.val (.int p1), .val (.int p2), .val (.int (0 : Int32)), .val (.int (2 : Int32)), .val (.ref b1), .val (.ref b6), .val (.ref b10), .val (.int (1 : Int32)), .unset] [(.int (2 : Int32)), (.int (2 : Int32))]))
        refine own_st (fun _ kS => XS.icmpNo X18.here hx rfl (hb hby at_103) rfl (flt (by decide : ¬ ((2 : Int32) < (2 : Int32)))).1 kS) ?_
        show own_G p.tables e below _ (T18.setTop (mkF m 106 #[.val (.int p1), .val (.int p2), .val (.int (0 : Int32)), .val (.int (2 : Int32)), .val (.ref b1), .val (.ref b6), .val (.ref b10), .val (.int (1 : Int32)), .unset] []))
        refine own_st (fun _ kS => XS.aload X18.here hx rfl (hb hby at_106) rfl rfl kS) ?_
        show own_G p.tables e below _ (T18.setTop (mkF m 108 #[.val (.int p1), .val (.int p2), .val (.int (0 : Int32)), .val (.int (2 : Int32)), .val (.ref b1), .val (.ref b6), .val (.ref b10), .val (.int (1 : Int32)), .unset] [(.ref b10)]))
        obtain ⟨cq19, kq19, q19a, q19b, q19c⟩ := isOf hZ rfl P18_0
        obtain ⟨_, _, ⟨T19, L19, k19, n19⟩, -, X19, ⟨Lc19, hQ19, l19, y19, z19⟩, st19⟩ := X18.virtualBack hx (y := (⟨"com/example/cartouche/cartouche/checking/Summary", "countUnreadable", "()V"⟩ : MethodName)) (z := (⟨"com/example/cartouche/cartouche/checking/Summary", "countUnreadable", "()V"⟩ : MethodName)) hown (mvT hZ (own_w hw 272 rfl)) (mvT hZ (own_w hw 273 rfl)) (notFace_of_selects (args := #[]) (mvT hZ (own_w hw 275 rfl))) (mvT hZ (own_w hw 275 rfl)) (mvT hZ (own_w hw 274 rfl)) (by decide) (backOf (W := 0) (rm_unread1_0 l Z a0 hw [] b10 T18.heap n0 (Nat.le_trans (Nat.le_trans (Nat.le_trans (Nat.le_trans (Nat.le_trans (Nat.le_trans (Nat.le_trans (Nat.le_trans (Nat.le_trans (Nat.le_trans (Nat.le_trans (Nat.le_trans Z0 E1.1) E2.1) E3.1) Kc4.1) Kc5.1) E6.1) E7.1) Kc8.1) Kc9.1) E10.1) Kc11.1) Kc18.1)  P18_0 ge_b10 P18_1 P18_2 P18_3) hZ (own_w hw 276 rfl) (own_w hw 103 rfl) (by decide) (by decide)) q19a q19c (g := (mkF m 108 #[.val (.int p1), .val (.int p2), .val (.int (0 : Int32)), .val (.int (2 : Int32)), .val (.ref b1), .val (.ref b6), .val (.ref b10), .val (.int (1 : Int32)), .unset] [(.ref b10)])) rfl (by rw [hml]; rfl) (Steps.refl _) (argsL := []) (rest := []) (lenOf own_pd0 rfl) rfl (by show 2 * 0 + _ ≤ _; exact Nat.le_of_eq rfl) (hb hby at_108) (fun _ _ => ⟨rfl, rfl, (by decide : 15 + 0 ≤ _), (by decide : 70 + 0 ≤ _)⟩)
        dsimp only [Pt.U, Pt.locs, Pt.cells, Pt.slots] at X19 l19 y19 z19 st19 hQ19
        subst l19 y19 z19
        obtain ⟨rfl, Nq19, Kc19, P19_0, P19_1, P19_2, P19_3⟩ := hQ19
        have N19 := Fr.app N18 Nq19
        have O19 := O18.keep Kc19 (allS ge_b10 all0)
        refine own_tr st19 ?_
        show own_G p.tables e below _ (T19.setTop (mkF m 111 #[.val (.int p1), .val (.int p2), .val (.int (0 : Int32)), .val (.int (2 : Int32)), .val (.ref b1), .val (.ref b6), .val (.ref b10), .val (.int (1 : Int32)), .unset] []))
        refine own_st (fun _ kS => XS.iloadN X19.here hx rfl (hb hby at_111) rfl kS) ?_
        show own_G p.tables e below _ (T19.setTop (mkF m 112 #[.val (.int p1), .val (.int p2), .val (.int (0 : Int32)), .val (.int (2 : Int32)), .val (.ref b1), .val (.ref b6), .val (.ref b10), .val (.int (1 : Int32)), .unset] [(.int (2 : Int32))]))
        refine own_st (fun _ kS => XS.ifYes X19.here hx rfl (pc0 := 112) (pc' := 119) rfl (hb hby at_112) rfl ((if0 _ _).trans (feq (by decide : ¬ ((2 : Int32) = (0 : Int32)))).2) (by decide) (by decide) kS) ?_
        show own_G p.tables e below _ (T19.setTop (mkF m 119 #[.val (.int p1), .val (.int p2), .val (.int (0 : Int32)), .val (.int (2 : Int32)), .val (.ref b1), .val (.ref b6), .val (.ref b10), .val (.int (1 : Int32)), .unset] []))
        refine own_st (fun _ kS => XS.iconst X19.here hx rfl (hb hby at_119) kS) ?_
        show own_G p.tables e below _ (T19.setTop (mkF m 120 #[.val (.int p1), .val (.int p2), .val (.int (0 : Int32)), .val (.int (2 : Int32)), .val (.ref b1), .val (.ref b6), .val (.ref b10), .val (.int (1 : Int32)), .unset] [(.int (0 : Int32))]))
        refine own_st (fun _ kS => XS.istore X19.here hx rfl (hb hby at_120) rfl (l' := #[.val (.int p1), .val (.int p2), .val (.int (0 : Int32)), .val (.int (2 : Int32)), .val (.ref b1), .val (.ref b6), .val (.ref b10), .val (.int (1 : Int32)), .val (.int (0 : Int32))]) rfl kS) ?_
        show own_G p.tables e below _ (T19.setTop (mkF m 122 #[.val (.int p1), .val (.int p2), .val (.int (0 : Int32)), .val (.int (2 : Int32)), .val (.ref b1), .val (.ref b6), .val (.ref b10), .val (.int (1 : Int32)), .val (.int (0 : Int32))] []))
        refine own_st (fun _ kS => XS.iload X19.here hx rfl (hb hby at_122) rfl kS) ?_
        show own_G p.tables e below _ (T19.setTop (mkF m 124 #[.val (.int p1), .val (.int p2), .val (.int (0 : Int32)), .val (.int (2 : Int32)), .val (.ref b1), .val (.ref b6), .val (.ref b10), .val (.int (1 : Int32)), .val (.int (0 : Int32))] [(.int (1 : Int32))]))
        refine own_st (fun _ kS => XS.ifNo X19.here hx rfl (hb hby at_124) rfl ((if0 _ _).trans (feq (by decide : ¬ ((1 : Int32) = (0 : Int32)))).1) kS) ?_
        show own_G p.tables e below _ (T19.setTop (mkF m 127 #[.val (.int p1), .val (.int p2), .val (.int (0 : Int32)), .val (.int (2 : Int32)), .val (.ref b1), .val (.ref b6), .val (.ref b10), .val (.int (1 : Int32)), .val (.int (0 : Int32))] []))
        refine own_st (fun _ kS => XS.aload X19.here hx rfl (hb hby at_127) rfl rfl kS) ?_
        show own_G p.tables e below _ (T19.setTop (mkF m 129 #[.val (.int p1), .val (.int p2), .val (.int (0 : Int32)), .val (.int (2 : Int32)), .val (.ref b1), .val (.ref b6), .val (.ref b10), .val (.int (1 : Int32)), .val (.int (0 : Int32))] [(.ref b10)]))
        obtain ⟨cq20, kq20, q20a, q20b, q20c⟩ := isOf hZ rfl P19_0
        obtain ⟨_, _, ⟨T20, L20, k20, n20⟩, -, X20, ⟨Lc20, hQ20, l20, y20, z20⟩, st20⟩ := X19.virtualBack hx (y := (⟨"com/example/cartouche/cartouche/checking/Summary", "passed", "()Z"⟩ : MethodName)) (z := (⟨"com/example/cartouche/cartouche/checking/Summary", "passed", "()Z"⟩ : MethodName)) hown (mvT hZ (own_w hw 226 rfl)) (mvT hZ (own_w hw 227 rfl)) (notFace_of_selects (args := #[]) (mvT hZ (own_w hw 229 rfl))) (mvT hZ (own_w hw 229 rfl)) (mvT hZ (own_w hw 228 rfl)) (by decide) (backOf (W := 0) (rm_passed2_0 l Z a0 hw [] b10 T19.heap n0 (Nat.le_trans (Nat.le_trans (Nat.le_trans (Nat.le_trans (Nat.le_trans (Nat.le_trans (Nat.le_trans (Nat.le_trans (Nat.le_trans (Nat.le_trans (Nat.le_trans (Nat.le_trans (Nat.le_trans Z0 E1.1) E2.1) E3.1) Kc4.1) Kc5.1) E6.1) E7.1) Kc8.1) Kc9.1) E10.1) Kc11.1) Kc18.1) Kc19.1)  P19_1) hZ (own_w hw 230 rfl) (own_w hw 103 rfl) (by decide) (by decide)) q20a q20c (g := (mkF m 129 #[.val (.int p1), .val (.int p2), .val (.int (0 : Int32)), .val (.int (2 : Int32)), .val (.ref b1), .val (.ref b6), .val (.ref b10), .val (.int (1 : Int32)), .val (.int (0 : Int32))] [(.ref b10)])) rfl (by rw [hml]; rfl) (Steps.refl _) (argsL := []) (rest := []) (lenOf own_pd1 rfl) rfl (by show 2 * 0 + _ ≤ _; exact Nat.le_of_eq rfl) (hb hby at_129) (fun _ _ => ⟨rfl, rfl, (by decide : 15 + 0 ≤ _), (by decide : 70 + 0 ≤ _)⟩)
        dsimp only [Pt.U, Pt.locs, Pt.cells, Pt.slots] at X20 l20 y20 z20 st20 hQ20
        subst l20 y20 z20
        obtain ⟨rfl, Nq20, eq20⟩ := hQ20
        have N20 := Fr.app N19 Nq20
        refine own_tr st20 ?_
        show own_G p.tables e below _ (T20.setTop (mkF m 132 #[.val (.int p1), .val (.int p2), .val (.int (0 : Int32)), .val (.int (2 : Int32)), .val (.ref b1), .val (.ref b6), .val (.ref b10), .val (.int (1 : Int32)), .val (.int (0 : Int32))] [(.int (0 : Int32))]))
        refine own_st (fun _ kS => XS.iload X20.here hx rfl (hb hby at_132) rfl kS) ?_
        show own_G p.tables e below _ (T20.setTop (mkF m 134 #[.val (.int p1), .val (.int p2), .val (.int (0 : Int32)), .val (.int (2 : Int32)), .val (.ref b1), .val (.ref b6), .val (.ref b10), .val (.int (1 : Int32)), .val (.int (0 : Int32))] [(.int (0 : Int32)), (.int (0 : Int32))]))
        refine own_st (fun _ kS => XS.icmpNo X20.here hx rfl (hb hby at_134) rfl (teq (by decide : (0 : Int32) = (0 : Int32))).2 kS) ?_
        show own_G p.tables e below _ (T20.setTop (mkF m 137 #[.val (.int p1), .val (.int p2), .val (.int (0 : Int32)), .val (.int (2 : Int32)), .val (.ref b1), .val (.ref b6), .val (.ref b10), .val (.int (1 : Int32)), .val (.int (0 : Int32))] []))
        refine own_st (fun _ kS => XS.iconst X20.here hx rfl (hb hby at_137) kS) ?_
        refine own_st (fun _ kS => XS.goto X20.here hx rfl (pc0 := 138) (pc' := 142) rfl (hb hby at_138) (by decide) (by decide) kS) ?_
        show own_G p.tables e below _ (T20.setTop (mkF m 142 #[.val (.int p1), .val (.int p2), .val (.int (0 : Int32)), .val (.int (2 : Int32)), .val (.ref b1), .val (.ref b6), .val (.ref b10), .val (.int (1 : Int32)), .val (.int (0 : Int32))] [(.int (1 : Int32))]))
        exact own_retNW hS (own_le eq20 (Nat.le_trans (Nat.le_trans (Nat.le_trans (Nat.le_trans (Nat.le_trans (Nat.le_trans (Nat.le_trans (Nat.le_trans (Nat.le_trans (Nat.le_trans (Nat.le_trans hk2 E3.1) Kc4.1) Kc5.1) E6.1) E7.1) Kc8.1) Kc9.1) E10.1) Kc11.1) Kc18.1) Kc19.1)) X20 hx hlk (t := .boolean) hret (by simp) (hb hby at_142) (by decide) (by decide) (v' := (1 : Int32)) rfl (by rw [eq20]; exact ⟨rfl, N20⟩)
    · rw [hk13]
      show own_G p.tables e below _ (T12.setTop (mkF m 67 #[.val (.int p1), .val (.int p2), .val (.int (1 : Int32)), .val (.int ((p2 &&& (2147483647 : Int32)) % (3 : Int32))), .val (.ref b1), .val (.ref b6), .val (.ref b10), .val (.int (1 : Int32)), .unset] []))
      rcases own_mod3 p2 with hk21 | hk21 | hk21
      · rw [hk21]
        show own_G p.tables e below _ (T12.setTop (mkF m 67 #[.val (.int p1), .val (.int p2), .val (.int (1 : Int32)), .val (.int (0 : Int32)), .val (.ref b1), .val (.ref b6), .val (.ref b10), .val (.int (1 : Int32)), .unset] []))
        refine own_st (fun _ kS => XS.iloadN X12.here hx rfl (hb hby at_67) rfl kS) ?_
        refine own_st (fun _ kS => XS.iconst X12.here hx rfl (hb hby at_68) kS) ?_
        show own_G p.tables e below _ (T12.setTop (mkF m 69 #[.val (.int p1), .val (.int p2), .val (.int (1 : Int32)), .val (.int (0 : Int32)), .val (.ref b1), .val (.ref b6), .val (.ref b10), .val (.int (1 : Int32)), .unset] [(.int (1 : Int32)), (.int (1 : Int32))]))
        refine own_st (fun _ kS => XS.icmpNo X12.here hx rfl (hb hby at_69) rfl (flt (by decide : ¬ ((1 : Int32) < (1 : Int32)))).1 kS) ?_
        show own_G p.tables e below _ (T12.setTop (mkF m 72 #[.val (.int p1), .val (.int p2), .val (.int (1 : Int32)), .val (.int (0 : Int32)), .val (.ref b1), .val (.ref b6), .val (.ref b10), .val (.int (1 : Int32)), .unset] []))
        refine own_st (fun _ kS => XS.aload X12.here hx rfl (hb hby at_72) rfl rfl kS) ?_
        refine own_st (fun _ kS => XS.aload X12.here hx rfl (hb hby at_74) rfl rfl kS) ?_
        show own_G p.tables e below _ (T12.setTop (mkF m 76 #[.val (.int p1), .val (.int p2), .val (.int (1 : Int32)), .val (.int (0 : Int32)), .val (.ref b1), .val (.ref b6), .val (.ref b10), .val (.int (1 : Int32)), .unset] [(.ref b6), (.ref b10)]))
        obtain ⟨cq22, kq22, q22a, q22b, q22c⟩ := isOf hZ eq12 P11_0
        obtain ⟨_, _, ⟨T22, L22, k22, n22⟩, -, X22, ⟨Lc22, hQ22, l22, y22, z22⟩, st22⟩ := X12.virtualBack hx (y := (⟨"com/example/cartouche/cartouche/checking/Summary", "count", "(Lcom/example/cartouche/cartouche/checking/Verdict;)V"⟩ : MethodName)) (z := (⟨"com/example/cartouche/cartouche/checking/Summary", "count", "(Lcom/example/cartouche/cartouche/checking/Verdict;)V"⟩ : MethodName)) hown (mvT hZ (own_w hw 237 rfl)) (mvT hZ (own_w hw 238 rfl)) (notFace_of_selects (args := #[]) (mvT hZ (own_w hw 240 rfl))) (mvT hZ (own_w hw 240 rfl)) (mvT hZ (own_w hw 239 rfl)) (by decide) (backOf (W := 0) (rm_count1_0 l Z a0 hw [] b10 b6 b7 wL wE kE wD w_REQUIRED w_RECOMMENDED T11.heap n0 (Nat.le_trans (Nat.le_trans (Nat.le_trans (Nat.le_trans (Nat.le_trans (Nat.le_trans (Nat.le_trans (Nat.le_trans (Nat.le_trans (Nat.le_trans (Nat.le_trans Z0 E1.1) E2.1) E3.1) Kc4.1) Kc5.1) E6.1) E7.1) Kc8.1) Kc9.1) E10.1) Kc11.1) O11 P11_0 ge_b10 (Ne.symm ne_b6_b10) (Ne.symm ne_b7_b10) P11_1 P11_2 P11_3 ((Exa.ext E10 P9_0).keep Kc11) ((Fld.ext E10 P9_1).keep Kc11 (ninS ne_b6_b10 nin0)) ((Exa.ext E10 (P8_0.keep Kc9)).keep Kc11) ((Fld.ext E10 (P8_2.keep Kc9 (ninS (Ne.symm ne_b6_b7) nin0))).keep Kc11 (ninS ne_b7_b10 nin0)) ((Fld.ext E10 (P8_1.keep Kc9 (ninS (Ne.symm ne_b6_b7) nin0))).keep Kc11 (ninS ne_b7_b10 nin0)) E_L F_el R_E S_D S_REQUIRED S_RECOMMENDED) hZ (own_w hw 241 rfl) (own_w hw 103 rfl) (by decide) (by decide)) q22a q22c (g := (mkF m 76 #[.val (.int p1), .val (.int p2), .val (.int (1 : Int32)), .val (.int (0 : Int32)), .val (.ref b1), .val (.ref b6), .val (.ref b10), .val (.int (1 : Int32)), .unset] [(.ref b6), (.ref b10)])) rfl (by rw [hml]; rfl) (Steps.refl _) (argsL := [(.ref b6)]) (rest := []) (lenOf own_pd13 rfl) rfl (by show 2 * 0 + _ ≤ _; exact Nat.le_of_eq rfl) (hb hby at_76) (fun _ _ => ⟨rfl, eq12, (by decide : 15 + 8 ≤ _), (by decide : 70 + 29 ≤ _)⟩)
        dsimp only [Pt.U, Pt.locs, Pt.cells, Pt.slots] at X22 l22 y22 z22 st22 hQ22
        subst l22 y22 z22
        obtain ⟨rfl, Nq22, Kc22, P22_0, P22_1, P22_2, P22_3⟩ := hQ22
        have N22 := Fr.app N12 Nq22
        have O22 := O11.keep Kc22 (allS ge_b10 all0)
        refine own_tr st22 ?_
        show own_G p.tables e below _ (T22.setTop (mkF m 79 #[.val (.int p1), .val (.int p2), .val (.int (1 : Int32)), .val (.int (0 : Int32)), .val (.ref b1), .val (.ref b6), .val (.ref b10), .val (.int (1 : Int32)), .unset] []))
        refine own_st (fun _ kS => XS.iloadN X22.here hx rfl (hb hby at_79) rfl kS) ?_
        refine own_st (fun _ kS => XS.iconst X22.here hx rfl (hb hby at_80) kS) ?_
        show own_G p.tables e below _ (T22.setTop (mkF m 81 #[.val (.int p1), .val (.int p2), .val (.int (1 : Int32)), .val (.int (0 : Int32)), .val (.ref b1), .val (.ref b6), .val (.ref b10), .val (.int (1 : Int32)), .unset] [(.int (2 : Int32)), (.int (1 : Int32))]))
        refine own_st (fun _ kS => XS.icmpYes X22.here hx rfl (pc0 := 81) (pc' := 91) rfl (hb hby at_81) rfl (tlt (by decide : (1 : Int32) < (2 : Int32))).1 (by decide) (by decide) kS) ?_
        show own_G p.tables e below _ (T22.setTop (mkF m 91 #[.val (.int p1), .val (.int p2), .val (.int (1 : Int32)), .val (.int (0 : Int32)), .val (.ref b1), .val (.ref b6), .val (.ref b10), .val (.int (1 : Int32)), .unset] []))
        refine own_st (fun _ kS => XS.iloadN X22.here hx rfl (hb hby at_91) rfl kS) ?_
        refine own_st (fun _ kS => XS.iconst X22.here hx rfl (hb hby at_92) kS) ?_
        show own_G p.tables e below _ (T22.setTop (mkF m 93 #[.val (.int p1), .val (.int p2), .val (.int (1 : Int32)), .val (.int (0 : Int32)), .val (.ref b1), .val (.ref b6), .val (.ref b10), .val (.int (1 : Int32)), .unset] [(.int (1 : Int32)), (.int (0 : Int32))]))
        refine own_st (fun _ kS => XS.icmpYes X22.here hx rfl (pc0 := 93) (pc' := 101) rfl (hb hby at_93) rfl (tlt (by decide : (0 : Int32) < (1 : Int32))).1 (by decide) (by decide) kS) ?_
        show own_G p.tables e below _ (T22.setTop (mkF m 101 #[.val (.int p1), .val (.int p2), .val (.int (1 : Int32)), .val (.int (0 : Int32)), .val (.ref b1), .val (.ref b6), .val (.ref b10), .val (.int (1 : Int32)), .unset] []))
        refine own_st (fun _ kS => XS.iloadN X22.here hx rfl (hb hby at_101) rfl kS) ?_
        refine own_st (fun _ kS => XS.iconst X22.here hx rfl (hb hby at_102) kS) ?_
        show own_G p.tables e below _ (T22.setTop (mkF m 103 #[.val (.int p1), .val (.int p2), .val (.int (1 : Int32)), .val (.int (0 : Int32)), .val (.ref b1), .val (.ref b6), .val (.ref b10), .val (.int (1 : Int32)), .unset] [(.int (2 : Int32)), (.int (0 : Int32))]))
        refine own_st (fun _ kS => XS.icmpYes X22.here hx rfl (pc0 := 103) (pc' := 111) rfl (hb hby at_103) rfl (tlt (by decide : (0 : Int32) < (2 : Int32))).1 (by decide) (by decide) kS) ?_
        show own_G p.tables e below _ (T22.setTop (mkF m 111 #[.val (.int p1), .val (.int p2), .val (.int (1 : Int32)), .val (.int (0 : Int32)), .val (.ref b1), .val (.ref b6), .val (.ref b10), .val (.int (1 : Int32)), .unset] []))
        refine own_st (fun _ kS => XS.iloadN X22.here hx rfl (hb hby at_111) rfl kS) ?_
        show own_G p.tables e below _ (T22.setTop (mkF m 112 #[.val (.int p1), .val (.int p2), .val (.int (1 : Int32)), .val (.int (0 : Int32)), .val (.ref b1), .val (.ref b6), .val (.ref b10), .val (.int (1 : Int32)), .unset] [(.int (0 : Int32))]))
        refine own_st (fun _ kS => XS.ifNo X22.here hx rfl (hb hby at_112) rfl ((if0 _ _).trans (teq (by decide : (0 : Int32) = (0 : Int32))).2) kS) ?_
        show own_G p.tables e below _ (T22.setTop (mkF m 115 #[.val (.int p1), .val (.int p2), .val (.int (1 : Int32)), .val (.int (0 : Int32)), .val (.ref b1), .val (.ref b6), .val (.ref b10), .val (.int (1 : Int32)), .unset] []))
        refine own_st (fun _ kS => XS.iconst X22.here hx rfl (hb hby at_115) kS) ?_
        refine own_st (fun _ kS => XS.goto X22.here hx rfl (pc0 := 116) (pc' := 120) rfl (hb hby at_116) (by decide) (by decide) kS) ?_
        show own_G p.tables e below _ (T22.setTop (mkF m 120 #[.val (.int p1), .val (.int p2), .val (.int (1 : Int32)), .val (.int (0 : Int32)), .val (.ref b1), .val (.ref b6), .val (.ref b10), .val (.int (1 : Int32)), .unset] [(.int (1 : Int32))]))
        refine own_st (fun _ kS => XS.istore X22.here hx rfl (hb hby at_120) rfl (l' := #[.val (.int p1), .val (.int p2), .val (.int (1 : Int32)), .val (.int (0 : Int32)), .val (.ref b1), .val (.ref b6), .val (.ref b10), .val (.int (1 : Int32)), .val (.int (1 : Int32))]) rfl kS) ?_
        show own_G p.tables e below _ (T22.setTop (mkF m 122 #[.val (.int p1), .val (.int p2), .val (.int (1 : Int32)), .val (.int (0 : Int32)), .val (.ref b1), .val (.ref b6), .val (.ref b10), .val (.int (1 : Int32)), .val (.int (1 : Int32))] []))
        refine own_st (fun _ kS => XS.iload X22.here hx rfl (hb hby at_122) rfl kS) ?_
        show own_G p.tables e below _ (T22.setTop (mkF m 124 #[.val (.int p1), .val (.int p2), .val (.int (1 : Int32)), .val (.int (0 : Int32)), .val (.ref b1), .val (.ref b6), .val (.ref b10), .val (.int (1 : Int32)), .val (.int (1 : Int32))] [(.int (1 : Int32))]))
        refine own_st (fun _ kS => XS.ifNo X22.here hx rfl (hb hby at_124) rfl ((if0 _ _).trans (feq (by decide : ¬ ((1 : Int32) = (0 : Int32)))).1) kS) ?_
        show own_G p.tables e below _ (T22.setTop (mkF m 127 #[.val (.int p1), .val (.int p2), .val (.int (1 : Int32)), .val (.int (0 : Int32)), .val (.ref b1), .val (.ref b6), .val (.ref b10), .val (.int (1 : Int32)), .val (.int (1 : Int32))] []))
        refine own_st (fun _ kS => XS.aload X22.here hx rfl (hb hby at_127) rfl rfl kS) ?_
        show own_G p.tables e below _ (T22.setTop (mkF m 129 #[.val (.int p1), .val (.int p2), .val (.int (1 : Int32)), .val (.int (0 : Int32)), .val (.ref b1), .val (.ref b6), .val (.ref b10), .val (.int (1 : Int32)), .val (.int (1 : Int32))] [(.ref b10)]))
        obtain ⟨cq23, kq23, q23a, q23b, q23c⟩ := isOf hZ rfl P22_0
        obtain ⟨_, _, ⟨T23, L23, k23, n23⟩, -, X23, ⟨Lc23, hQ23, l23, y23, z23⟩, st23⟩ := X22.virtualBack hx (y := (⟨"com/example/cartouche/cartouche/checking/Summary", "passed", "()Z"⟩ : MethodName)) (z := (⟨"com/example/cartouche/cartouche/checking/Summary", "passed", "()Z"⟩ : MethodName)) hown (mvT hZ (own_w hw 226 rfl)) (mvT hZ (own_w hw 227 rfl)) (notFace_of_selects (args := #[]) (mvT hZ (own_w hw 229 rfl))) (mvT hZ (own_w hw 229 rfl)) (mvT hZ (own_w hw 228 rfl)) (by decide) (backOf (W := 0) (rm_passed0_1 l Z a0 hw [] b10 T22.heap n0 (Nat.le_trans (Nat.le_trans (Nat.le_trans (Nat.le_trans (Nat.le_trans (Nat.le_trans (Nat.le_trans (Nat.le_trans (Nat.le_trans (Nat.le_trans (Nat.le_trans (Nat.le_trans Z0 E1.1) E2.1) E3.1) Kc4.1) Kc5.1) E6.1) E7.1) Kc8.1) Kc9.1) E10.1) Kc11.1) Kc22.1)  P22_1 P22_2 P22_3) hZ (own_w hw 230 rfl) (own_w hw 103 rfl) (by decide) (by decide)) q23a q23c (g := (mkF m 129 #[.val (.int p1), .val (.int p2), .val (.int (1 : Int32)), .val (.int (0 : Int32)), .val (.ref b1), .val (.ref b6), .val (.ref b10), .val (.int (1 : Int32)), .val (.int (1 : Int32))] [(.ref b10)])) rfl (by rw [hml]; rfl) (Steps.refl _) (argsL := []) (rest := []) (lenOf own_pd1 rfl) rfl (by show 2 * 0 + _ ≤ _; exact Nat.le_of_eq rfl) (hb hby at_129) (fun _ _ => ⟨rfl, rfl, (by decide : 23 + 0 ≤ _), (by decide : 99 + 0 ≤ _)⟩)
        dsimp only [Pt.U, Pt.locs, Pt.cells, Pt.slots] at X23 l23 y23 z23 st23 hQ23
        subst l23 y23 z23
        obtain ⟨rfl, Nq23, eq23⟩ := hQ23
        have N23 := Fr.app N22 Nq23
        refine own_tr st23 ?_
        show own_G p.tables e below _ (T23.setTop (mkF m 132 #[.val (.int p1), .val (.int p2), .val (.int (1 : Int32)), .val (.int (0 : Int32)), .val (.ref b1), .val (.ref b6), .val (.ref b10), .val (.int (1 : Int32)), .val (.int (1 : Int32))] [(.int (1 : Int32))]))
        refine own_st (fun _ kS => XS.iload X23.here hx rfl (hb hby at_132) rfl kS) ?_
        show own_G p.tables e below _ (T23.setTop (mkF m 134 #[.val (.int p1), .val (.int p2), .val (.int (1 : Int32)), .val (.int (0 : Int32)), .val (.ref b1), .val (.ref b6), .val (.ref b10), .val (.int (1 : Int32)), .val (.int (1 : Int32))] [(.int (1 : Int32)), (.int (1 : Int32))]))
        refine own_st (fun _ kS => XS.icmpNo X23.here hx rfl (hb hby at_134) rfl (teq (by decide : (1 : Int32) = (1 : Int32))).2 kS) ?_
        show own_G p.tables e below _ (T23.setTop (mkF m 137 #[.val (.int p1), .val (.int p2), .val (.int (1 : Int32)), .val (.int (0 : Int32)), .val (.ref b1), .val (.ref b6), .val (.ref b10), .val (.int (1 : Int32)), .val (.int (1 : Int32))] []))
        refine own_st (fun _ kS => XS.iconst X23.here hx rfl (hb hby at_137) kS) ?_
        refine own_st (fun _ kS => XS.goto X23.here hx rfl (pc0 := 138) (pc' := 142) rfl (hb hby at_138) (by decide) (by decide) kS) ?_
        show own_G p.tables e below _ (T23.setTop (mkF m 142 #[.val (.int p1), .val (.int p2), .val (.int (1 : Int32)), .val (.int (0 : Int32)), .val (.ref b1), .val (.ref b6), .val (.ref b10), .val (.int (1 : Int32)), .val (.int (1 : Int32))] [(.int (1 : Int32))]))
        exact own_retNW hS (own_le eq23 (Nat.le_trans (Nat.le_trans (Nat.le_trans (Nat.le_trans (Nat.le_trans (Nat.le_trans (Nat.le_trans (Nat.le_trans (Nat.le_trans (Nat.le_trans hk2 E3.1) Kc4.1) Kc5.1) E6.1) E7.1) Kc8.1) Kc9.1) E10.1) Kc11.1) Kc22.1)) X23 hx hlk (t := .boolean) hret (by simp) (hb hby at_142) (by decide) (by decide) (v' := (1 : Int32)) rfl (by rw [eq23]; exact ⟨rfl, N23⟩)
      · rw [hk21]
        show own_G p.tables e below _ (T12.setTop (mkF m 67 #[.val (.int p1), .val (.int p2), .val (.int (1 : Int32)), .val (.int (1 : Int32)), .val (.ref b1), .val (.ref b6), .val (.ref b10), .val (.int (1 : Int32)), .unset] []))
        refine own_st (fun _ kS => XS.iloadN X12.here hx rfl (hb hby at_67) rfl kS) ?_
        refine own_st (fun _ kS => XS.iconst X12.here hx rfl (hb hby at_68) kS) ?_
        show own_G p.tables e below _ (T12.setTop (mkF m 69 #[.val (.int p1), .val (.int p2), .val (.int (1 : Int32)), .val (.int (1 : Int32)), .val (.ref b1), .val (.ref b6), .val (.ref b10), .val (.int (1 : Int32)), .unset] [(.int (1 : Int32)), (.int (1 : Int32))]))
        refine own_st (fun _ kS => XS.icmpNo X12.here hx rfl (hb hby at_69) rfl (flt (by decide : ¬ ((1 : Int32) < (1 : Int32)))).1 kS) ?_
        show own_G p.tables e below _ (T12.setTop (mkF m 72 #[.val (.int p1), .val (.int p2), .val (.int (1 : Int32)), .val (.int (1 : Int32)), .val (.ref b1), .val (.ref b6), .val (.ref b10), .val (.int (1 : Int32)), .unset] []))
        refine own_st (fun _ kS => XS.aload X12.here hx rfl (hb hby at_72) rfl rfl kS) ?_
        refine own_st (fun _ kS => XS.aload X12.here hx rfl (hb hby at_74) rfl rfl kS) ?_
        show own_G p.tables e below _ (T12.setTop (mkF m 76 #[.val (.int p1), .val (.int p2), .val (.int (1 : Int32)), .val (.int (1 : Int32)), .val (.ref b1), .val (.ref b6), .val (.ref b10), .val (.int (1 : Int32)), .unset] [(.ref b6), (.ref b10)]))
        obtain ⟨cq24, kq24, q24a, q24b, q24c⟩ := isOf hZ eq12 P11_0
        obtain ⟨_, _, ⟨T24, L24, k24, n24⟩, -, X24, ⟨Lc24, hQ24, l24, y24, z24⟩, st24⟩ := X12.virtualBack hx (y := (⟨"com/example/cartouche/cartouche/checking/Summary", "count", "(Lcom/example/cartouche/cartouche/checking/Verdict;)V"⟩ : MethodName)) (z := (⟨"com/example/cartouche/cartouche/checking/Summary", "count", "(Lcom/example/cartouche/cartouche/checking/Verdict;)V"⟩ : MethodName)) hown (mvT hZ (own_w hw 237 rfl)) (mvT hZ (own_w hw 238 rfl)) (notFace_of_selects (args := #[]) (mvT hZ (own_w hw 240 rfl))) (mvT hZ (own_w hw 240 rfl)) (mvT hZ (own_w hw 239 rfl)) (by decide) (backOf (W := 0) (rm_count1_0 l Z a0 hw [] b10 b6 b7 wL wE kE wD w_REQUIRED w_RECOMMENDED T11.heap n0 (Nat.le_trans (Nat.le_trans (Nat.le_trans (Nat.le_trans (Nat.le_trans (Nat.le_trans (Nat.le_trans (Nat.le_trans (Nat.le_trans (Nat.le_trans (Nat.le_trans Z0 E1.1) E2.1) E3.1) Kc4.1) Kc5.1) E6.1) E7.1) Kc8.1) Kc9.1) E10.1) Kc11.1) O11 P11_0 ge_b10 (Ne.symm ne_b6_b10) (Ne.symm ne_b7_b10) P11_1 P11_2 P11_3 ((Exa.ext E10 P9_0).keep Kc11) ((Fld.ext E10 P9_1).keep Kc11 (ninS ne_b6_b10 nin0)) ((Exa.ext E10 (P8_0.keep Kc9)).keep Kc11) ((Fld.ext E10 (P8_2.keep Kc9 (ninS (Ne.symm ne_b6_b7) nin0))).keep Kc11 (ninS ne_b7_b10 nin0)) ((Fld.ext E10 (P8_1.keep Kc9 (ninS (Ne.symm ne_b6_b7) nin0))).keep Kc11 (ninS ne_b7_b10 nin0)) E_L F_el R_E S_D S_REQUIRED S_RECOMMENDED) hZ (own_w hw 241 rfl) (own_w hw 103 rfl) (by decide) (by decide)) q24a q24c (g := (mkF m 76 #[.val (.int p1), .val (.int p2), .val (.int (1 : Int32)), .val (.int (1 : Int32)), .val (.ref b1), .val (.ref b6), .val (.ref b10), .val (.int (1 : Int32)), .unset] [(.ref b6), (.ref b10)])) rfl (by rw [hml]; rfl) (Steps.refl _) (argsL := [(.ref b6)]) (rest := []) (lenOf own_pd13 rfl) rfl (by show 2 * 0 + _ ≤ _; exact Nat.le_of_eq rfl) (hb hby at_76) (fun _ _ => ⟨rfl, eq12, (by decide : 15 + 8 ≤ _), (by decide : 70 + 29 ≤ _)⟩)
        dsimp only [Pt.U, Pt.locs, Pt.cells, Pt.slots] at X24 l24 y24 z24 st24 hQ24
        subst l24 y24 z24
        obtain ⟨rfl, Nq24, Kc24, P24_0, P24_1, P24_2, P24_3⟩ := hQ24
        have N24 := Fr.app N12 Nq24
        have O24 := O11.keep Kc24 (allS ge_b10 all0)
        refine own_tr st24 ?_
        show own_G p.tables e below _ (T24.setTop (mkF m 79 #[.val (.int p1), .val (.int p2), .val (.int (1 : Int32)), .val (.int (1 : Int32)), .val (.ref b1), .val (.ref b6), .val (.ref b10), .val (.int (1 : Int32)), .unset] []))
        refine own_st (fun _ kS => XS.iloadN X24.here hx rfl (hb hby at_79) rfl kS) ?_
        refine own_st (fun _ kS => XS.iconst X24.here hx rfl (hb hby at_80) kS) ?_
        show own_G p.tables e below _ (T24.setTop (mkF m 81 #[.val (.int p1), .val (.int p2), .val (.int (1 : Int32)), .val (.int (1 : Int32)), .val (.ref b1), .val (.ref b6), .val (.ref b10), .val (.int (1 : Int32)), .unset] [(.int (2 : Int32)), (.int (1 : Int32))]))
        refine own_st (fun _ kS => XS.icmpYes X24.here hx rfl (pc0 := 81) (pc' := 91) rfl (hb hby at_81) rfl (tlt (by decide : (1 : Int32) < (2 : Int32))).1 (by decide) (by decide) kS) ?_
        show own_G p.tables e below _ (T24.setTop (mkF m 91 #[.val (.int p1), .val (.int p2), .val (.int (1 : Int32)), .val (.int (1 : Int32)), .val (.ref b1), .val (.ref b6), .val (.ref b10), .val (.int (1 : Int32)), .unset] []))
        refine own_st (fun _ kS => XS.iloadN X24.here hx rfl (hb hby at_91) rfl kS) ?_
        refine own_st (fun _ kS => XS.iconst X24.here hx rfl (hb hby at_92) kS) ?_
        show own_G p.tables e below _ (T24.setTop (mkF m 93 #[.val (.int p1), .val (.int p2), .val (.int (1 : Int32)), .val (.int (1 : Int32)), .val (.ref b1), .val (.ref b6), .val (.ref b10), .val (.int (1 : Int32)), .unset] [(.int (1 : Int32)), (.int (1 : Int32))]))
        refine own_st (fun _ kS => XS.icmpNo X24.here hx rfl (hb hby at_93) rfl (flt (by decide : ¬ ((1 : Int32) < (1 : Int32)))).1 kS) ?_
        show own_G p.tables e below _ (T24.setTop (mkF m 96 #[.val (.int p1), .val (.int p2), .val (.int (1 : Int32)), .val (.int (1 : Int32)), .val (.ref b1), .val (.ref b6), .val (.ref b10), .val (.int (1 : Int32)), .unset] []))
        refine own_st (fun _ kS => XS.aload X24.here hx rfl (hb hby at_96) rfl rfl kS) ?_
        show own_G p.tables e below _ (T24.setTop (mkF m 98 #[.val (.int p1), .val (.int p2), .val (.int (1 : Int32)), .val (.int (1 : Int32)), .val (.ref b1), .val (.ref b6), .val (.ref b10), .val (.int (1 : Int32)), .unset] [(.ref b10)]))
        obtain ⟨cq25, kq25, q25a, q25b, q25c⟩ := isOf hZ rfl P24_0
        obtain ⟨_, _, ⟨T25, L25, k25, n25⟩, -, X25, ⟨Lc25, hQ25, l25, y25, z25⟩, st25⟩ := X24.virtualBack hx (y := (⟨"com/example/cartouche/cartouche/checking/Summary", "countUnreadable", "()V"⟩ : MethodName)) (z := (⟨"com/example/cartouche/cartouche/checking/Summary", "countUnreadable", "()V"⟩ : MethodName)) hown (mvT hZ (own_w hw 272 rfl)) (mvT hZ (own_w hw 273 rfl)) (notFace_of_selects (args := #[]) (mvT hZ (own_w hw 275 rfl))) (mvT hZ (own_w hw 275 rfl)) (mvT hZ (own_w hw 274 rfl)) (by decide) (backOf (W := 0) (rm_unread0_1 l Z a0 hw [] b10 T24.heap n0 (Nat.le_trans (Nat.le_trans (Nat.le_trans (Nat.le_trans (Nat.le_trans (Nat.le_trans (Nat.le_trans (Nat.le_trans (Nat.le_trans (Nat.le_trans (Nat.le_trans (Nat.le_trans Z0 E1.1) E2.1) E3.1) Kc4.1) Kc5.1) E6.1) E7.1) Kc8.1) Kc9.1) E10.1) Kc11.1) Kc24.1)  P24_0 ge_b10 P24_1 P24_2 P24_3) hZ (own_w hw 276 rfl) (own_w hw 103 rfl) (by decide) (by decide)) q25a q25c (g := (mkF m 98 #[.val (.int p1), .val (.int p2), .val (.int (1 : Int32)), .val (.int (1 : Int32)), .val (.ref b1), .val (.ref b6), .val (.ref b10), .val (.int (1 : Int32)), .unset] [(.ref b10)])) rfl (by rw [hml]; rfl) (Steps.refl _) (argsL := []) (rest := []) (lenOf own_pd0 rfl) rfl (by show 2 * 0 + _ ≤ _; exact Nat.le_of_eq rfl) (hb hby at_98) (fun _ _ => ⟨rfl, rfl, (by decide : 23 + 0 ≤ _), (by decide : 99 + 0 ≤ _)⟩)
        dsimp only [Pt.U, Pt.locs, Pt.cells, Pt.slots] at X25 l25 y25 z25 st25 hQ25
        subst l25 y25 z25
        obtain ⟨rfl, Nq25, Kc25, P25_0, P25_1, P25_2, P25_3⟩ := hQ25
        have N25 := Fr.app N24 Nq25
        have O25 := O24.keep Kc25 (allS ge_b10 all0)
        refine own_tr st25 ?_
        show own_G p.tables e below _ (T25.setTop (mkF m 101 #[.val (.int p1), .val (.int p2), .val (.int (1 : Int32)), .val (.int (1 : Int32)), .val (.ref b1), .val (.ref b6), .val (.ref b10), .val (.int (1 : Int32)), .unset] []))
        refine own_st (fun _ kS => XS.iloadN X25.here hx rfl (hb hby at_101) rfl kS) ?_
        refine own_st (fun _ kS => XS.iconst X25.here hx rfl (hb hby at_102) kS) ?_
        show own_G p.tables e below _ (T25.setTop (mkF m 103 #[.val (.int p1), .val (.int p2), .val (.int (1 : Int32)), .val (.int (1 : Int32)), .val (.ref b1), .val (.ref b6), .val (.ref b10), .val (.int (1 : Int32)), .unset] [(.int (2 : Int32)), (.int (1 : Int32))]))
        refine own_st (fun _ kS => XS.icmpYes X25.here hx rfl (pc0 := 103) (pc' := 111) rfl (hb hby at_103) rfl (tlt (by decide : (1 : Int32) < (2 : Int32))).1 (by decide) (by decide) kS) ?_
        show own_G p.tables e below _ (T25.setTop (mkF m 111 #[.val (.int p1), .val (.int p2), .val (.int (1 : Int32)), .val (.int (1 : Int32)), .val (.ref b1), .val (.ref b6), .val (.ref b10), .val (.int (1 : Int32)), .unset] []))
        refine own_st (fun _ kS => XS.iloadN X25.here hx rfl (hb hby at_111) rfl kS) ?_
        show own_G p.tables e below _ (T25.setTop (mkF m 112 #[.val (.int p1), .val (.int p2), .val (.int (1 : Int32)), .val (.int (1 : Int32)), .val (.ref b1), .val (.ref b6), .val (.ref b10), .val (.int (1 : Int32)), .unset] [(.int (1 : Int32))]))
        refine own_st (fun _ kS => XS.ifYes X25.here hx rfl (pc0 := 112) (pc' := 119) rfl (hb hby at_112) rfl ((if0 _ _).trans (feq (by decide : ¬ ((1 : Int32) = (0 : Int32)))).2) (by decide) (by decide) kS) ?_
        show own_G p.tables e below _ (T25.setTop (mkF m 119 #[.val (.int p1), .val (.int p2), .val (.int (1 : Int32)), .val (.int (1 : Int32)), .val (.ref b1), .val (.ref b6), .val (.ref b10), .val (.int (1 : Int32)), .unset] []))
        refine own_st (fun _ kS => XS.iconst X25.here hx rfl (hb hby at_119) kS) ?_
        show own_G p.tables e below _ (T25.setTop (mkF m 120 #[.val (.int p1), .val (.int p2), .val (.int (1 : Int32)), .val (.int (1 : Int32)), .val (.ref b1), .val (.ref b6), .val (.ref b10), .val (.int (1 : Int32)), .unset] [(.int (0 : Int32))]))
        refine own_st (fun _ kS => XS.istore X25.here hx rfl (hb hby at_120) rfl (l' := #[.val (.int p1), .val (.int p2), .val (.int (1 : Int32)), .val (.int (1 : Int32)), .val (.ref b1), .val (.ref b6), .val (.ref b10), .val (.int (1 : Int32)), .val (.int (0 : Int32))]) rfl kS) ?_
        show own_G p.tables e below _ (T25.setTop (mkF m 122 #[.val (.int p1), .val (.int p2), .val (.int (1 : Int32)), .val (.int (1 : Int32)), .val (.ref b1), .val (.ref b6), .val (.ref b10), .val (.int (1 : Int32)), .val (.int (0 : Int32))] []))
        refine own_st (fun _ kS => XS.iload X25.here hx rfl (hb hby at_122) rfl kS) ?_
        show own_G p.tables e below _ (T25.setTop (mkF m 124 #[.val (.int p1), .val (.int p2), .val (.int (1 : Int32)), .val (.int (1 : Int32)), .val (.ref b1), .val (.ref b6), .val (.ref b10), .val (.int (1 : Int32)), .val (.int (0 : Int32))] [(.int (1 : Int32))]))
        refine own_st (fun _ kS => XS.ifNo X25.here hx rfl (hb hby at_124) rfl ((if0 _ _).trans (feq (by decide : ¬ ((1 : Int32) = (0 : Int32)))).1) kS) ?_
        show own_G p.tables e below _ (T25.setTop (mkF m 127 #[.val (.int p1), .val (.int p2), .val (.int (1 : Int32)), .val (.int (1 : Int32)), .val (.ref b1), .val (.ref b6), .val (.ref b10), .val (.int (1 : Int32)), .val (.int (0 : Int32))] []))
        refine own_st (fun _ kS => XS.aload X25.here hx rfl (hb hby at_127) rfl rfl kS) ?_
        show own_G p.tables e below _ (T25.setTop (mkF m 129 #[.val (.int p1), .val (.int p2), .val (.int (1 : Int32)), .val (.int (1 : Int32)), .val (.ref b1), .val (.ref b6), .val (.ref b10), .val (.int (1 : Int32)), .val (.int (0 : Int32))] [(.ref b10)]))
        obtain ⟨cq26, kq26, q26a, q26b, q26c⟩ := isOf hZ rfl P25_0
        obtain ⟨_, _, ⟨T26, L26, k26, n26⟩, -, X26, ⟨Lc26, hQ26, l26, y26, z26⟩, st26⟩ := X25.virtualBack hx (y := (⟨"com/example/cartouche/cartouche/checking/Summary", "passed", "()Z"⟩ : MethodName)) (z := (⟨"com/example/cartouche/cartouche/checking/Summary", "passed", "()Z"⟩ : MethodName)) hown (mvT hZ (own_w hw 226 rfl)) (mvT hZ (own_w hw 227 rfl)) (notFace_of_selects (args := #[]) (mvT hZ (own_w hw 229 rfl))) (mvT hZ (own_w hw 229 rfl)) (mvT hZ (own_w hw 228 rfl)) (by decide) (backOf (W := 0) (rm_passed1_1 l Z a0 hw [] b10 T25.heap n0 (Nat.le_trans (Nat.le_trans (Nat.le_trans (Nat.le_trans (Nat.le_trans (Nat.le_trans (Nat.le_trans (Nat.le_trans (Nat.le_trans (Nat.le_trans (Nat.le_trans (Nat.le_trans (Nat.le_trans Z0 E1.1) E2.1) E3.1) Kc4.1) Kc5.1) E6.1) E7.1) Kc8.1) Kc9.1) E10.1) Kc11.1) Kc24.1) Kc25.1)  P25_1) hZ (own_w hw 230 rfl) (own_w hw 103 rfl) (by decide) (by decide)) q26a q26c (g := (mkF m 129 #[.val (.int p1), .val (.int p2), .val (.int (1 : Int32)), .val (.int (1 : Int32)), .val (.ref b1), .val (.ref b6), .val (.ref b10), .val (.int (1 : Int32)), .val (.int (0 : Int32))] [(.ref b10)])) rfl (by rw [hml]; rfl) (Steps.refl _) (argsL := []) (rest := []) (lenOf own_pd1 rfl) rfl (by show 2 * 0 + _ ≤ _; exact Nat.le_of_eq rfl) (hb hby at_129) (fun _ _ => ⟨rfl, rfl, (by decide : 23 + 0 ≤ _), (by decide : 99 + 0 ≤ _)⟩)
        dsimp only [Pt.U, Pt.locs, Pt.cells, Pt.slots] at X26 l26 y26 z26 st26 hQ26
        subst l26 y26 z26
        obtain ⟨rfl, Nq26, eq26⟩ := hQ26
        have N26 := Fr.app N25 Nq26
        refine own_tr st26 ?_
        show own_G p.tables e below _ (T26.setTop (mkF m 132 #[.val (.int p1), .val (.int p2), .val (.int (1 : Int32)), .val (.int (1 : Int32)), .val (.ref b1), .val (.ref b6), .val (.ref b10), .val (.int (1 : Int32)), .val (.int (0 : Int32))] [(.int (0 : Int32))]))
        refine own_st (fun _ kS => XS.iload X26.here hx rfl (hb hby at_132) rfl kS) ?_
        show own_G p.tables e below _ (T26.setTop (mkF m 134 #[.val (.int p1), .val (.int p2), .val (.int (1 : Int32)), .val (.int (1 : Int32)), .val (.ref b1), .val (.ref b6), .val (.ref b10), .val (.int (1 : Int32)), .val (.int (0 : Int32))] [(.int (0 : Int32)), (.int (0 : Int32))]))
        refine own_st (fun _ kS => XS.icmpNo X26.here hx rfl (hb hby at_134) rfl (teq (by decide : (0 : Int32) = (0 : Int32))).2 kS) ?_
        show own_G p.tables e below _ (T26.setTop (mkF m 137 #[.val (.int p1), .val (.int p2), .val (.int (1 : Int32)), .val (.int (1 : Int32)), .val (.ref b1), .val (.ref b6), .val (.ref b10), .val (.int (1 : Int32)), .val (.int (0 : Int32))] []))
        refine own_st (fun _ kS => XS.iconst X26.here hx rfl (hb hby at_137) kS) ?_
        refine own_st (fun _ kS => XS.goto X26.here hx rfl (pc0 := 138) (pc' := 142) rfl (hb hby at_138) (by decide) (by decide) kS) ?_
        show own_G p.tables e below _ (T26.setTop (mkF m 142 #[.val (.int p1), .val (.int p2), .val (.int (1 : Int32)), .val (.int (1 : Int32)), .val (.ref b1), .val (.ref b6), .val (.ref b10), .val (.int (1 : Int32)), .val (.int (0 : Int32))] [(.int (1 : Int32))]))
        exact own_retNW hS (own_le eq26 (Nat.le_trans (Nat.le_trans (Nat.le_trans (Nat.le_trans (Nat.le_trans (Nat.le_trans (Nat.le_trans (Nat.le_trans (Nat.le_trans (Nat.le_trans (Nat.le_trans hk2 E3.1) Kc4.1) Kc5.1) E6.1) E7.1) Kc8.1) Kc9.1) E10.1) Kc11.1) Kc24.1) Kc25.1)) X26 hx hlk (t := .boolean) hret (by simp) (hb hby at_142) (by decide) (by decide) (v' := (1 : Int32)) rfl (by rw [eq26]; exact ⟨rfl, N26⟩)
      · rw [hk21]
        show own_G p.tables e below _ (T12.setTop (mkF m 67 #[.val (.int p1), .val (.int p2), .val (.int (1 : Int32)), .val (.int (2 : Int32)), .val (.ref b1), .val (.ref b6), .val (.ref b10), .val (.int (1 : Int32)), .unset] []))
        refine own_st (fun _ kS => XS.iloadN X12.here hx rfl (hb hby at_67) rfl kS) ?_
        refine own_st (fun _ kS => XS.iconst X12.here hx rfl (hb hby at_68) kS) ?_
        show own_G p.tables e below _ (T12.setTop (mkF m 69 #[.val (.int p1), .val (.int p2), .val (.int (1 : Int32)), .val (.int (2 : Int32)), .val (.ref b1), .val (.ref b6), .val (.ref b10), .val (.int (1 : Int32)), .unset] [(.int (1 : Int32)), (.int (1 : Int32))]))
        refine own_st (fun _ kS => XS.icmpNo X12.here hx rfl (hb hby at_69) rfl (flt (by decide : ¬ ((1 : Int32) < (1 : Int32)))).1 kS) ?_
        show own_G p.tables e below _ (T12.setTop (mkF m 72 #[.val (.int p1), .val (.int p2), .val (.int (1 : Int32)), .val (.int (2 : Int32)), .val (.ref b1), .val (.ref b6), .val (.ref b10), .val (.int (1 : Int32)), .unset] []))
        refine own_st (fun _ kS => XS.aload X12.here hx rfl (hb hby at_72) rfl rfl kS) ?_
        refine own_st (fun _ kS => XS.aload X12.here hx rfl (hb hby at_74) rfl rfl kS) ?_
        show own_G p.tables e below _ (T12.setTop (mkF m 76 #[.val (.int p1), .val (.int p2), .val (.int (1 : Int32)), .val (.int (2 : Int32)), .val (.ref b1), .val (.ref b6), .val (.ref b10), .val (.int (1 : Int32)), .unset] [(.ref b6), (.ref b10)]))
        obtain ⟨cq27, kq27, q27a, q27b, q27c⟩ := isOf hZ eq12 P11_0
        obtain ⟨_, _, ⟨T27, L27, k27, n27⟩, -, X27, ⟨Lc27, hQ27, l27, y27, z27⟩, st27⟩ := X12.virtualBack hx (y := (⟨"com/example/cartouche/cartouche/checking/Summary", "count", "(Lcom/example/cartouche/cartouche/checking/Verdict;)V"⟩ : MethodName)) (z := (⟨"com/example/cartouche/cartouche/checking/Summary", "count", "(Lcom/example/cartouche/cartouche/checking/Verdict;)V"⟩ : MethodName)) hown (mvT hZ (own_w hw 237 rfl)) (mvT hZ (own_w hw 238 rfl)) (notFace_of_selects (args := #[]) (mvT hZ (own_w hw 240 rfl))) (mvT hZ (own_w hw 240 rfl)) (mvT hZ (own_w hw 239 rfl)) (by decide) (backOf (W := 0) (rm_count1_0 l Z a0 hw [] b10 b6 b7 wL wE kE wD w_REQUIRED w_RECOMMENDED T11.heap n0 (Nat.le_trans (Nat.le_trans (Nat.le_trans (Nat.le_trans (Nat.le_trans (Nat.le_trans (Nat.le_trans (Nat.le_trans (Nat.le_trans (Nat.le_trans (Nat.le_trans Z0 E1.1) E2.1) E3.1) Kc4.1) Kc5.1) E6.1) E7.1) Kc8.1) Kc9.1) E10.1) Kc11.1) O11 P11_0 ge_b10 (Ne.symm ne_b6_b10) (Ne.symm ne_b7_b10) P11_1 P11_2 P11_3 ((Exa.ext E10 P9_0).keep Kc11) ((Fld.ext E10 P9_1).keep Kc11 (ninS ne_b6_b10 nin0)) ((Exa.ext E10 (P8_0.keep Kc9)).keep Kc11) ((Fld.ext E10 (P8_2.keep Kc9 (ninS (Ne.symm ne_b6_b7) nin0))).keep Kc11 (ninS ne_b7_b10 nin0)) ((Fld.ext E10 (P8_1.keep Kc9 (ninS (Ne.symm ne_b6_b7) nin0))).keep Kc11 (ninS ne_b7_b10 nin0)) E_L F_el R_E S_D S_REQUIRED S_RECOMMENDED) hZ (own_w hw 241 rfl) (own_w hw 103 rfl) (by decide) (by decide)) q27a q27c (g := (mkF m 76 #[.val (.int p1), .val (.int p2), .val (.int (1 : Int32)), .val (.int (2 : Int32)), .val (.ref b1), .val (.ref b6), .val (.ref b10), .val (.int (1 : Int32)), .unset] [(.ref b6), (.ref b10)])) rfl (by rw [hml]; rfl) (Steps.refl _) (argsL := [(.ref b6)]) (rest := []) (lenOf own_pd13 rfl) rfl (by show 2 * 0 + _ ≤ _; exact Nat.le_of_eq rfl) (hb hby at_76) (fun _ _ => ⟨rfl, eq12, (by decide : 15 + 8 ≤ _), (by decide : 70 + 29 ≤ _)⟩)
        dsimp only [Pt.U, Pt.locs, Pt.cells, Pt.slots] at X27 l27 y27 z27 st27 hQ27
        subst l27 y27 z27
        obtain ⟨rfl, Nq27, Kc27, P27_0, P27_1, P27_2, P27_3⟩ := hQ27
        have N27 := Fr.app N12 Nq27
        have O27 := O11.keep Kc27 (allS ge_b10 all0)
        refine own_tr st27 ?_
        show own_G p.tables e below _ (T27.setTop (mkF m 79 #[.val (.int p1), .val (.int p2), .val (.int (1 : Int32)), .val (.int (2 : Int32)), .val (.ref b1), .val (.ref b6), .val (.ref b10), .val (.int (1 : Int32)), .unset] []))
        refine own_st (fun _ kS => XS.iloadN X27.here hx rfl (hb hby at_79) rfl kS) ?_
        refine own_st (fun _ kS => XS.iconst X27.here hx rfl (hb hby at_80) kS) ?_
        show own_G p.tables e below _ (T27.setTop (mkF m 81 #[.val (.int p1), .val (.int p2), .val (.int (1 : Int32)), .val (.int (2 : Int32)), .val (.ref b1), .val (.ref b6), .val (.ref b10), .val (.int (1 : Int32)), .unset] [(.int (2 : Int32)), (.int (1 : Int32))]))
        refine own_st (fun _ kS => XS.icmpYes X27.here hx rfl (pc0 := 81) (pc' := 91) rfl (hb hby at_81) rfl (tlt (by decide : (1 : Int32) < (2 : Int32))).1 (by decide) (by decide) kS) ?_
        show own_G p.tables e below _ (T27.setTop (mkF m 91 #[.val (.int p1), .val (.int p2), .val (.int (1 : Int32)), .val (.int (2 : Int32)), .val (.ref b1), .val (.ref b6), .val (.ref b10), .val (.int (1 : Int32)), .unset] []))
        refine own_st (fun _ kS => XS.iloadN X27.here hx rfl (hb hby at_91) rfl kS) ?_
        refine own_st (fun _ kS => XS.iconst X27.here hx rfl (hb hby at_92) kS) ?_
        show own_G p.tables e below _ (T27.setTop (mkF m 93 #[.val (.int p1), .val (.int p2), .val (.int (1 : Int32)), .val (.int (2 : Int32)), .val (.ref b1), .val (.ref b6), .val (.ref b10), .val (.int (1 : Int32)), .unset] [(.int (1 : Int32)), (.int (2 : Int32))]))
        refine own_st (fun _ kS => XS.icmpNo X27.here hx rfl (hb hby at_93) rfl (flt (by decide : ¬ ((2 : Int32) < (1 : Int32)))).1 kS) ?_
        show own_G p.tables e below _ (T27.setTop (mkF m 96 #[.val (.int p1), .val (.int p2), .val (.int (1 : Int32)), .val (.int (2 : Int32)), .val (.ref b1), .val (.ref b6), .val (.ref b10), .val (.int (1 : Int32)), .unset] []))
        refine own_st (fun _ kS => XS.aload X27.here hx rfl (hb hby at_96) rfl rfl kS) ?_
        show own_G p.tables e below _ (T27.setTop (mkF m 98 #[.val (.int p1), .val (.int p2), .val (.int (1 : Int32)), .val (.int (2 : Int32)), .val (.ref b1), .val (.ref b6), .val (.ref b10), .val (.int (1 : Int32)), .unset] [(.ref b10)]))
        obtain ⟨cq28, kq28, q28a, q28b, q28c⟩ := isOf hZ rfl P27_0
        obtain ⟨_, _, ⟨T28, L28, k28, n28⟩, -, X28, ⟨Lc28, hQ28, l28, y28, z28⟩, st28⟩ := X27.virtualBack hx (y := (⟨"com/example/cartouche/cartouche/checking/Summary", "countUnreadable", "()V"⟩ : MethodName)) (z := (⟨"com/example/cartouche/cartouche/checking/Summary", "countUnreadable", "()V"⟩ : MethodName)) hown (mvT hZ (own_w hw 272 rfl)) (mvT hZ (own_w hw 273 rfl)) (notFace_of_selects (args := #[]) (mvT hZ (own_w hw 275 rfl))) (mvT hZ (own_w hw 275 rfl)) (mvT hZ (own_w hw 274 rfl)) (by decide) (backOf (W := 0) (rm_unread0_1 l Z a0 hw [] b10 T27.heap n0 (Nat.le_trans (Nat.le_trans (Nat.le_trans (Nat.le_trans (Nat.le_trans (Nat.le_trans (Nat.le_trans (Nat.le_trans (Nat.le_trans (Nat.le_trans (Nat.le_trans (Nat.le_trans Z0 E1.1) E2.1) E3.1) Kc4.1) Kc5.1) E6.1) E7.1) Kc8.1) Kc9.1) E10.1) Kc11.1) Kc27.1)  P27_0 ge_b10 P27_1 P27_2 P27_3) hZ (own_w hw 276 rfl) (own_w hw 103 rfl) (by decide) (by decide)) q28a q28c (g := (mkF m 98 #[.val (.int p1), .val (.int p2), .val (.int (1 : Int32)), .val (.int (2 : Int32)), .val (.ref b1), .val (.ref b6), .val (.ref b10), .val (.int (1 : Int32)), .unset] [(.ref b10)])) rfl (by rw [hml]; rfl) (Steps.refl _) (argsL := []) (rest := []) (lenOf own_pd0 rfl) rfl (by show 2 * 0 + _ ≤ _; exact Nat.le_of_eq rfl) (hb hby at_98) (fun _ _ => ⟨rfl, rfl, (by decide : 23 + 0 ≤ _), (by decide : 99 + 0 ≤ _)⟩)
        dsimp only [Pt.U, Pt.locs, Pt.cells, Pt.slots] at X28 l28 y28 z28 st28 hQ28
        subst l28 y28 z28
        obtain ⟨rfl, Nq28, Kc28, P28_0, P28_1, P28_2, P28_3⟩ := hQ28
        have N28 := Fr.app N27 Nq28
        have O28 := O27.keep Kc28 (allS ge_b10 all0)
        refine own_tr st28 ?_
        show own_G p.tables e below _ (T28.setTop (mkF m 101 #[.val (.int p1), .val (.int p2), .val (.int (1 : Int32)), .val (.int (2 : Int32)), .val (.ref b1), .val (.ref b6), .val (.ref b10), .val (.int (1 : Int32)), .unset] []))
        refine own_st (fun _ kS => XS.iloadN X28.here hx rfl (hb hby at_101) rfl kS) ?_
        refine own_st (fun _ kS => XS.iconst X28.here hx rfl (hb hby at_102) kS) ?_
        show own_G p.tables e below _ (T28.setTop (mkF m 103 #[.val (.int p1), .val (.int p2), .val (.int (1 : Int32)), .val (.int (2 : Int32)), .val (.ref b1), .val (.ref b6), .val (.ref b10), .val (.int (1 : Int32)), .unset] [(.int (2 : Int32)), (.int (2 : Int32))]))
        refine own_st (fun _ kS => XS.icmpNo X28.here hx rfl (hb hby at_103) rfl (flt (by decide : ¬ ((2 : Int32) < (2 : Int32)))).1 kS) ?_
        show own_G p.tables e below _ (T28.setTop (mkF m 106 #[.val (.int p1), .val (.int p2), .val (.int (1 : Int32)), .val (.int (2 : Int32)), .val (.ref b1), .val (.ref b6), .val (.ref b10), .val (.int (1 : Int32)), .unset] []))
        refine own_st (fun _ kS => XS.aload X28.here hx rfl (hb hby at_106) rfl rfl kS) ?_
        show own_G p.tables e below _ (T28.setTop (mkF m 108 #[.val (.int p1), .val (.int p2), .val (.int (1 : Int32)), .val (.int (2 : Int32)), .val (.ref b1), .val (.ref b6), .val (.ref b10), .val (.int (1 : Int32)), .unset] [(.ref b10)]))
        obtain ⟨cq29, kq29, q29a, q29b, q29c⟩ := isOf hZ rfl P28_0
        obtain ⟨_, _, ⟨T29, L29, k29, n29⟩, -, X29, ⟨Lc29, hQ29, l29, y29, z29⟩, st29⟩ := X28.virtualBack hx (y := (⟨"com/example/cartouche/cartouche/checking/Summary", "countUnreadable", "()V"⟩ : MethodName)) (z := (⟨"com/example/cartouche/cartouche/checking/Summary", "countUnreadable", "()V"⟩ : MethodName)) hown (mvT hZ (own_w hw 272 rfl)) (mvT hZ (own_w hw 273 rfl)) (notFace_of_selects (args := #[]) (mvT hZ (own_w hw 275 rfl))) (mvT hZ (own_w hw 275 rfl)) (mvT hZ (own_w hw 274 rfl)) (by decide) (backOf (W := 0) (rm_unread1_1 l Z a0 hw [] b10 T28.heap n0 (Nat.le_trans (Nat.le_trans (Nat.le_trans (Nat.le_trans (Nat.le_trans (Nat.le_trans (Nat.le_trans (Nat.le_trans (Nat.le_trans (Nat.le_trans (Nat.le_trans (Nat.le_trans (Nat.le_trans Z0 E1.1) E2.1) E3.1) Kc4.1) Kc5.1) E6.1) E7.1) Kc8.1) Kc9.1) E10.1) Kc11.1) Kc27.1) Kc28.1)  P28_0 ge_b10 P28_1 P28_2 P28_3) hZ (own_w hw 276 rfl) (own_w hw 103 rfl) (by decide) (by decide)) q29a q29c (g := (mkF m 108 #[.val (.int p1), .val (.int p2), .val (.int (1 : Int32)), .val (.int (2 : Int32)), .val (.ref b1), .val (.ref b6), .val (.ref b10), .val (.int (1 : Int32)), .unset] [(.ref b10)])) rfl (by rw [hml]; rfl) (Steps.refl _) (argsL := []) (rest := []) (lenOf own_pd0 rfl) rfl (by show 2 * 0 + _ ≤ _; exact Nat.le_of_eq rfl) (hb hby at_108) (fun _ _ => ⟨rfl, rfl, (by decide : 23 + 0 ≤ _), (by decide : 99 + 0 ≤ _)⟩)
        dsimp only [Pt.U, Pt.locs, Pt.cells, Pt.slots] at X29 l29 y29 z29 st29 hQ29
        subst l29 y29 z29
        obtain ⟨rfl, Nq29, Kc29, P29_0, P29_1, P29_2, P29_3⟩ := hQ29
        have N29 := Fr.app N28 Nq29
        have O29 := O28.keep Kc29 (allS ge_b10 all0)
        refine own_tr st29 ?_
        show own_G p.tables e below _ (T29.setTop (mkF m 111 #[.val (.int p1), .val (.int p2), .val (.int (1 : Int32)), .val (.int (2 : Int32)), .val (.ref b1), .val (.ref b6), .val (.ref b10), .val (.int (1 : Int32)), .unset] []))
        refine own_st (fun _ kS => XS.iloadN X29.here hx rfl (hb hby at_111) rfl kS) ?_
        show own_G p.tables e below _ (T29.setTop (mkF m 112 #[.val (.int p1), .val (.int p2), .val (.int (1 : Int32)), .val (.int (2 : Int32)), .val (.ref b1), .val (.ref b6), .val (.ref b10), .val (.int (1 : Int32)), .unset] [(.int (2 : Int32))]))
        refine own_st (fun _ kS => XS.ifYes X29.here hx rfl (pc0 := 112) (pc' := 119) rfl (hb hby at_112) rfl ((if0 _ _).trans (feq (by decide : ¬ ((2 : Int32) = (0 : Int32)))).2) (by decide) (by decide) kS) ?_
        show own_G p.tables e below _ (T29.setTop (mkF m 119 #[.val (.int p1), .val (.int p2), .val (.int (1 : Int32)), .val (.int (2 : Int32)), .val (.ref b1), .val (.ref b6), .val (.ref b10), .val (.int (1 : Int32)), .unset] []))
        refine own_st (fun _ kS => XS.iconst X29.here hx rfl (hb hby at_119) kS) ?_
        show own_G p.tables e below _ (T29.setTop (mkF m 120 #[.val (.int p1), .val (.int p2), .val (.int (1 : Int32)), .val (.int (2 : Int32)), .val (.ref b1), .val (.ref b6), .val (.ref b10), .val (.int (1 : Int32)), .unset] [(.int (0 : Int32))]))
        refine own_st (fun _ kS => XS.istore X29.here hx rfl (hb hby at_120) rfl (l' := #[.val (.int p1), .val (.int p2), .val (.int (1 : Int32)), .val (.int (2 : Int32)), .val (.ref b1), .val (.ref b6), .val (.ref b10), .val (.int (1 : Int32)), .val (.int (0 : Int32))]) rfl kS) ?_
        show own_G p.tables e below _ (T29.setTop (mkF m 122 #[.val (.int p1), .val (.int p2), .val (.int (1 : Int32)), .val (.int (2 : Int32)), .val (.ref b1), .val (.ref b6), .val (.ref b10), .val (.int (1 : Int32)), .val (.int (0 : Int32))] []))
        refine own_st (fun _ kS => XS.iload X29.here hx rfl (hb hby at_122) rfl kS) ?_
        show own_G p.tables e below _ (T29.setTop (mkF m 124 #[.val (.int p1), .val (.int p2), .val (.int (1 : Int32)), .val (.int (2 : Int32)), .val (.ref b1), .val (.ref b6), .val (.ref b10), .val (.int (1 : Int32)), .val (.int (0 : Int32))] [(.int (1 : Int32))]))
        refine own_st (fun _ kS => XS.ifNo X29.here hx rfl (hb hby at_124) rfl ((if0 _ _).trans (feq (by decide : ¬ ((1 : Int32) = (0 : Int32)))).1) kS) ?_
        show own_G p.tables e below _ (T29.setTop (mkF m 127 #[.val (.int p1), .val (.int p2), .val (.int (1 : Int32)), .val (.int (2 : Int32)), .val (.ref b1), .val (.ref b6), .val (.ref b10), .val (.int (1 : Int32)), .val (.int (0 : Int32))] []))
        refine own_st (fun _ kS => XS.aload X29.here hx rfl (hb hby at_127) rfl rfl kS) ?_
        show own_G p.tables e below _ (T29.setTop (mkF m 129 #[.val (.int p1), .val (.int p2), .val (.int (1 : Int32)), .val (.int (2 : Int32)), .val (.ref b1), .val (.ref b6), .val (.ref b10), .val (.int (1 : Int32)), .val (.int (0 : Int32))] [(.ref b10)]))
        obtain ⟨cq30, kq30, q30a, q30b, q30c⟩ := isOf hZ rfl P29_0
        obtain ⟨_, _, ⟨T30, L30, k30, n30⟩, -, X30, ⟨Lc30, hQ30, l30, y30, z30⟩, st30⟩ := X29.virtualBack hx (y := (⟨"com/example/cartouche/cartouche/checking/Summary", "passed", "()Z"⟩ : MethodName)) (z := (⟨"com/example/cartouche/cartouche/checking/Summary", "passed", "()Z"⟩ : MethodName)) hown (mvT hZ (own_w hw 226 rfl)) (mvT hZ (own_w hw 227 rfl)) (notFace_of_selects (args := #[]) (mvT hZ (own_w hw 229 rfl))) (mvT hZ (own_w hw 229 rfl)) (mvT hZ (own_w hw 228 rfl)) (by decide) (backOf (W := 0) (rm_passed2_1 l Z a0 hw [] b10 T29.heap n0 (Nat.le_trans (Nat.le_trans (Nat.le_trans (Nat.le_trans (Nat.le_trans (Nat.le_trans (Nat.le_trans (Nat.le_trans (Nat.le_trans (Nat.le_trans (Nat.le_trans (Nat.le_trans (Nat.le_trans (Nat.le_trans Z0 E1.1) E2.1) E3.1) Kc4.1) Kc5.1) E6.1) E7.1) Kc8.1) Kc9.1) E10.1) Kc11.1) Kc27.1) Kc28.1) Kc29.1)  P29_1) hZ (own_w hw 230 rfl) (own_w hw 103 rfl) (by decide) (by decide)) q30a q30c (g := (mkF m 129 #[.val (.int p1), .val (.int p2), .val (.int (1 : Int32)), .val (.int (2 : Int32)), .val (.ref b1), .val (.ref b6), .val (.ref b10), .val (.int (1 : Int32)), .val (.int (0 : Int32))] [(.ref b10)])) rfl (by rw [hml]; rfl) (Steps.refl _) (argsL := []) (rest := []) (lenOf own_pd1 rfl) rfl (by show 2 * 0 + _ ≤ _; exact Nat.le_of_eq rfl) (hb hby at_129) (fun _ _ => ⟨rfl, rfl, (by decide : 23 + 0 ≤ _), (by decide : 99 + 0 ≤ _)⟩)
        dsimp only [Pt.U, Pt.locs, Pt.cells, Pt.slots] at X30 l30 y30 z30 st30 hQ30
        subst l30 y30 z30
        obtain ⟨rfl, Nq30, eq30⟩ := hQ30
        have N30 := Fr.app N29 Nq30
        refine own_tr st30 ?_
        show own_G p.tables e below _ (T30.setTop (mkF m 132 #[.val (.int p1), .val (.int p2), .val (.int (1 : Int32)), .val (.int (2 : Int32)), .val (.ref b1), .val (.ref b6), .val (.ref b10), .val (.int (1 : Int32)), .val (.int (0 : Int32))] [(.int (0 : Int32))]))
        refine own_st (fun _ kS => XS.iload X30.here hx rfl (hb hby at_132) rfl kS) ?_
        show own_G p.tables e below _ (T30.setTop (mkF m 134 #[.val (.int p1), .val (.int p2), .val (.int (1 : Int32)), .val (.int (2 : Int32)), .val (.ref b1), .val (.ref b6), .val (.ref b10), .val (.int (1 : Int32)), .val (.int (0 : Int32))] [(.int (0 : Int32)), (.int (0 : Int32))]))
        refine own_st (fun _ kS => XS.icmpNo X30.here hx rfl (hb hby at_134) rfl (teq (by decide : (0 : Int32) = (0 : Int32))).2 kS) ?_
        show own_G p.tables e below _ (T30.setTop (mkF m 137 #[.val (.int p1), .val (.int p2), .val (.int (1 : Int32)), .val (.int (2 : Int32)), .val (.ref b1), .val (.ref b6), .val (.ref b10), .val (.int (1 : Int32)), .val (.int (0 : Int32))] []))
        refine own_st (fun _ kS => XS.iconst X30.here hx rfl (hb hby at_137) kS) ?_
        refine own_st (fun _ kS => XS.goto X30.here hx rfl (pc0 := 138) (pc' := 142) rfl (hb hby at_138) (by decide) (by decide) kS) ?_
        show own_G p.tables e below _ (T30.setTop (mkF m 142 #[.val (.int p1), .val (.int p2), .val (.int (1 : Int32)), .val (.int (2 : Int32)), .val (.ref b1), .val (.ref b6), .val (.ref b10), .val (.int (1 : Int32)), .val (.int (0 : Int32))] [(.int (1 : Int32))]))
        exact own_retNW hS (own_le eq30 (Nat.le_trans (Nat.le_trans (Nat.le_trans (Nat.le_trans (Nat.le_trans (Nat.le_trans (Nat.le_trans (Nat.le_trans (Nat.le_trans (Nat.le_trans (Nat.le_trans (Nat.le_trans hk2 E3.1) Kc4.1) Kc5.1) E6.1) E7.1) Kc8.1) Kc9.1) E10.1) Kc11.1) Kc27.1) Kc28.1) Kc29.1)) X30 hx hlk (t := .boolean) hret (by simp) (hb hby at_142) (by decide) (by decide) (v' := (1 : Int32)) rfl (by rw [eq30]; exact ⟨rfl, N30⟩)
    · rw [hk13]
      show own_G p.tables e below _ (T12.setTop (mkF m 67 #[.val (.int p1), .val (.int p2), .val (.int (2 : Int32)), .val (.int ((p2 &&& (2147483647 : Int32)) % (3 : Int32))), .val (.ref b1), .val (.ref b6), .val (.ref b10), .val (.int (1 : Int32)), .unset] []))
      rcases own_mod3 p2 with hk31 | hk31 | hk31
      · rw [hk31]
        show own_G p.tables e below _ (T12.setTop (mkF m 67 #[.val (.int p1), .val (.int p2), .val (.int (2 : Int32)), .val (.int (0 : Int32)), .val (.ref b1), .val (.ref b6), .val (.ref b10), .val (.int (1 : Int32)), .unset] []))
        refine own_st (fun _ kS => XS.iloadN X12.here hx rfl (hb hby at_67) rfl kS) ?_
        refine own_st (fun _ kS => XS.iconst X12.here hx rfl (hb hby at_68) kS) ?_
        show own_G p.tables e below _ (T12.setTop (mkF m 69 #[.val (.int p1), .val (.int p2), .val (.int (2 : Int32)), .val (.int (0 : Int32)), .val (.ref b1), .val (.ref b6), .val (.ref b10), .val (.int (1 : Int32)), .unset] [(.int (1 : Int32)), (.int (2 : Int32))]))
        refine own_st (fun _ kS => XS.icmpNo X12.here hx rfl (hb hby at_69) rfl (flt (by decide : ¬ ((2 : Int32) < (1 : Int32)))).1 kS) ?_
        show own_G p.tables e below _ (T12.setTop (mkF m 72 #[.val (.int p1), .val (.int p2), .val (.int (2 : Int32)), .val (.int (0 : Int32)), .val (.ref b1), .val (.ref b6), .val (.ref b10), .val (.int (1 : Int32)), .unset] []))
        refine own_st (fun _ kS => XS.aload X12.here hx rfl (hb hby at_72) rfl rfl kS) ?_
        refine own_st (fun _ kS => XS.aload X12.here hx rfl (hb hby at_74) rfl rfl kS) ?_
        show own_G p.tables e below _ (T12.setTop (mkF m 76 #[.val (.int p1), .val (.int p2), .val (.int (2 : Int32)), .val (.int (0 : Int32)), .val (.ref b1), .val (.ref b6), .val (.ref b10), .val (.int (1 : Int32)), .unset] [(.ref b6), (.ref b10)]))
        obtain ⟨cq32, kq32, q32a, q32b, q32c⟩ := isOf hZ eq12 P11_0
        obtain ⟨_, _, ⟨T32, L32, k32, n32⟩, -, X32, ⟨Lc32, hQ32, l32, y32, z32⟩, st32⟩ := X12.virtualBack hx (y := (⟨"com/example/cartouche/cartouche/checking/Summary", "count", "(Lcom/example/cartouche/cartouche/checking/Verdict;)V"⟩ : MethodName)) (z := (⟨"com/example/cartouche/cartouche/checking/Summary", "count", "(Lcom/example/cartouche/cartouche/checking/Verdict;)V"⟩ : MethodName)) hown (mvT hZ (own_w hw 237 rfl)) (mvT hZ (own_w hw 238 rfl)) (notFace_of_selects (args := #[]) (mvT hZ (own_w hw 240 rfl))) (mvT hZ (own_w hw 240 rfl)) (mvT hZ (own_w hw 239 rfl)) (by decide) (backOf (W := 0) (rm_count1_0 l Z a0 hw [] b10 b6 b7 wL wE kE wD w_REQUIRED w_RECOMMENDED T11.heap n0 (Nat.le_trans (Nat.le_trans (Nat.le_trans (Nat.le_trans (Nat.le_trans (Nat.le_trans (Nat.le_trans (Nat.le_trans (Nat.le_trans (Nat.le_trans (Nat.le_trans Z0 E1.1) E2.1) E3.1) Kc4.1) Kc5.1) E6.1) E7.1) Kc8.1) Kc9.1) E10.1) Kc11.1) O11 P11_0 ge_b10 (Ne.symm ne_b6_b10) (Ne.symm ne_b7_b10) P11_1 P11_2 P11_3 ((Exa.ext E10 P9_0).keep Kc11) ((Fld.ext E10 P9_1).keep Kc11 (ninS ne_b6_b10 nin0)) ((Exa.ext E10 (P8_0.keep Kc9)).keep Kc11) ((Fld.ext E10 (P8_2.keep Kc9 (ninS (Ne.symm ne_b6_b7) nin0))).keep Kc11 (ninS ne_b7_b10 nin0)) ((Fld.ext E10 (P8_1.keep Kc9 (ninS (Ne.symm ne_b6_b7) nin0))).keep Kc11 (ninS ne_b7_b10 nin0)) E_L F_el R_E S_D S_REQUIRED S_RECOMMENDED) hZ (own_w hw 241 rfl) (own_w hw 103 rfl) (by decide) (by decide)) q32a q32c (g := (mkF m 76 #[.val (.int p1), .val (.int p2), .val (.int (2 : Int32)), .val (.int (0 : Int32)), .val (.ref b1), .val (.ref b6), .val (.ref b10), .val (.int (1 : Int32)), .unset] [(.ref b6), (.ref b10)])) rfl (by rw [hml]; rfl) (Steps.refl _) (argsL := [(.ref b6)]) (rest := []) (lenOf own_pd13 rfl) rfl (by show 2 * 0 + _ ≤ _; exact Nat.le_of_eq rfl) (hb hby at_76) (fun _ _ => ⟨rfl, eq12, (by decide : 15 + 8 ≤ _), (by decide : 70 + 29 ≤ _)⟩)
        dsimp only [Pt.U, Pt.locs, Pt.cells, Pt.slots] at X32 l32 y32 z32 st32 hQ32
        subst l32 y32 z32
        obtain ⟨rfl, Nq32, Kc32, P32_0, P32_1, P32_2, P32_3⟩ := hQ32
        have N32 := Fr.app N12 Nq32
        have O32 := O11.keep Kc32 (allS ge_b10 all0)
        refine own_tr st32 ?_
        show own_G p.tables e below _ (T32.setTop (mkF m 79 #[.val (.int p1), .val (.int p2), .val (.int (2 : Int32)), .val (.int (0 : Int32)), .val (.ref b1), .val (.ref b6), .val (.ref b10), .val (.int (1 : Int32)), .unset] []))
        refine own_st (fun _ kS => XS.iloadN X32.here hx rfl (hb hby at_79) rfl kS) ?_
        refine own_st (fun _ kS => XS.iconst X32.here hx rfl (hb hby at_80) kS) ?_
        show own_G p.tables e below _ (T32.setTop (mkF m 81 #[.val (.int p1), .val (.int p2), .val (.int (2 : Int32)), .val (.int (0 : Int32)), .val (.ref b1), .val (.ref b6), .val (.ref b10), .val (.int (1 : Int32)), .unset] [(.int (2 : Int32)), (.int (2 : Int32))]))
        refine own_st (fun _ kS => XS.icmpNo X32.here hx rfl (hb hby at_81) rfl (flt (by decide : ¬ ((2 : Int32) < (2 : Int32)))).1 kS) ?_
        show own_G p.tables e below _ (T32.setTop (mkF m 84 #[.val (.int p1), .val (.int p2), .val (.int (2 : Int32)), .val (.int (0 : Int32)), .val (.ref b1), .val (.ref b6), .val (.ref b10), .val (.int (1 : Int32)), .unset] []))
        refine own_st (fun _ kS => XS.aload X32.here hx rfl (hb hby at_84) rfl rfl kS) ?_
        refine own_st (fun _ kS => XS.aload X32.here hx rfl (hb hby at_86) rfl rfl kS) ?_
        show own_G p.tables e below _ (T32.setTop (mkF m 88 #[.val (.int p1), .val (.int p2), .val (.int (2 : Int32)), .val (.int (0 : Int32)), .val (.ref b1), .val (.ref b6), .val (.ref b10), .val (.int (1 : Int32)), .unset] [(.ref b6), (.ref b10)]))
        obtain ⟨cq33, kq33, q33a, q33b, q33c⟩ := isOf hZ rfl P32_0
        obtain ⟨_, _, ⟨T33, L33, k33, n33⟩, -, X33, ⟨Lc33, hQ33, l33, y33, z33⟩, st33⟩ := X32.virtualBack hx (y := (⟨"com/example/cartouche/cartouche/checking/Summary", "count", "(Lcom/example/cartouche/cartouche/checking/Verdict;)V"⟩ : MethodName)) (z := (⟨"com/example/cartouche/cartouche/checking/Summary", "count", "(Lcom/example/cartouche/cartouche/checking/Verdict;)V"⟩ : MethodName)) hown (mvT hZ (own_w hw 237 rfl)) (mvT hZ (own_w hw 238 rfl)) (notFace_of_selects (args := #[]) (mvT hZ (own_w hw 240 rfl))) (mvT hZ (own_w hw 240 rfl)) (mvT hZ (own_w hw 239 rfl)) (by decide) (backOf (W := 0) (rm_count1_1 l Z a0 hw [] b10 b6 b7 wL wE kE wD w_REQUIRED w_RECOMMENDED T32.heap n0 (Nat.le_trans (Nat.le_trans (Nat.le_trans (Nat.le_trans (Nat.le_trans (Nat.le_trans (Nat.le_trans (Nat.le_trans (Nat.le_trans (Nat.le_trans (Nat.le_trans (Nat.le_trans Z0 E1.1) E2.1) E3.1) Kc4.1) Kc5.1) E6.1) E7.1) Kc8.1) Kc9.1) E10.1) Kc11.1) Kc32.1) O32 P32_0 ge_b10 (Ne.symm ne_b6_b10) (Ne.symm ne_b7_b10) P32_1 P32_2 P32_3 (((Exa.ext E10 P9_0).keep Kc11).keep Kc32) (((Fld.ext E10 P9_1).keep Kc11 (ninS ne_b6_b10 nin0)).keep Kc32 (ninS ne_b6_b10 nin0)) (((Exa.ext E10 (P8_0.keep Kc9)).keep Kc11).keep Kc32) (((Fld.ext E10 (P8_2.keep Kc9 (ninS (Ne.symm ne_b6_b7) nin0))).keep Kc11 (ninS ne_b7_b10 nin0)).keep Kc32 (ninS ne_b7_b10 nin0)) (((Fld.ext E10 (P8_1.keep Kc9 (ninS (Ne.symm ne_b6_b7) nin0))).keep Kc11 (ninS ne_b7_b10 nin0)).keep Kc32 (ninS ne_b7_b10 nin0)) E_L F_el R_E S_D S_REQUIRED S_RECOMMENDED) hZ (own_w hw 241 rfl) (own_w hw 103 rfl) (by decide) (by decide)) q33a q33c (g := (mkF m 88 #[.val (.int p1), .val (.int p2), .val (.int (2 : Int32)), .val (.int (0 : Int32)), .val (.ref b1), .val (.ref b6), .val (.ref b10), .val (.int (1 : Int32)), .unset] [(.ref b6), (.ref b10)])) rfl (by rw [hml]; rfl) (Steps.refl _) (argsL := [(.ref b6)]) (rest := []) (lenOf own_pd13 rfl) rfl (by show 2 * 0 + _ ≤ _; exact Nat.le_of_eq rfl) (hb hby at_88) (fun _ _ => ⟨rfl, rfl, (by decide : 23 + 8 ≤ _), (by decide : 99 + 29 ≤ _)⟩)
        dsimp only [Pt.U, Pt.locs, Pt.cells, Pt.slots] at X33 l33 y33 z33 st33 hQ33
        subst l33 y33 z33
        obtain ⟨rfl, Nq33, Kc33, P33_0, P33_1, P33_2, P33_3⟩ := hQ33
        have N33 := Fr.app N32 Nq33
        have O33 := O32.keep Kc33 (allS ge_b10 all0)
        refine own_tr st33 ?_
        show own_G p.tables e below _ (T33.setTop (mkF m 91 #[.val (.int p1), .val (.int p2), .val (.int (2 : Int32)), .val (.int (0 : Int32)), .val (.ref b1), .val (.ref b6), .val (.ref b10), .val (.int (1 : Int32)), .unset] []))
        refine own_st (fun _ kS => XS.iloadN X33.here hx rfl (hb hby at_91) rfl kS) ?_
        refine own_st (fun _ kS => XS.iconst X33.here hx rfl (hb hby at_92) kS) ?_
        show own_G p.tables e below _ (T33.setTop (mkF m 93 #[.val (.int p1), .val (.int p2), .val (.int (2 : Int32)), .val (.int (0 : Int32)), .val (.ref b1), .val (.ref b6), .val (.ref b10), .val (.int (1 : Int32)), .unset] [(.int (1 : Int32)), (.int (0 : Int32))]))
        refine own_st (fun _ kS => XS.icmpYes X33.here hx rfl (pc0 := 93) (pc' := 101) rfl (hb hby at_93) rfl (tlt (by decide : (0 : Int32) < (1 : Int32))).1 (by decide) (by decide) kS) ?_
        show own_G p.tables e below _ (T33.setTop (mkF m 101 #[.val (.int p1), .val (.int p2), .val (.int (2 : Int32)), .val (.int (0 : Int32)), .val (.ref b1), .val (.ref b6), .val (.ref b10), .val (.int (1 : Int32)), .unset] []))
        refine own_st (fun _ kS => XS.iloadN X33.here hx rfl (hb hby at_101) rfl kS) ?_
        refine own_st (fun _ kS => XS.iconst X33.here hx rfl (hb hby at_102) kS) ?_
        show own_G p.tables e below _ (T33.setTop (mkF m 103 #[.val (.int p1), .val (.int p2), .val (.int (2 : Int32)), .val (.int (0 : Int32)), .val (.ref b1), .val (.ref b6), .val (.ref b10), .val (.int (1 : Int32)), .unset] [(.int (2 : Int32)), (.int (0 : Int32))]))
        refine own_st (fun _ kS => XS.icmpYes X33.here hx rfl (pc0 := 103) (pc' := 111) rfl (hb hby at_103) rfl (tlt (by decide : (0 : Int32) < (2 : Int32))).1 (by decide) (by decide) kS) ?_
        show own_G p.tables e below _ (T33.setTop (mkF m 111 #[.val (.int p1), .val (.int p2), .val (.int (2 : Int32)), .val (.int (0 : Int32)), .val (.ref b1), .val (.ref b6), .val (.ref b10), .val (.int (1 : Int32)), .unset] []))
        refine own_st (fun _ kS => XS.iloadN X33.here hx rfl (hb hby at_111) rfl kS) ?_
        show own_G p.tables e below _ (T33.setTop (mkF m 112 #[.val (.int p1), .val (.int p2), .val (.int (2 : Int32)), .val (.int (0 : Int32)), .val (.ref b1), .val (.ref b6), .val (.ref b10), .val (.int (1 : Int32)), .unset] [(.int (0 : Int32))]))
        refine own_st (fun _ kS => XS.ifNo X33.here hx rfl (hb hby at_112) rfl ((if0 _ _).trans (teq (by decide : (0 : Int32) = (0 : Int32))).2) kS) ?_
        show own_G p.tables e below _ (T33.setTop (mkF m 115 #[.val (.int p1), .val (.int p2), .val (.int (2 : Int32)), .val (.int (0 : Int32)), .val (.ref b1), .val (.ref b6), .val (.ref b10), .val (.int (1 : Int32)), .unset] []))
        refine own_st (fun _ kS => XS.iconst X33.here hx rfl (hb hby at_115) kS) ?_
        refine own_st (fun _ kS => XS.goto X33.here hx rfl (pc0 := 116) (pc' := 120) rfl (hb hby at_116) (by decide) (by decide) kS) ?_
        show own_G p.tables e below _ (T33.setTop (mkF m 120 #[.val (.int p1), .val (.int p2), .val (.int (2 : Int32)), .val (.int (0 : Int32)), .val (.ref b1), .val (.ref b6), .val (.ref b10), .val (.int (1 : Int32)), .unset] [(.int (1 : Int32))]))
        refine own_st (fun _ kS => XS.istore X33.here hx rfl (hb hby at_120) rfl (l' := #[.val (.int p1), .val (.int p2), .val (.int (2 : Int32)), .val (.int (0 : Int32)), .val (.ref b1), .val (.ref b6), .val (.ref b10), .val (.int (1 : Int32)), .val (.int (1 : Int32))]) rfl kS) ?_
        show own_G p.tables e below _ (T33.setTop (mkF m 122 #[.val (.int p1), .val (.int p2), .val (.int (2 : Int32)), .val (.int (0 : Int32)), .val (.ref b1), .val (.ref b6), .val (.ref b10), .val (.int (1 : Int32)), .val (.int (1 : Int32))] []))
        refine own_st (fun _ kS => XS.iload X33.here hx rfl (hb hby at_122) rfl kS) ?_
        show own_G p.tables e below _ (T33.setTop (mkF m 124 #[.val (.int p1), .val (.int p2), .val (.int (2 : Int32)), .val (.int (0 : Int32)), .val (.ref b1), .val (.ref b6), .val (.ref b10), .val (.int (1 : Int32)), .val (.int (1 : Int32))] [(.int (1 : Int32))]))
        refine own_st (fun _ kS => XS.ifNo X33.here hx rfl (hb hby at_124) rfl ((if0 _ _).trans (feq (by decide : ¬ ((1 : Int32) = (0 : Int32)))).1) kS) ?_
        show own_G p.tables e below _ (T33.setTop (mkF m 127 #[.val (.int p1), .val (.int p2), .val (.int (2 : Int32)), .val (.int (0 : Int32)), .val (.ref b1), .val (.ref b6), .val (.ref b10), .val (.int (1 : Int32)), .val (.int (1 : Int32))] []))
        refine own_st (fun _ kS => XS.aload X33.here hx rfl (hb hby at_127) rfl rfl kS) ?_
        show own_G p.tables e below _ (T33.setTop (mkF m 129 #[.val (.int p1), .val (.int p2), .val (.int (2 : Int32)), .val (.int (0 : Int32)), .val (.ref b1), .val (.ref b6), .val (.ref b10), .val (.int (1 : Int32)), .val (.int (1 : Int32))] [(.ref b10)]))
        obtain ⟨cq34, kq34, q34a, q34b, q34c⟩ := isOf hZ rfl P33_0
        obtain ⟨_, _, ⟨T34, L34, k34, n34⟩, -, X34, ⟨Lc34, hQ34, l34, y34, z34⟩, st34⟩ := X33.virtualBack hx (y := (⟨"com/example/cartouche/cartouche/checking/Summary", "passed", "()Z"⟩ : MethodName)) (z := (⟨"com/example/cartouche/cartouche/checking/Summary", "passed", "()Z"⟩ : MethodName)) hown (mvT hZ (own_w hw 226 rfl)) (mvT hZ (own_w hw 227 rfl)) (notFace_of_selects (args := #[]) (mvT hZ (own_w hw 229 rfl))) (mvT hZ (own_w hw 229 rfl)) (mvT hZ (own_w hw 228 rfl)) (by decide) (backOf (W := 0) (rm_passed0_2 l Z a0 hw [] b10 T33.heap n0 (Nat.le_trans (Nat.le_trans (Nat.le_trans (Nat.le_trans (Nat.le_trans (Nat.le_trans (Nat.le_trans (Nat.le_trans (Nat.le_trans (Nat.le_trans (Nat.le_trans (Nat.le_trans (Nat.le_trans Z0 E1.1) E2.1) E3.1) Kc4.1) Kc5.1) E6.1) E7.1) Kc8.1) Kc9.1) E10.1) Kc11.1) Kc32.1) Kc33.1)  P33_1 P33_2 P33_3) hZ (own_w hw 230 rfl) (own_w hw 103 rfl) (by decide) (by decide)) q34a q34c (g := (mkF m 129 #[.val (.int p1), .val (.int p2), .val (.int (2 : Int32)), .val (.int (0 : Int32)), .val (.ref b1), .val (.ref b6), .val (.ref b10), .val (.int (1 : Int32)), .val (.int (1 : Int32))] [(.ref b10)])) rfl (by rw [hml]; rfl) (Steps.refl _) (argsL := []) (rest := []) (lenOf own_pd1 rfl) rfl (by show 2 * 0 + _ ≤ _; exact Nat.le_of_eq rfl) (hb hby at_129) (fun _ _ => ⟨rfl, rfl, (by decide : 31 + 0 ≤ _), (by decide : 128 + 0 ≤ _)⟩)
        dsimp only [Pt.U, Pt.locs, Pt.cells, Pt.slots] at X34 l34 y34 z34 st34 hQ34
        subst l34 y34 z34
        obtain ⟨rfl, Nq34, eq34⟩ := hQ34
        have N34 := Fr.app N33 Nq34
        refine own_tr st34 ?_
        show own_G p.tables e below _ (T34.setTop (mkF m 132 #[.val (.int p1), .val (.int p2), .val (.int (2 : Int32)), .val (.int (0 : Int32)), .val (.ref b1), .val (.ref b6), .val (.ref b10), .val (.int (1 : Int32)), .val (.int (1 : Int32))] [(.int (1 : Int32))]))
        refine own_st (fun _ kS => XS.iload X34.here hx rfl (hb hby at_132) rfl kS) ?_
        show own_G p.tables e below _ (T34.setTop (mkF m 134 #[.val (.int p1), .val (.int p2), .val (.int (2 : Int32)), .val (.int (0 : Int32)), .val (.ref b1), .val (.ref b6), .val (.ref b10), .val (.int (1 : Int32)), .val (.int (1 : Int32))] [(.int (1 : Int32)), (.int (1 : Int32))]))
        refine own_st (fun _ kS => XS.icmpNo X34.here hx rfl (hb hby at_134) rfl (teq (by decide : (1 : Int32) = (1 : Int32))).2 kS) ?_
        show own_G p.tables e below _ (T34.setTop (mkF m 137 #[.val (.int p1), .val (.int p2), .val (.int (2 : Int32)), .val (.int (0 : Int32)), .val (.ref b1), .val (.ref b6), .val (.ref b10), .val (.int (1 : Int32)), .val (.int (1 : Int32))] []))
        refine own_st (fun _ kS => XS.iconst X34.here hx rfl (hb hby at_137) kS) ?_
        refine own_st (fun _ kS => XS.goto X34.here hx rfl (pc0 := 138) (pc' := 142) rfl (hb hby at_138) (by decide) (by decide) kS) ?_
        show own_G p.tables e below _ (T34.setTop (mkF m 142 #[.val (.int p1), .val (.int p2), .val (.int (2 : Int32)), .val (.int (0 : Int32)), .val (.ref b1), .val (.ref b6), .val (.ref b10), .val (.int (1 : Int32)), .val (.int (1 : Int32))] [(.int (1 : Int32))]))
        exact own_retNW hS (own_le eq34 (Nat.le_trans (Nat.le_trans (Nat.le_trans (Nat.le_trans (Nat.le_trans (Nat.le_trans (Nat.le_trans (Nat.le_trans (Nat.le_trans (Nat.le_trans (Nat.le_trans hk2 E3.1) Kc4.1) Kc5.1) E6.1) E7.1) Kc8.1) Kc9.1) E10.1) Kc11.1) Kc32.1) Kc33.1)) X34 hx hlk (t := .boolean) hret (by simp) (hb hby at_142) (by decide) (by decide) (v' := (1 : Int32)) rfl (by rw [eq34]; exact ⟨rfl, N34⟩)
      · rw [hk31]
        show own_G p.tables e below _ (T12.setTop (mkF m 67 #[.val (.int p1), .val (.int p2), .val (.int (2 : Int32)), .val (.int (1 : Int32)), .val (.ref b1), .val (.ref b6), .val (.ref b10), .val (.int (1 : Int32)), .unset] []))
        refine own_st (fun _ kS => XS.iloadN X12.here hx rfl (hb hby at_67) rfl kS) ?_
        refine own_st (fun _ kS => XS.iconst X12.here hx rfl (hb hby at_68) kS) ?_
        show own_G p.tables e below _ (T12.setTop (mkF m 69 #[.val (.int p1), .val (.int p2), .val (.int (2 : Int32)), .val (.int (1 : Int32)), .val (.ref b1), .val (.ref b6), .val (.ref b10), .val (.int (1 : Int32)), .unset] [(.int (1 : Int32)), (.int (2 : Int32))]))
        refine own_st (fun _ kS => XS.icmpNo X12.here hx rfl (hb hby at_69) rfl (flt (by decide : ¬ ((2 : Int32) < (1 : Int32)))).1 kS) ?_
        show own_G p.tables e below _ (T12.setTop (mkF m 72 #[.val (.int p1), .val (.int p2), .val (.int (2 : Int32)), .val (.int (1 : Int32)), .val (.ref b1), .val (.ref b6), .val (.ref b10), .val (.int (1 : Int32)), .unset] []))
        refine own_st (fun _ kS => XS.aload X12.here hx rfl (hb hby at_72) rfl rfl kS) ?_
        refine own_st (fun _ kS => XS.aload X12.here hx rfl (hb hby at_74) rfl rfl kS) ?_
        show own_G p.tables e below _ (T12.setTop (mkF m 76 #[.val (.int p1), .val (.int p2), .val (.int (2 : Int32)), .val (.int (1 : Int32)), .val (.ref b1), .val (.ref b6), .val (.ref b10), .val (.int (1 : Int32)), .unset] [(.ref b6), (.ref b10)]))
        obtain ⟨cq35, kq35, q35a, q35b, q35c⟩ := isOf hZ eq12 P11_0
        obtain ⟨_, _, ⟨T35, L35, k35, n35⟩, -, X35, ⟨Lc35, hQ35, l35, y35, z35⟩, st35⟩ := X12.virtualBack hx (y := (⟨"com/example/cartouche/cartouche/checking/Summary", "count", "(Lcom/example/cartouche/cartouche/checking/Verdict;)V"⟩ : MethodName)) (z := (⟨"com/example/cartouche/cartouche/checking/Summary", "count", "(Lcom/example/cartouche/cartouche/checking/Verdict;)V"⟩ : MethodName)) hown (mvT hZ (own_w hw 237 rfl)) (mvT hZ (own_w hw 238 rfl)) (notFace_of_selects (args := #[]) (mvT hZ (own_w hw 240 rfl))) (mvT hZ (own_w hw 240 rfl)) (mvT hZ (own_w hw 239 rfl)) (by decide) (backOf (W := 0) (rm_count1_0 l Z a0 hw [] b10 b6 b7 wL wE kE wD w_REQUIRED w_RECOMMENDED T11.heap n0 (Nat.le_trans (Nat.le_trans (Nat.le_trans (Nat.le_trans (Nat.le_trans (Nat.le_trans (Nat.le_trans (Nat.le_trans (Nat.le_trans (Nat.le_trans (Nat.le_trans Z0 E1.1) E2.1) E3.1) Kc4.1) Kc5.1) E6.1) E7.1) Kc8.1) Kc9.1) E10.1) Kc11.1) O11 P11_0 ge_b10 (Ne.symm ne_b6_b10) (Ne.symm ne_b7_b10) P11_1 P11_2 P11_3 ((Exa.ext E10 P9_0).keep Kc11) ((Fld.ext E10 P9_1).keep Kc11 (ninS ne_b6_b10 nin0)) ((Exa.ext E10 (P8_0.keep Kc9)).keep Kc11) ((Fld.ext E10 (P8_2.keep Kc9 (ninS (Ne.symm ne_b6_b7) nin0))).keep Kc11 (ninS ne_b7_b10 nin0)) ((Fld.ext E10 (P8_1.keep Kc9 (ninS (Ne.symm ne_b6_b7) nin0))).keep Kc11 (ninS ne_b7_b10 nin0)) E_L F_el R_E S_D S_REQUIRED S_RECOMMENDED) hZ (own_w hw 241 rfl) (own_w hw 103 rfl) (by decide) (by decide)) q35a q35c (g := (mkF m 76 #[.val (.int p1), .val (.int p2), .val (.int (2 : Int32)), .val (.int (1 : Int32)), .val (.ref b1), .val (.ref b6), .val (.ref b10), .val (.int (1 : Int32)), .unset] [(.ref b6), (.ref b10)])) rfl (by rw [hml]; rfl) (Steps.refl _) (argsL := [(.ref b6)]) (rest := []) (lenOf own_pd13 rfl) rfl (by show 2 * 0 + _ ≤ _; exact Nat.le_of_eq rfl) (hb hby at_76) (fun _ _ => ⟨rfl, eq12, (by decide : 15 + 8 ≤ _), (by decide : 70 + 29 ≤ _)⟩)
        dsimp only [Pt.U, Pt.locs, Pt.cells, Pt.slots] at X35 l35 y35 z35 st35 hQ35
        subst l35 y35 z35
        obtain ⟨rfl, Nq35, Kc35, P35_0, P35_1, P35_2, P35_3⟩ := hQ35
        have N35 := Fr.app N12 Nq35
        have O35 := O11.keep Kc35 (allS ge_b10 all0)
        refine own_tr st35 ?_
        show own_G p.tables e below _ (T35.setTop (mkF m 79 #[.val (.int p1), .val (.int p2), .val (.int (2 : Int32)), .val (.int (1 : Int32)), .val (.ref b1), .val (.ref b6), .val (.ref b10), .val (.int (1 : Int32)), .unset] []))
        refine own_st (fun _ kS => XS.iloadN X35.here hx rfl (hb hby at_79) rfl kS) ?_
        refine own_st (fun _ kS => XS.iconst X35.here hx rfl (hb hby at_80) kS) ?_
        show own_G p.tables e below _ (T35.setTop (mkF m 81 #[.val (.int p1), .val (.int p2), .val (.int (2 : Int32)), .val (.int (1 : Int32)), .val (.ref b1), .val (.ref b6), .val (.ref b10), .val (.int (1 : Int32)), .unset] [(.int (2 : Int32)), (.int (2 : Int32))]))
        refine own_st (fun _ kS => XS.icmpNo X35.here hx rfl (hb hby at_81) rfl (flt (by decide : ¬ ((2 : Int32) < (2 : Int32)))).1 kS) ?_
        show own_G p.tables e below _ (T35.setTop (mkF m 84 #[.val (.int p1), .val (.int p2), .val (.int (2 : Int32)), .val (.int (1 : Int32)), .val (.ref b1), .val (.ref b6), .val (.ref b10), .val (.int (1 : Int32)), .unset] []))
        refine own_st (fun _ kS => XS.aload X35.here hx rfl (hb hby at_84) rfl rfl kS) ?_
        refine own_st (fun _ kS => XS.aload X35.here hx rfl (hb hby at_86) rfl rfl kS) ?_
        show own_G p.tables e below _ (T35.setTop (mkF m 88 #[.val (.int p1), .val (.int p2), .val (.int (2 : Int32)), .val (.int (1 : Int32)), .val (.ref b1), .val (.ref b6), .val (.ref b10), .val (.int (1 : Int32)), .unset] [(.ref b6), (.ref b10)]))
        obtain ⟨cq36, kq36, q36a, q36b, q36c⟩ := isOf hZ rfl P35_0
        obtain ⟨_, _, ⟨T36, L36, k36, n36⟩, -, X36, ⟨Lc36, hQ36, l36, y36, z36⟩, st36⟩ := X35.virtualBack hx (y := (⟨"com/example/cartouche/cartouche/checking/Summary", "count", "(Lcom/example/cartouche/cartouche/checking/Verdict;)V"⟩ : MethodName)) (z := (⟨"com/example/cartouche/cartouche/checking/Summary", "count", "(Lcom/example/cartouche/cartouche/checking/Verdict;)V"⟩ : MethodName)) hown (mvT hZ (own_w hw 237 rfl)) (mvT hZ (own_w hw 238 rfl)) (notFace_of_selects (args := #[]) (mvT hZ (own_w hw 240 rfl))) (mvT hZ (own_w hw 240 rfl)) (mvT hZ (own_w hw 239 rfl)) (by decide) (backOf (W := 0) (rm_count1_1 l Z a0 hw [] b10 b6 b7 wL wE kE wD w_REQUIRED w_RECOMMENDED T35.heap n0 (Nat.le_trans (Nat.le_trans (Nat.le_trans (Nat.le_trans (Nat.le_trans (Nat.le_trans (Nat.le_trans (Nat.le_trans (Nat.le_trans (Nat.le_trans (Nat.le_trans (Nat.le_trans Z0 E1.1) E2.1) E3.1) Kc4.1) Kc5.1) E6.1) E7.1) Kc8.1) Kc9.1) E10.1) Kc11.1) Kc35.1) O35 P35_0 ge_b10 (Ne.symm ne_b6_b10) (Ne.symm ne_b7_b10) P35_1 P35_2 P35_3 (((Exa.ext E10 P9_0).keep Kc11).keep Kc35) (((Fld.ext E10 P9_1).keep Kc11 (ninS ne_b6_b10 nin0)).keep Kc35 (ninS ne_b6_b10 nin0)) (((Exa.ext E10 (P8_0.keep Kc9)).keep Kc11).keep Kc35) (((Fld.ext E10 (P8_2.keep Kc9 (ninS (Ne.symm ne_b6_b7) nin0))).keep Kc11 (ninS ne_b7_b10 nin0)).keep Kc35 (ninS ne_b7_b10 nin0)) (((Fld.ext E10 (P8_1.keep Kc9 (ninS (Ne.symm ne_b6_b7) nin0))).keep Kc11 (ninS ne_b7_b10 nin0)).keep Kc35 (ninS ne_b7_b10 nin0)) E_L F_el R_E S_D S_REQUIRED S_RECOMMENDED) hZ (own_w hw 241 rfl) (own_w hw 103 rfl) (by decide) (by decide)) q36a q36c (g := (mkF m 88 #[.val (.int p1), .val (.int p2), .val (.int (2 : Int32)), .val (.int (1 : Int32)), .val (.ref b1), .val (.ref b6), .val (.ref b10), .val (.int (1 : Int32)), .unset] [(.ref b6), (.ref b10)])) rfl (by rw [hml]; rfl) (Steps.refl _) (argsL := [(.ref b6)]) (rest := []) (lenOf own_pd13 rfl) rfl (by show 2 * 0 + _ ≤ _; exact Nat.le_of_eq rfl) (hb hby at_88) (fun _ _ => ⟨rfl, rfl, (by decide : 23 + 8 ≤ _), (by decide : 99 + 29 ≤ _)⟩)
        dsimp only [Pt.U, Pt.locs, Pt.cells, Pt.slots] at X36 l36 y36 z36 st36 hQ36
        subst l36 y36 z36
        obtain ⟨rfl, Nq36, Kc36, P36_0, P36_1, P36_2, P36_3⟩ := hQ36
        have N36 := Fr.app N35 Nq36
        have O36 := O35.keep Kc36 (allS ge_b10 all0)
        refine own_tr st36 ?_
        show own_G p.tables e below _ (T36.setTop (mkF m 91 #[.val (.int p1), .val (.int p2), .val (.int (2 : Int32)), .val (.int (1 : Int32)), .val (.ref b1), .val (.ref b6), .val (.ref b10), .val (.int (1 : Int32)), .unset] []))
        refine own_st (fun _ kS => XS.iloadN X36.here hx rfl (hb hby at_91) rfl kS) ?_
        refine own_st (fun _ kS => XS.iconst X36.here hx rfl (hb hby at_92) kS) ?_
        show own_G p.tables e below _ (T36.setTop (mkF m 93 #[.val (.int p1), .val (.int p2), .val (.int (2 : Int32)), .val (.int (1 : Int32)), .val (.ref b1), .val (.ref b6), .val (.ref b10), .val (.int (1 : Int32)), .unset] [(.int (1 : Int32)), (.int (1 : Int32))]))
        refine own_st (fun _ kS => XS.icmpNo X36.here hx rfl (hb hby at_93) rfl (flt (by decide : ¬ ((1 : Int32) < (1 : Int32)))).1 kS) ?_
        show own_G p.tables e below _ (T36.setTop (mkF m 96 #[.val (.int p1), .val (.int p2), .val (.int (2 : Int32)), .val (.int (1 : Int32)), .val (.ref b1), .val (.ref b6), .val (.ref b10), .val (.int (1 : Int32)), .unset] []))
        refine own_st (fun _ kS => XS.aload X36.here hx rfl (hb hby at_96) rfl rfl kS) ?_
        show own_G p.tables e below _ (T36.setTop (mkF m 98 #[.val (.int p1), .val (.int p2), .val (.int (2 : Int32)), .val (.int (1 : Int32)), .val (.ref b1), .val (.ref b6), .val (.ref b10), .val (.int (1 : Int32)), .unset] [(.ref b10)]))
        obtain ⟨cq37, kq37, q37a, q37b, q37c⟩ := isOf hZ rfl P36_0
        obtain ⟨_, _, ⟨T37, L37, k37, n37⟩, -, X37, ⟨Lc37, hQ37, l37, y37, z37⟩, st37⟩ := X36.virtualBack hx (y := (⟨"com/example/cartouche/cartouche/checking/Summary", "countUnreadable", "()V"⟩ : MethodName)) (z := (⟨"com/example/cartouche/cartouche/checking/Summary", "countUnreadable", "()V"⟩ : MethodName)) hown (mvT hZ (own_w hw 272 rfl)) (mvT hZ (own_w hw 273 rfl)) (notFace_of_selects (args := #[]) (mvT hZ (own_w hw 275 rfl))) (mvT hZ (own_w hw 275 rfl)) (mvT hZ (own_w hw 274 rfl)) (by decide) (backOf (W := 0) (rm_unread0_2 l Z a0 hw [] b10 T36.heap n0 (Nat.le_trans (Nat.le_trans (Nat.le_trans (Nat.le_trans (Nat.le_trans (Nat.le_trans (Nat.le_trans (Nat.le_trans (Nat.le_trans (Nat.le_trans (Nat.le_trans (Nat.le_trans (Nat.le_trans Z0 E1.1) E2.1) E3.1) Kc4.1) Kc5.1) E6.1) E7.1) Kc8.1) Kc9.1) E10.1) Kc11.1) Kc35.1) Kc36.1)  P36_0 ge_b10 P36_1 P36_2 P36_3) hZ (own_w hw 276 rfl) (own_w hw 103 rfl) (by decide) (by decide)) q37a q37c (g := (mkF m 98 #[.val (.int p1), .val (.int p2), .val (.int (2 : Int32)), .val (.int (1 : Int32)), .val (.ref b1), .val (.ref b6), .val (.ref b10), .val (.int (1 : Int32)), .unset] [(.ref b10)])) rfl (by rw [hml]; rfl) (Steps.refl _) (argsL := []) (rest := []) (lenOf own_pd0 rfl) rfl (by show 2 * 0 + _ ≤ _; exact Nat.le_of_eq rfl) (hb hby at_98) (fun _ _ => ⟨rfl, rfl, (by decide : 31 + 0 ≤ _), (by decide : 128 + 0 ≤ _)⟩)
        dsimp only [Pt.U, Pt.locs, Pt.cells, Pt.slots] at X37 l37 y37 z37 st37 hQ37
        subst l37 y37 z37
        obtain ⟨rfl, Nq37, Kc37, P37_0, P37_1, P37_2, P37_3⟩ := hQ37
        have N37 := Fr.app N36 Nq37
        have O37 := O36.keep Kc37 (allS ge_b10 all0)
        refine own_tr st37 ?_
        show own_G p.tables e below _ (T37.setTop (mkF m 101 #[.val (.int p1), .val (.int p2), .val (.int (2 : Int32)), .val (.int (1 : Int32)), .val (.ref b1), .val (.ref b6), .val (.ref b10), .val (.int (1 : Int32)), .unset] []))
        refine own_st (fun _ kS => XS.iloadN X37.here hx rfl (hb hby at_101) rfl kS) ?_
        refine own_st (fun _ kS => XS.iconst X37.here hx rfl (hb hby at_102) kS) ?_
        show own_G p.tables e below _ (T37.setTop (mkF m 103 #[.val (.int p1), .val (.int p2), .val (.int (2 : Int32)), .val (.int (1 : Int32)), .val (.ref b1), .val (.ref b6), .val (.ref b10), .val (.int (1 : Int32)), .unset] [(.int (2 : Int32)), (.int (1 : Int32))]))
        refine own_st (fun _ kS => XS.icmpYes X37.here hx rfl (pc0 := 103) (pc' := 111) rfl (hb hby at_103) rfl (tlt (by decide : (1 : Int32) < (2 : Int32))).1 (by decide) (by decide) kS) ?_
        show own_G p.tables e below _ (T37.setTop (mkF m 111 #[.val (.int p1), .val (.int p2), .val (.int (2 : Int32)), .val (.int (1 : Int32)), .val (.ref b1), .val (.ref b6), .val (.ref b10), .val (.int (1 : Int32)), .unset] []))
        refine own_st (fun _ kS => XS.iloadN X37.here hx rfl (hb hby at_111) rfl kS) ?_
        show own_G p.tables e below _ (T37.setTop (mkF m 112 #[.val (.int p1), .val (.int p2), .val (.int (2 : Int32)), .val (.int (1 : Int32)), .val (.ref b1), .val (.ref b6), .val (.ref b10), .val (.int (1 : Int32)), .unset] [(.int (1 : Int32))]))
        refine own_st (fun _ kS => XS.ifYes X37.here hx rfl (pc0 := 112) (pc' := 119) rfl (hb hby at_112) rfl ((if0 _ _).trans (feq (by decide : ¬ ((1 : Int32) = (0 : Int32)))).2) (by decide) (by decide) kS) ?_
        show own_G p.tables e below _ (T37.setTop (mkF m 119 #[.val (.int p1), .val (.int p2), .val (.int (2 : Int32)), .val (.int (1 : Int32)), .val (.ref b1), .val (.ref b6), .val (.ref b10), .val (.int (1 : Int32)), .unset] []))
        refine own_st (fun _ kS => XS.iconst X37.here hx rfl (hb hby at_119) kS) ?_
        show own_G p.tables e below _ (T37.setTop (mkF m 120 #[.val (.int p1), .val (.int p2), .val (.int (2 : Int32)), .val (.int (1 : Int32)), .val (.ref b1), .val (.ref b6), .val (.ref b10), .val (.int (1 : Int32)), .unset] [(.int (0 : Int32))]))
        refine own_st (fun _ kS => XS.istore X37.here hx rfl (hb hby at_120) rfl (l' := #[.val (.int p1), .val (.int p2), .val (.int (2 : Int32)), .val (.int (1 : Int32)), .val (.ref b1), .val (.ref b6), .val (.ref b10), .val (.int (1 : Int32)), .val (.int (0 : Int32))]) rfl kS) ?_
        show own_G p.tables e below _ (T37.setTop (mkF m 122 #[.val (.int p1), .val (.int p2), .val (.int (2 : Int32)), .val (.int (1 : Int32)), .val (.ref b1), .val (.ref b6), .val (.ref b10), .val (.int (1 : Int32)), .val (.int (0 : Int32))] []))
        refine own_st (fun _ kS => XS.iload X37.here hx rfl (hb hby at_122) rfl kS) ?_
        show own_G p.tables e below _ (T37.setTop (mkF m 124 #[.val (.int p1), .val (.int p2), .val (.int (2 : Int32)), .val (.int (1 : Int32)), .val (.ref b1), .val (.ref b6), .val (.ref b10), .val (.int (1 : Int32)), .val (.int (0 : Int32))] [(.int (1 : Int32))]))
        refine own_st (fun _ kS => XS.ifNo X37.here hx rfl (hb hby at_124) rfl ((if0 _ _).trans (feq (by decide : ¬ ((1 : Int32) = (0 : Int32)))).1) kS) ?_
        show own_G p.tables e below _ (T37.setTop (mkF m 127 #[.val (.int p1), .val (.int p2), .val (.int (2 : Int32)), .val (.int (1 : Int32)), .val (.ref b1), .val (.ref b6), .val (.ref b10), .val (.int (1 : Int32)), .val (.int (0 : Int32))] []))
        refine own_st (fun _ kS => XS.aload X37.here hx rfl (hb hby at_127) rfl rfl kS) ?_
        show own_G p.tables e below _ (T37.setTop (mkF m 129 #[.val (.int p1), .val (.int p2), .val (.int (2 : Int32)), .val (.int (1 : Int32)), .val (.ref b1), .val (.ref b6), .val (.ref b10), .val (.int (1 : Int32)), .val (.int (0 : Int32))] [(.ref b10)]))
        obtain ⟨cq38, kq38, q38a, q38b, q38c⟩ := isOf hZ rfl P37_0
        obtain ⟨_, _, ⟨T38, L38, k38, n38⟩, -, X38, ⟨Lc38, hQ38, l38, y38, z38⟩, st38⟩ := X37.virtualBack hx (y := (⟨"com/example/cartouche/cartouche/checking/Summary", "passed", "()Z"⟩ : MethodName)) (z := (⟨"com/example/cartouche/cartouche/checking/Summary", "passed", "()Z"⟩ : MethodName)) hown (mvT hZ (own_w hw 226 rfl)) (mvT hZ (own_w hw 227 rfl)) (notFace_of_selects (args := #[]) (mvT hZ (own_w hw 229 rfl))) (mvT hZ (own_w hw 229 rfl)) (mvT hZ (own_w hw 228 rfl)) (by decide) (backOf (W := 0) (rm_passed1_2 l Z a0 hw [] b10 T37.heap n0 (Nat.le_trans (Nat.le_trans (Nat.le_trans (Nat.le_trans (Nat.le_trans (Nat.le_trans (Nat.le_trans (Nat.le_trans (Nat.le_trans (Nat.le_trans (Nat.le_trans (Nat.le_trans (Nat.le_trans (Nat.le_trans Z0 E1.1) E2.1) E3.1) Kc4.1) Kc5.1) E6.1) E7.1) Kc8.1) Kc9.1) E10.1) Kc11.1) Kc35.1) Kc36.1) Kc37.1)  P37_1) hZ (own_w hw 230 rfl) (own_w hw 103 rfl) (by decide) (by decide)) q38a q38c (g := (mkF m 129 #[.val (.int p1), .val (.int p2), .val (.int (2 : Int32)), .val (.int (1 : Int32)), .val (.ref b1), .val (.ref b6), .val (.ref b10), .val (.int (1 : Int32)), .val (.int (0 : Int32))] [(.ref b10)])) rfl (by rw [hml]; rfl) (Steps.refl _) (argsL := []) (rest := []) (lenOf own_pd1 rfl) rfl (by show 2 * 0 + _ ≤ _; exact Nat.le_of_eq rfl) (hb hby at_129) (fun _ _ => ⟨rfl, rfl, (by decide : 31 + 0 ≤ _), (by decide : 128 + 0 ≤ _)⟩)
        dsimp only [Pt.U, Pt.locs, Pt.cells, Pt.slots] at X38 l38 y38 z38 st38 hQ38
        subst l38 y38 z38
        obtain ⟨rfl, Nq38, eq38⟩ := hQ38
        have N38 := Fr.app N37 Nq38
        refine own_tr st38 ?_
        show own_G p.tables e below _ (T38.setTop (mkF m 132 #[.val (.int p1), .val (.int p2), .val (.int (2 : Int32)), .val (.int (1 : Int32)), .val (.ref b1), .val (.ref b6), .val (.ref b10), .val (.int (1 : Int32)), .val (.int (0 : Int32))] [(.int (0 : Int32))]))
        refine own_st (fun _ kS => XS.iload X38.here hx rfl (hb hby at_132) rfl kS) ?_
        show own_G p.tables e below _ (T38.setTop (mkF m 134 #[.val (.int p1), .val (.int p2), .val (.int (2 : Int32)), .val (.int (1 : Int32)), .val (.ref b1), .val (.ref b6), .val (.ref b10), .val (.int (1 : Int32)), .val (.int (0 : Int32))] [(.int (0 : Int32)), (.int (0 : Int32))]))
        refine own_st (fun _ kS => XS.icmpNo X38.here hx rfl (hb hby at_134) rfl (teq (by decide : (0 : Int32) = (0 : Int32))).2 kS) ?_
        show own_G p.tables e below _ (T38.setTop (mkF m 137 #[.val (.int p1), .val (.int p2), .val (.int (2 : Int32)), .val (.int (1 : Int32)), .val (.ref b1), .val (.ref b6), .val (.ref b10), .val (.int (1 : Int32)), .val (.int (0 : Int32))] []))
        refine own_st (fun _ kS => XS.iconst X38.here hx rfl (hb hby at_137) kS) ?_
        refine own_st (fun _ kS => XS.goto X38.here hx rfl (pc0 := 138) (pc' := 142) rfl (hb hby at_138) (by decide) (by decide) kS) ?_
        show own_G p.tables e below _ (T38.setTop (mkF m 142 #[.val (.int p1), .val (.int p2), .val (.int (2 : Int32)), .val (.int (1 : Int32)), .val (.ref b1), .val (.ref b6), .val (.ref b10), .val (.int (1 : Int32)), .val (.int (0 : Int32))] [(.int (1 : Int32))]))
        exact own_retNW hS (own_le eq38 (Nat.le_trans (Nat.le_trans (Nat.le_trans (Nat.le_trans (Nat.le_trans (Nat.le_trans (Nat.le_trans (Nat.le_trans (Nat.le_trans (Nat.le_trans (Nat.le_trans (Nat.le_trans hk2 E3.1) Kc4.1) Kc5.1) E6.1) E7.1) Kc8.1) Kc9.1) E10.1) Kc11.1) Kc35.1) Kc36.1) Kc37.1)) X38 hx hlk (t := .boolean) hret (by simp) (hb hby at_142) (by decide) (by decide) (v' := (1 : Int32)) rfl (by rw [eq38]; exact ⟨rfl, N38⟩)
      · rw [hk31]
        show own_G p.tables e below _ (T12.setTop (mkF m 67 #[.val (.int p1), .val (.int p2), .val (.int (2 : Int32)), .val (.int (2 : Int32)), .val (.ref b1), .val (.ref b6), .val (.ref b10), .val (.int (1 : Int32)), .unset] []))
        refine own_st (fun _ kS => XS.iloadN X12.here hx rfl (hb hby at_67) rfl kS) ?_
        refine own_st (fun _ kS => XS.iconst X12.here hx rfl (hb hby at_68) kS) ?_
        show own_G p.tables e below _ (T12.setTop (mkF m 69 #[.val (.int p1), .val (.int p2), .val (.int (2 : Int32)), .val (.int (2 : Int32)), .val (.ref b1), .val (.ref b6), .val (.ref b10), .val (.int (1 : Int32)), .unset] [(.int (1 : Int32)), (.int (2 : Int32))]))
        refine own_st (fun _ kS => XS.icmpNo X12.here hx rfl (hb hby at_69) rfl (flt (by decide : ¬ ((2 : Int32) < (1 : Int32)))).1 kS) ?_
        show own_G p.tables e below _ (T12.setTop (mkF m 72 #[.val (.int p1), .val (.int p2), .val (.int (2 : Int32)), .val (.int (2 : Int32)), .val (.ref b1), .val (.ref b6), .val (.ref b10), .val (.int (1 : Int32)), .unset] []))
        refine own_st (fun _ kS => XS.aload X12.here hx rfl (hb hby at_72) rfl rfl kS) ?_
        refine own_st (fun _ kS => XS.aload X12.here hx rfl (hb hby at_74) rfl rfl kS) ?_
        show own_G p.tables e below _ (T12.setTop (mkF m 76 #[.val (.int p1), .val (.int p2), .val (.int (2 : Int32)), .val (.int (2 : Int32)), .val (.ref b1), .val (.ref b6), .val (.ref b10), .val (.int (1 : Int32)), .unset] [(.ref b6), (.ref b10)]))
        obtain ⟨cq39, kq39, q39a, q39b, q39c⟩ := isOf hZ eq12 P11_0
        obtain ⟨_, _, ⟨T39, L39, k39, n39⟩, -, X39, ⟨Lc39, hQ39, l39, y39, z39⟩, st39⟩ := X12.virtualBack hx (y := (⟨"com/example/cartouche/cartouche/checking/Summary", "count", "(Lcom/example/cartouche/cartouche/checking/Verdict;)V"⟩ : MethodName)) (z := (⟨"com/example/cartouche/cartouche/checking/Summary", "count", "(Lcom/example/cartouche/cartouche/checking/Verdict;)V"⟩ : MethodName)) hown (mvT hZ (own_w hw 237 rfl)) (mvT hZ (own_w hw 238 rfl)) (notFace_of_selects (args := #[]) (mvT hZ (own_w hw 240 rfl))) (mvT hZ (own_w hw 240 rfl)) (mvT hZ (own_w hw 239 rfl)) (by decide) (backOf (W := 0) (rm_count1_0 l Z a0 hw [] b10 b6 b7 wL wE kE wD w_REQUIRED w_RECOMMENDED T11.heap n0 (Nat.le_trans (Nat.le_trans (Nat.le_trans (Nat.le_trans (Nat.le_trans (Nat.le_trans (Nat.le_trans (Nat.le_trans (Nat.le_trans (Nat.le_trans (Nat.le_trans Z0 E1.1) E2.1) E3.1) Kc4.1) Kc5.1) E6.1) E7.1) Kc8.1) Kc9.1) E10.1) Kc11.1) O11 P11_0 ge_b10 (Ne.symm ne_b6_b10) (Ne.symm ne_b7_b10) P11_1 P11_2 P11_3 ((Exa.ext E10 P9_0).keep Kc11) ((Fld.ext E10 P9_1).keep Kc11 (ninS ne_b6_b10 nin0)) ((Exa.ext E10 (P8_0.keep Kc9)).keep Kc11) ((Fld.ext E10 (P8_2.keep Kc9 (ninS (Ne.symm ne_b6_b7) nin0))).keep Kc11 (ninS ne_b7_b10 nin0)) ((Fld.ext E10 (P8_1.keep Kc9 (ninS (Ne.symm ne_b6_b7) nin0))).keep Kc11 (ninS ne_b7_b10 nin0)) E_L F_el R_E S_D S_REQUIRED S_RECOMMENDED) hZ (own_w hw 241 rfl) (own_w hw 103 rfl) (by decide) (by decide)) q39a q39c (g := (mkF m 76 #[.val (.int p1), .val (.int p2), .val (.int (2 : Int32)), .val (.int (2 : Int32)), .val (.ref b1), .val (.ref b6), .val (.ref b10), .val (.int (1 : Int32)), .unset] [(.ref b6), (.ref b10)])) rfl (by rw [hml]; rfl) (Steps.refl _) (argsL := [(.ref b6)]) (rest := []) (lenOf own_pd13 rfl) rfl (by show 2 * 0 + _ ≤ _; exact Nat.le_of_eq rfl) (hb hby at_76) (fun _ _ => ⟨rfl, eq12, (by decide : 15 + 8 ≤ _), (by decide : 70 + 29 ≤ _)⟩)
        dsimp only [Pt.U, Pt.locs, Pt.cells, Pt.slots] at X39 l39 y39 z39 st39 hQ39
        subst l39 y39 z39
        obtain ⟨rfl, Nq39, Kc39, P39_0, P39_1, P39_2, P39_3⟩ := hQ39
        have N39 := Fr.app N12 Nq39
        have O39 := O11.keep Kc39 (allS ge_b10 all0)
        refine own_tr st39 ?_
        show own_G p.tables e below _ (T39.setTop (mkF m 79 #[.val (.int p1), .val (.int p2), .val (.int (2 : Int32)), .val (.int (2 : Int32)), .val (.ref b1), .val (.ref b6), .val (.ref b10), .val (.int (1 : Int32)), .unset] []))
        refine own_st (fun _ kS => XS.iloadN X39.here hx rfl (hb hby at_79) rfl kS) ?_
        refine own_st (fun _ kS => XS.iconst X39.here hx rfl (hb hby at_80) kS) ?_
        show own_G p.tables e below _ (T39.setTop (mkF m 81 #[.val (.int p1), .val (.int p2), .val (.int (2 : Int32)), .val (.int (2 : Int32)), .val (.ref b1), .val (.ref b6), .val (.ref b10), .val (.int (1 : Int32)), .unset] [(.int (2 : Int32)), (.int (2 : Int32))]))
        refine own_st (fun _ kS => XS.icmpNo X39.here hx rfl (hb hby at_81) rfl (flt (by decide : ¬ ((2 : Int32) < (2 : Int32)))).1 kS) ?_
        show own_G p.tables e below _ (T39.setTop (mkF m 84 #[.val (.int p1), .val (.int p2), .val (.int (2 : Int32)), .val (.int (2 : Int32)), .val (.ref b1), .val (.ref b6), .val (.ref b10), .val (.int (1 : Int32)), .unset] []))
        refine own_st (fun _ kS => XS.aload X39.here hx rfl (hb hby at_84) rfl rfl kS) ?_
        refine own_st (fun _ kS => XS.aload X39.here hx rfl (hb hby at_86) rfl rfl kS) ?_
        show own_G p.tables e below _ (T39.setTop (mkF m 88 #[.val (.int p1), .val (.int p2), .val (.int (2 : Int32)), .val (.int (2 : Int32)), .val (.ref b1), .val (.ref b6), .val (.ref b10), .val (.int (1 : Int32)), .unset] [(.ref b6), (.ref b10)]))
        obtain ⟨cq40, kq40, q40a, q40b, q40c⟩ := isOf hZ rfl P39_0
        obtain ⟨_, _, ⟨T40, L40, k40, n40⟩, -, X40, ⟨Lc40, hQ40, l40, y40, z40⟩, st40⟩ := X39.virtualBack hx (y := (⟨"com/example/cartouche/cartouche/checking/Summary", "count", "(Lcom/example/cartouche/cartouche/checking/Verdict;)V"⟩ : MethodName)) (z := (⟨"com/example/cartouche/cartouche/checking/Summary", "count", "(Lcom/example/cartouche/cartouche/checking/Verdict;)V"⟩ : MethodName)) hown (mvT hZ (own_w hw 237 rfl)) (mvT hZ (own_w hw 238 rfl)) (notFace_of_selects (args := #[]) (mvT hZ (own_w hw 240 rfl))) (mvT hZ (own_w hw 240 rfl)) (mvT hZ (own_w hw 239 rfl)) (by decide) (backOf (W := 0) (rm_count1_1 l Z a0 hw [] b10 b6 b7 wL wE kE wD w_REQUIRED w_RECOMMENDED T39.heap n0 (Nat.le_trans (Nat.le_trans (Nat.le_trans (Nat.le_trans (Nat.le_trans (Nat.le_trans (Nat.le_trans (Nat.le_trans (Nat.le_trans (Nat.le_trans (Nat.le_trans (Nat.le_trans Z0 E1.1) E2.1) E3.1) Kc4.1) Kc5.1) E6.1) E7.1) Kc8.1) Kc9.1) E10.1) Kc11.1) Kc39.1) O39 P39_0 ge_b10 (Ne.symm ne_b6_b10) (Ne.symm ne_b7_b10) P39_1 P39_2 P39_3 (((Exa.ext E10 P9_0).keep Kc11).keep Kc39) (((Fld.ext E10 P9_1).keep Kc11 (ninS ne_b6_b10 nin0)).keep Kc39 (ninS ne_b6_b10 nin0)) (((Exa.ext E10 (P8_0.keep Kc9)).keep Kc11).keep Kc39) (((Fld.ext E10 (P8_2.keep Kc9 (ninS (Ne.symm ne_b6_b7) nin0))).keep Kc11 (ninS ne_b7_b10 nin0)).keep Kc39 (ninS ne_b7_b10 nin0)) (((Fld.ext E10 (P8_1.keep Kc9 (ninS (Ne.symm ne_b6_b7) nin0))).keep Kc11 (ninS ne_b7_b10 nin0)).keep Kc39 (ninS ne_b7_b10 nin0)) E_L F_el R_E S_D S_REQUIRED S_RECOMMENDED) hZ (own_w hw 241 rfl) (own_w hw 103 rfl) (by decide) (by decide)) q40a q40c (g := (mkF m 88 #[.val (.int p1), .val (.int p2), .val (.int (2 : Int32)), .val (.int (2 : Int32)), .val (.ref b1), .val (.ref b6), .val (.ref b10), .val (.int (1 : Int32)), .unset] [(.ref b6), (.ref b10)])) rfl (by rw [hml]; rfl) (Steps.refl _) (argsL := [(.ref b6)]) (rest := []) (lenOf own_pd13 rfl) rfl (by show 2 * 0 + _ ≤ _; exact Nat.le_of_eq rfl) (hb hby at_88) (fun _ _ => ⟨rfl, rfl, (by decide : 23 + 8 ≤ _), (by decide : 99 + 29 ≤ _)⟩)
        dsimp only [Pt.U, Pt.locs, Pt.cells, Pt.slots] at X40 l40 y40 z40 st40 hQ40
        subst l40 y40 z40
        obtain ⟨rfl, Nq40, Kc40, P40_0, P40_1, P40_2, P40_3⟩ := hQ40
        have N40 := Fr.app N39 Nq40
        have O40 := O39.keep Kc40 (allS ge_b10 all0)
        refine own_tr st40 ?_
        show own_G p.tables e below _ (T40.setTop (mkF m 91 #[.val (.int p1), .val (.int p2), .val (.int (2 : Int32)), .val (.int (2 : Int32)), .val (.ref b1), .val (.ref b6), .val (.ref b10), .val (.int (1 : Int32)), .unset] []))
        refine own_st (fun _ kS => XS.iloadN X40.here hx rfl (hb hby at_91) rfl kS) ?_
        refine own_st (fun _ kS => XS.iconst X40.here hx rfl (hb hby at_92) kS) ?_
        show own_G p.tables e below _ (T40.setTop (mkF m 93 #[.val (.int p1), .val (.int p2), .val (.int (2 : Int32)), .val (.int (2 : Int32)), .val (.ref b1), .val (.ref b6), .val (.ref b10), .val (.int (1 : Int32)), .unset] [(.int (1 : Int32)), (.int (2 : Int32))]))
        refine own_st (fun _ kS => XS.icmpNo X40.here hx rfl (hb hby at_93) rfl (flt (by decide : ¬ ((2 : Int32) < (1 : Int32)))).1 kS) ?_
        show own_G p.tables e below _ (T40.setTop (mkF m 96 #[.val (.int p1), .val (.int p2), .val (.int (2 : Int32)), .val (.int (2 : Int32)), .val (.ref b1), .val (.ref b6), .val (.ref b10), .val (.int (1 : Int32)), .unset] []))
        refine own_st (fun _ kS => XS.aload X40.here hx rfl (hb hby at_96) rfl rfl kS) ?_
        show own_G p.tables e below _ (T40.setTop (mkF m 98 #[.val (.int p1), .val (.int p2), .val (.int (2 : Int32)), .val (.int (2 : Int32)), .val (.ref b1), .val (.ref b6), .val (.ref b10), .val (.int (1 : Int32)), .unset] [(.ref b10)]))
        obtain ⟨cq41, kq41, q41a, q41b, q41c⟩ := isOf hZ rfl P40_0
        obtain ⟨_, _, ⟨T41, L41, k41, n41⟩, -, X41, ⟨Lc41, hQ41, l41, y41, z41⟩, st41⟩ := X40.virtualBack hx (y := (⟨"com/example/cartouche/cartouche/checking/Summary", "countUnreadable", "()V"⟩ : MethodName)) (z := (⟨"com/example/cartouche/cartouche/checking/Summary", "countUnreadable", "()V"⟩ : MethodName)) hown (mvT hZ (own_w hw 272 rfl)) (mvT hZ (own_w hw 273 rfl)) (notFace_of_selects (args := #[]) (mvT hZ (own_w hw 275 rfl))) (mvT hZ (own_w hw 275 rfl)) (mvT hZ (own_w hw 274 rfl)) (by decide) (backOf (W := 0) (rm_unread0_2 l Z a0 hw [] b10 T40.heap n0 (Nat.le_trans (Nat.le_trans (Nat.le_trans (Nat.le_trans (Nat.le_trans (Nat.le_trans (Nat.le_trans (Nat.le_trans (Nat.le_trans (Nat.le_trans (Nat.le_trans (Nat.le_trans (Nat.le_trans Z0 E1.1) E2.1) E3.1) Kc4.1) Kc5.1) E6.1) E7.1) Kc8.1) Kc9.1) E10.1) Kc11.1) Kc39.1) Kc40.1)  P40_0 ge_b10 P40_1 P40_2 P40_3) hZ (own_w hw 276 rfl) (own_w hw 103 rfl) (by decide) (by decide)) q41a q41c (g := (mkF m 98 #[.val (.int p1), .val (.int p2), .val (.int (2 : Int32)), .val (.int (2 : Int32)), .val (.ref b1), .val (.ref b6), .val (.ref b10), .val (.int (1 : Int32)), .unset] [(.ref b10)])) rfl (by rw [hml]; rfl) (Steps.refl _) (argsL := []) (rest := []) (lenOf own_pd0 rfl) rfl (by show 2 * 0 + _ ≤ _; exact Nat.le_of_eq rfl) (hb hby at_98) (fun _ _ => ⟨rfl, rfl, (by decide : 31 + 0 ≤ _), (by decide : 128 + 0 ≤ _)⟩)
        dsimp only [Pt.U, Pt.locs, Pt.cells, Pt.slots] at X41 l41 y41 z41 st41 hQ41
        subst l41 y41 z41
        obtain ⟨rfl, Nq41, Kc41, P41_0, P41_1, P41_2, P41_3⟩ := hQ41
        have N41 := Fr.app N40 Nq41
        have O41 := O40.keep Kc41 (allS ge_b10 all0)
        refine own_tr st41 ?_
        show own_G p.tables e below _ (T41.setTop (mkF m 101 #[.val (.int p1), .val (.int p2), .val (.int (2 : Int32)), .val (.int (2 : Int32)), .val (.ref b1), .val (.ref b6), .val (.ref b10), .val (.int (1 : Int32)), .unset] []))
        refine own_st (fun _ kS => XS.iloadN X41.here hx rfl (hb hby at_101) rfl kS) ?_
        refine own_st (fun _ kS => XS.iconst X41.here hx rfl (hb hby at_102) kS) ?_
        show own_G p.tables e below _ (T41.setTop (mkF m 103 #[.val (.int p1), .val (.int p2), .val (.int (2 : Int32)), .val (.int (2 : Int32)), .val (.ref b1), .val (.ref b6), .val (.ref b10), .val (.int (1 : Int32)), .unset] [(.int (2 : Int32)), (.int (2 : Int32))]))
        refine own_st (fun _ kS => XS.icmpNo X41.here hx rfl (hb hby at_103) rfl (flt (by decide : ¬ ((2 : Int32) < (2 : Int32)))).1 kS) ?_
        show own_G p.tables e below _ (T41.setTop (mkF m 106 #[.val (.int p1), .val (.int p2), .val (.int (2 : Int32)), .val (.int (2 : Int32)), .val (.ref b1), .val (.ref b6), .val (.ref b10), .val (.int (1 : Int32)), .unset] []))
        refine own_st (fun _ kS => XS.aload X41.here hx rfl (hb hby at_106) rfl rfl kS) ?_
        show own_G p.tables e below _ (T41.setTop (mkF m 108 #[.val (.int p1), .val (.int p2), .val (.int (2 : Int32)), .val (.int (2 : Int32)), .val (.ref b1), .val (.ref b6), .val (.ref b10), .val (.int (1 : Int32)), .unset] [(.ref b10)]))
        obtain ⟨cq42, kq42, q42a, q42b, q42c⟩ := isOf hZ rfl P41_0
        obtain ⟨_, _, ⟨T42, L42, k42, n42⟩, -, X42, ⟨Lc42, hQ42, l42, y42, z42⟩, st42⟩ := X41.virtualBack hx (y := (⟨"com/example/cartouche/cartouche/checking/Summary", "countUnreadable", "()V"⟩ : MethodName)) (z := (⟨"com/example/cartouche/cartouche/checking/Summary", "countUnreadable", "()V"⟩ : MethodName)) hown (mvT hZ (own_w hw 272 rfl)) (mvT hZ (own_w hw 273 rfl)) (notFace_of_selects (args := #[]) (mvT hZ (own_w hw 275 rfl))) (mvT hZ (own_w hw 275 rfl)) (mvT hZ (own_w hw 274 rfl)) (by decide) (backOf (W := 0) (rm_unread1_2 l Z a0 hw [] b10 T41.heap n0 (Nat.le_trans (Nat.le_trans (Nat.le_trans (Nat.le_trans (Nat.le_trans (Nat.le_trans (Nat.le_trans (Nat.le_trans (Nat.le_trans (Nat.le_trans (Nat.le_trans (Nat.le_trans (Nat.le_trans (Nat.le_trans Z0 E1.1) E2.1) E3.1) Kc4.1) Kc5.1) E6.1) E7.1) Kc8.1) Kc9.1) E10.1) Kc11.1) Kc39.1) Kc40.1) Kc41.1)  P41_0 ge_b10 P41_1 P41_2 P41_3) hZ (own_w hw 276 rfl) (own_w hw 103 rfl) (by decide) (by decide)) q42a q42c (g := (mkF m 108 #[.val (.int p1), .val (.int p2), .val (.int (2 : Int32)), .val (.int (2 : Int32)), .val (.ref b1), .val (.ref b6), .val (.ref b10), .val (.int (1 : Int32)), .unset] [(.ref b10)])) rfl (by rw [hml]; rfl) (Steps.refl _) (argsL := []) (rest := []) (lenOf own_pd0 rfl) rfl (by show 2 * 0 + _ ≤ _; exact Nat.le_of_eq rfl) (hb hby at_108) (fun _ _ => ⟨rfl, rfl, (by decide : 31 + 0 ≤ _), (by decide : 128 + 0 ≤ _)⟩)
        dsimp only [Pt.U, Pt.locs, Pt.cells, Pt.slots] at X42 l42 y42 z42 st42 hQ42
        subst l42 y42 z42
        obtain ⟨rfl, Nq42, Kc42, P42_0, P42_1, P42_2, P42_3⟩ := hQ42
        have N42 := Fr.app N41 Nq42
        have O42 := O41.keep Kc42 (allS ge_b10 all0)
        refine own_tr st42 ?_
        show own_G p.tables e below _ (T42.setTop (mkF m 111 #[.val (.int p1), .val (.int p2), .val (.int (2 : Int32)), .val (.int (2 : Int32)), .val (.ref b1), .val (.ref b6), .val (.ref b10), .val (.int (1 : Int32)), .unset] []))
        refine own_st (fun _ kS => XS.iloadN X42.here hx rfl (hb hby at_111) rfl kS) ?_
        show own_G p.tables e below _ (T42.setTop (mkF m 112 #[.val (.int p1), .val (.int p2), .val (.int (2 : Int32)), .val (.int (2 : Int32)), .val (.ref b1), .val (.ref b6), .val (.ref b10), .val (.int (1 : Int32)), .unset] [(.int (2 : Int32))]))
        refine own_st (fun _ kS => XS.ifYes X42.here hx rfl (pc0 := 112) (pc' := 119) rfl (hb hby at_112) rfl ((if0 _ _).trans (feq (by decide : ¬ ((2 : Int32) = (0 : Int32)))).2) (by decide) (by decide) kS) ?_
        show own_G p.tables e below _ (T42.setTop (mkF m 119 #[.val (.int p1), .val (.int p2), .val (.int (2 : Int32)), .val (.int (2 : Int32)), .val (.ref b1), .val (.ref b6), .val (.ref b10), .val (.int (1 : Int32)), .unset] []))
        refine own_st (fun _ kS => XS.iconst X42.here hx rfl (hb hby at_119) kS) ?_
        show own_G p.tables e below _ (T42.setTop (mkF m 120 #[.val (.int p1), .val (.int p2), .val (.int (2 : Int32)), .val (.int (2 : Int32)), .val (.ref b1), .val (.ref b6), .val (.ref b10), .val (.int (1 : Int32)), .unset] [(.int (0 : Int32))]))
        refine own_st (fun _ kS => XS.istore X42.here hx rfl (hb hby at_120) rfl (l' := #[.val (.int p1), .val (.int p2), .val (.int (2 : Int32)), .val (.int (2 : Int32)), .val (.ref b1), .val (.ref b6), .val (.ref b10), .val (.int (1 : Int32)), .val (.int (0 : Int32))]) rfl kS) ?_
        show own_G p.tables e below _ (T42.setTop (mkF m 122 #[.val (.int p1), .val (.int p2), .val (.int (2 : Int32)), .val (.int (2 : Int32)), .val (.ref b1), .val (.ref b6), .val (.ref b10), .val (.int (1 : Int32)), .val (.int (0 : Int32))] []))
        refine own_st (fun _ kS => XS.iload X42.here hx rfl (hb hby at_122) rfl kS) ?_
        show own_G p.tables e below _ (T42.setTop (mkF m 124 #[.val (.int p1), .val (.int p2), .val (.int (2 : Int32)), .val (.int (2 : Int32)), .val (.ref b1), .val (.ref b6), .val (.ref b10), .val (.int (1 : Int32)), .val (.int (0 : Int32))] [(.int (1 : Int32))]))
        refine own_st (fun _ kS => XS.ifNo X42.here hx rfl (hb hby at_124) rfl ((if0 _ _).trans (feq (by decide : ¬ ((1 : Int32) = (0 : Int32)))).1) kS) ?_
        show own_G p.tables e below _ (T42.setTop (mkF m 127 #[.val (.int p1), .val (.int p2), .val (.int (2 : Int32)), .val (.int (2 : Int32)), .val (.ref b1), .val (.ref b6), .val (.ref b10), .val (.int (1 : Int32)), .val (.int (0 : Int32))] []))
        refine own_st (fun _ kS => XS.aload X42.here hx rfl (hb hby at_127) rfl rfl kS) ?_
        show own_G p.tables e below _ (T42.setTop (mkF m 129 #[.val (.int p1), .val (.int p2), .val (.int (2 : Int32)), .val (.int (2 : Int32)), .val (.ref b1), .val (.ref b6), .val (.ref b10), .val (.int (1 : Int32)), .val (.int (0 : Int32))] [(.ref b10)]))
        obtain ⟨cq43, kq43, q43a, q43b, q43c⟩ := isOf hZ rfl P42_0
        obtain ⟨_, _, ⟨T43, L43, k43, n43⟩, -, X43, ⟨Lc43, hQ43, l43, y43, z43⟩, st43⟩ := X42.virtualBack hx (y := (⟨"com/example/cartouche/cartouche/checking/Summary", "passed", "()Z"⟩ : MethodName)) (z := (⟨"com/example/cartouche/cartouche/checking/Summary", "passed", "()Z"⟩ : MethodName)) hown (mvT hZ (own_w hw 226 rfl)) (mvT hZ (own_w hw 227 rfl)) (notFace_of_selects (args := #[]) (mvT hZ (own_w hw 229 rfl))) (mvT hZ (own_w hw 229 rfl)) (mvT hZ (own_w hw 228 rfl)) (by decide) (backOf (W := 0) (rm_passed2_2 l Z a0 hw [] b10 T42.heap n0 (Nat.le_trans (Nat.le_trans (Nat.le_trans (Nat.le_trans (Nat.le_trans (Nat.le_trans (Nat.le_trans (Nat.le_trans (Nat.le_trans (Nat.le_trans (Nat.le_trans (Nat.le_trans (Nat.le_trans (Nat.le_trans (Nat.le_trans Z0 E1.1) E2.1) E3.1) Kc4.1) Kc5.1) E6.1) E7.1) Kc8.1) Kc9.1) E10.1) Kc11.1) Kc39.1) Kc40.1) Kc41.1) Kc42.1)  P42_1) hZ (own_w hw 230 rfl) (own_w hw 103 rfl) (by decide) (by decide)) q43a q43c (g := (mkF m 129 #[.val (.int p1), .val (.int p2), .val (.int (2 : Int32)), .val (.int (2 : Int32)), .val (.ref b1), .val (.ref b6), .val (.ref b10), .val (.int (1 : Int32)), .val (.int (0 : Int32))] [(.ref b10)])) rfl (by rw [hml]; rfl) (Steps.refl _) (argsL := []) (rest := []) (lenOf own_pd1 rfl) rfl (by show 2 * 0 + _ ≤ _; exact Nat.le_of_eq rfl) (hb hby at_129) (fun _ _ => ⟨rfl, rfl, (by decide : 31 + 0 ≤ _), (by decide : 128 + 0 ≤ _)⟩)
        dsimp only [Pt.U, Pt.locs, Pt.cells, Pt.slots] at X43 l43 y43 z43 st43 hQ43
        subst l43 y43 z43
        obtain ⟨rfl, Nq43, eq43⟩ := hQ43
        have N43 := Fr.app N42 Nq43
        refine own_tr st43 ?_
        show own_G p.tables e below _ (T43.setTop (mkF m 132 #[.val (.int p1), .val (.int p2), .val (.int (2 : Int32)), .val (.int (2 : Int32)), .val (.ref b1), .val (.ref b6), .val (.ref b10), .val (.int (1 : Int32)), .val (.int (0 : Int32))] [(.int (0 : Int32))]))
        refine own_st (fun _ kS => XS.iload X43.here hx rfl (hb hby at_132) rfl kS) ?_
        show own_G p.tables e below _ (T43.setTop (mkF m 134 #[.val (.int p1), .val (.int p2), .val (.int (2 : Int32)), .val (.int (2 : Int32)), .val (.ref b1), .val (.ref b6), .val (.ref b10), .val (.int (1 : Int32)), .val (.int (0 : Int32))] [(.int (0 : Int32)), (.int (0 : Int32))]))
        refine own_st (fun _ kS => XS.icmpNo X43.here hx rfl (hb hby at_134) rfl (teq (by decide : (0 : Int32) = (0 : Int32))).2 kS) ?_
        show own_G p.tables e below _ (T43.setTop (mkF m 137 #[.val (.int p1), .val (.int p2), .val (.int (2 : Int32)), .val (.int (2 : Int32)), .val (.ref b1), .val (.ref b6), .val (.ref b10), .val (.int (1 : Int32)), .val (.int (0 : Int32))] []))
        refine own_st (fun _ kS => XS.iconst X43.here hx rfl (hb hby at_137) kS) ?_
        refine own_st (fun _ kS => XS.goto X43.here hx rfl (pc0 := 138) (pc' := 142) rfl (hb hby at_138) (by decide) (by decide) kS) ?_
        show own_G p.tables e below _ (T43.setTop (mkF m 142 #[.val (.int p1), .val (.int p2), .val (.int (2 : Int32)), .val (.int (2 : Int32)), .val (.ref b1), .val (.ref b6), .val (.ref b10), .val (.int (1 : Int32)), .val (.int (0 : Int32))] [(.int (1 : Int32))]))
        exact own_retNW hS (own_le eq43 (Nat.le_trans (Nat.le_trans (Nat.le_trans (Nat.le_trans (Nat.le_trans (Nat.le_trans (Nat.le_trans (Nat.le_trans (Nat.le_trans (Nat.le_trans (Nat.le_trans (Nat.le_trans (Nat.le_trans hk2 E3.1) Kc4.1) Kc5.1) E6.1) E7.1) Kc8.1) Kc9.1) E10.1) Kc11.1) Kc39.1) Kc40.1) Kc41.1) Kc42.1)) X43 hx hlk (t := .boolean) hret (by simp) (hb hby at_142) (by decide) (by decide) (v' := (1 : Int32)) rfl (by rw [eq43]; exact ⟨rfl, N43⟩)
  · skip
    show own_G p.tables e below _ (s₁.setTop (mkF m 0 #[.val (.int p1), .val (.int p2), .unset, .unset, .unset, .unset, .unset, .unset, .unset] []))
    refine own_st (fun _ kS => XS.iloadN X0.here hx rfl (hb hby at_0) rfl kS) ?_
    show own_G p.tables e below _ (s₁.setTop (mkF m 1 #[.val (.int p1), .val (.int p2), .unset, .unset, .unset, .unset, .unset, .unset, .unset] [(.int p1)]))
    refine own_st (fun _ kS => X0.ldcInt hx hown (mvT hZ (own_w hw 0 rfl)) (g := (mkF m 1 #[.val (.int p1), .val (.int p2), .unset, .unset, .unset, .unset, .unset, .unset, .unset] [(.int p1)])) rfl (hb hby at_1) _ kS) ?_
    show own_G p.tables e below _ (s₁.setTop (mkF m 3 #[.val (.int p1), .val (.int p2), .unset, .unset, .unset, .unset, .unset, .unset, .unset] [(.int (2147483647 : Int32)), (.int p1)]))
    refine own_st (fun _ kS => XS.iand X0.here hx rfl (hb hby at_3) rfl kS) ?_
    show own_G p.tables e below _ (s₁.setTop (mkF m 4 #[.val (.int p1), .val (.int p2), .unset, .unset, .unset, .unset, .unset, .unset, .unset] [(.int (p1 &&& (2147483647 : Int32)))]))
    refine own_st (fun _ kS => XS.iconst X0.here hx rfl (hb hby at_4) kS) ?_
    show own_G p.tables e below _ (s₁.setTop (mkF m 5 #[.val (.int p1), .val (.int p2), .unset, .unset, .unset, .unset, .unset, .unset, .unset] [(.int (3 : Int32)), (.int (p1 &&& (2147483647 : Int32)))]))
    refine own_st (fun _ kS => iremM (g := (mkF m 5 #[.val (.int p1), .val (.int p2), .unset, .unset, .unset, .unset, .unset, .unset, .unset] [(.int (3 : Int32)), (.int (p1 &&& (2147483647 : Int32)))])) X0 hx rfl (hb hby at_5) rfl (by decide) kS) ?_
    show own_G p.tables e below _ (s₁.setTop (mkF m 6 #[.val (.int p1), .val (.int p2), .unset, .unset, .unset, .unset, .unset, .unset, .unset] [(.int ((p1 &&& (2147483647 : Int32)) % (3 : Int32)))]))
    refine own_st (fun _ kS => XS.istoreN X0.here hx rfl (hb hby at_6) rfl (l' := #[.val (.int p1), .val (.int p2), .val (.int ((p1 &&& (2147483647 : Int32)) % (3 : Int32))), .unset, .unset, .unset, .unset, .unset, .unset]) rfl kS) ?_
    show own_G p.tables e below _ (s₁.setTop (mkF m 7 #[.val (.int p1), .val (.int p2), .val (.int ((p1 &&& (2147483647 : Int32)) % (3 : Int32))), .unset, .unset, .unset, .unset, .unset, .unset] []))
    refine own_st (fun _ kS => XS.iloadN X0.here hx rfl (hb hby at_7) rfl kS) ?_
    show own_G p.tables e below _ (s₁.setTop (mkF m 8 #[.val (.int p1), .val (.int p2), .val (.int ((p1 &&& (2147483647 : Int32)) % (3 : Int32))), .unset, .unset, .unset, .unset, .unset, .unset] [(.int p2)]))
    refine own_st (fun _ kS => X0.ldcInt hx hown (mvT hZ (own_w hw 0 rfl)) (g := (mkF m 8 #[.val (.int p1), .val (.int p2), .val (.int ((p1 &&& (2147483647 : Int32)) % (3 : Int32))), .unset, .unset, .unset, .unset, .unset, .unset] [(.int p2)])) rfl (hb hby at_8) _ kS) ?_
    show own_G p.tables e below _ (s₁.setTop (mkF m 10 #[.val (.int p1), .val (.int p2), .val (.int ((p1 &&& (2147483647 : Int32)) % (3 : Int32))), .unset, .unset, .unset, .unset, .unset, .unset] [(.int (2147483647 : Int32)), (.int p2)]))
    refine own_st (fun _ kS => XS.iand X0.here hx rfl (hb hby at_10) rfl kS) ?_
    show own_G p.tables e below _ (s₁.setTop (mkF m 11 #[.val (.int p1), .val (.int p2), .val (.int ((p1 &&& (2147483647 : Int32)) % (3 : Int32))), .unset, .unset, .unset, .unset, .unset, .unset] [(.int (p2 &&& (2147483647 : Int32)))]))
    refine own_st (fun _ kS => XS.iconst X0.here hx rfl (hb hby at_11) kS) ?_
    show own_G p.tables e below _ (s₁.setTop (mkF m 12 #[.val (.int p1), .val (.int p2), .val (.int ((p1 &&& (2147483647 : Int32)) % (3 : Int32))), .unset, .unset, .unset, .unset, .unset, .unset] [(.int (3 : Int32)), (.int (p2 &&& (2147483647 : Int32)))]))
    refine own_st (fun _ kS => iremM (g := (mkF m 12 #[.val (.int p1), .val (.int p2), .val (.int ((p1 &&& (2147483647 : Int32)) % (3 : Int32))), .unset, .unset, .unset, .unset, .unset, .unset] [(.int (3 : Int32)), (.int (p2 &&& (2147483647 : Int32)))])) X0 hx rfl (hb hby at_12) rfl (by decide) kS) ?_
    show own_G p.tables e below _ (s₁.setTop (mkF m 13 #[.val (.int p1), .val (.int p2), .val (.int ((p1 &&& (2147483647 : Int32)) % (3 : Int32))), .unset, .unset, .unset, .unset, .unset, .unset] [(.int ((p2 &&& (2147483647 : Int32)) % (3 : Int32)))]))
    refine own_st (fun _ kS => XS.istoreN X0.here hx rfl (hb hby at_13) rfl (l' := #[.val (.int p1), .val (.int p2), .val (.int ((p1 &&& (2147483647 : Int32)) % (3 : Int32))), .val (.int ((p2 &&& (2147483647 : Int32)) % (3 : Int32))), .unset, .unset, .unset, .unset, .unset]) rfl kS) ?_
    show own_G p.tables e below _ (s₁.setTop (mkF m 14 #[.val (.int p1), .val (.int p2), .val (.int ((p1 &&& (2147483647 : Int32)) % (3 : Int32))), .val (.int ((p2 &&& (2147483647 : Int32)) % (3 : Int32))), .unset, .unset, .unset, .unset, .unset] []))
    obtain ⟨T44, h44, X44, e44, E44, A44, D44, -, st44⟩ := newO X0 hx hZ hown (own_w hw 1 rfl) (own_w hw 2 rfl) (own_w hw 3 rfl) e0 (g := (mkF m 14 #[.val (.int p1), .val (.int p2), .val (.int ((p1 &&& (2147483647 : Int32)) % (3 : Int32))), .val (.int ((p2 &&& (2147483647 : Int32)) % (3 : Int32))), .unset, .unset, .unset, .unset, .unset] [])) rfl (hb hby at_14) (by decide) (by decide)
    obtain ⟨b44, g44⟩ : ∃ z, z = h0.size := ⟨_, rfl⟩
    have ge_b44 : n0 ≤ b44 := Nat.le_trans Z0 (Nat.le_of_eq g44.symm)
    rw [← g44] at A44 D44 st44
    have O44 := O0.ext E44
    have F44_name : Fld Z h44 b44 "com/example/cartouche/cartouche/checking/Profile" "name" "Ljava/lang/String;" .null := D44 (Or.inr (own_w hw 52 rfl)) (ty := (.object "java/lang/String")) (by decide)
    have F44_rules : Fld Z h44 b44 "com/example/cartouche/cartouche/checking/Profile" "rules" "Ljava/util/List;" .null := D44 (Or.inr (own_w hw 78 rfl)) (ty := (.object "java/util/List")) (by decide)
    have F44_schemas : Fld Z h44 b44 "com/example/cartouche/cartouche/checking/Profile" "schemas" "Ljava/util/List;" .null := D44 (Or.inr (own_w hw 88 rfl)) (ty := (.object "java/util/List")) (by decide)
    refine own_st st44 ?_
    show own_G p.tables e below _ (T44.setTop (mkF m 17 #[.val (.int p1), .val (.int p2), .val (.int ((p1 &&& (2147483647 : Int32)) % (3 : Int32))), .val (.int ((p2 &&& (2147483647 : Int32)) % (3 : Int32))), .unset, .unset, .unset, .unset, .unset] [(.ref b44)]))
    refine own_st (fun _ kS => XS.dup X44.here hx rfl (hb hby at_17) rfl rfl kS) ?_
    show own_G p.tables e below _ (T44.setTop (mkF m 18 #[.val (.int p1), .val (.int p2), .val (.int ((p1 &&& (2147483647 : Int32)) % (3 : Int32))), .val (.int ((p2 &&& (2147483647 : Int32)) % (3 : Int32))), .unset, .unset, .unset, .unset, .unset] [(.ref b44), (.ref b44)]))
    have wS : ∀ a ∈ Bundle.stringAtoms, a.before a0 Z = true := fun d hd => hw d ((by decide +kernel : ∀ d ∈ Bundle.stringAtoms, d ∈ tables_1) d hd)
    obtain ⟨lit45, T45, h45, k45, X45, e45, E45, hS, hk45, hZ, hown, st45⟩ := ldcS X44 hx hZ hown (own_w hw 4 rfl) wS e44 hS (Nat.le_trans (Nat.zero_le _) E44.1) (g := (mkF m 18 #[.val (.int p1), .val (.int p2), .val (.int ((p1 &&& (2147483647 : Int32)) % (3 : Int32))), .val (.int ((p2 &&& (2147483647 : Int32)) % (3 : Int32))), .unset, .unset, .unset, .unset, .unset] [(.ref b44), (.ref b44)])) rfl (hb hby at_18) (n := 4) (by decide) (by decide) (by decide) (by decide)
    have O45 := O44.ext E45
    refine own_st st45 ?_
    show own_G p.tables e below _ (T45.setTop (mkF m 20 #[.val (.int p1), .val (.int p2), .val (.int ((p1 &&& (2147483647 : Int32)) % (3 : Int32))), .val (.int ((p2 &&& (2147483647 : Int32)) % (3 : Int32))), .unset, .unset, .unset, .unset, .unset] [(.ref lit45), (.ref b44), (.ref b44)]))
    obtain ⟨T46, h46, X46, e46, E46, A46, D46, -, st46⟩ := newO X45 hx hZ hown (own_w hw 12 rfl) (own_w hw 13 rfl) (own_w hw 14 rfl) e45 (g := (mkF m 20 #[.val (.int p1), .val (.int p2), .val (.int ((p1 &&& (2147483647 : Int32)) % (3 : Int32))), .val (.int ((p2 &&& (2147483647 : Int32)) % (3 : Int32))), .unset, .unset, .unset, .unset, .unset] [(.ref lit45), (.ref b44), (.ref b44)])) rfl (hb hby at_20) (by decide) (by decide)
    obtain ⟨b46, g46⟩ : ∃ z, z = h45.size := ⟨_, rfl⟩
    have ne_b44_b46 : b44 ≠ b46 := Nat.ne_of_lt (Nat.lt_of_lt_of_eq (Exa.ext E45 A44).lt g46.symm)
    have ge_b46 : n0 ≤ b46 := Nat.le_trans (Nat.le_trans (Nat.le_trans Z0 E44.1) E45.1) (Nat.le_of_eq g46.symm)
    rw [← g46] at A46 D46 st46
    have O46 := O45.ext E46
    have F46_modCount : Fld Z h46 b46 "java/util/AbstractList" "modCount" "I" (.int (0 : Int32)) := D46 (Or.inl (own_w hw 34 rfl)) (ty := .int) (by decide)
    have F46_elementData : Fld Z h46 b46 "java/util/ArrayList" "elementData" "[Ljava/lang/Object;" .null := D46 (Or.inl (own_w hw 37 rfl)) (ty := (.array (.object "java/lang/Object"))) (by decide)
    have F46_size : Fld Z h46 b46 "java/util/ArrayList" "size" "I" (.int (0 : Int32)) := D46 (Or.inl (own_w hw 75 rfl)) (ty := .int) (by decide)
    refine own_st st46 ?_
    show own_G p.tables e below _ (T46.setTop (mkF m 23 #[.val (.int p1), .val (.int p2), .val (.int ((p1 &&& (2147483647 : Int32)) % (3 : Int32))), .val (.int ((p2 &&& (2147483647 : Int32)) % (3 : Int32))), .unset, .unset, .unset, .unset, .unset] [(.ref b46), (.ref lit45), (.ref b44), (.ref b44)]))
    refine own_st (fun _ kS => XS.dup X46.here hx rfl (hb hby at_23) rfl rfl kS) ?_
    show own_G p.tables e below _ (T46.setTop (mkF m 24 #[.val (.int p1), .val (.int p2), .val (.int ((p1 &&& (2147483647 : Int32)) % (3 : Int32))), .val (.int ((p2 &&& (2147483647 : Int32)) % (3 : Int32))), .unset, .unset, .unset, .unset, .unset] [(.ref b46), (.ref b46), (.ref lit45), (.ref b44), (.ref b44)]))
    obtain ⟨_, _, ⟨T47, L47, k47, n47⟩, -, X47, ⟨Lc47, hQ47, l47, y47, z47⟩, st47⟩ := X46.specialBack hx (y := (⟨"java/util/ArrayList", "<init>", "()V"⟩ : MethodName)) rfl hown (mvT hZ (own_w hw 15 rfl)) (mvT hZ (own_w hw 16 rfl)) (mvT hZ (own_w hw 17 rfl)) (by decide) (backOf (W := 4) (rm_arlInit l Z a0 hw [] b46 wD h46 n0 (Nat.le_trans (Nat.le_trans (Nat.le_trans Z0 E44.1) E45.1) E46.1) O46 A46 ge_b46 F46_modCount F46_size F46_elementData S_D) hZ (own_w hw 17 rfl) (own_w hw 14 rfl) (by decide) (by decide)) (g := (mkF m 24 #[.val (.int p1), .val (.int p2), .val (.int ((p1 &&& (2147483647 : Int32)) % (3 : Int32))), .val (.int ((p2 &&& (2147483647 : Int32)) % (3 : Int32))), .unset, .unset, .unset, .unset, .unset] [(.ref b46), (.ref b46), (.ref lit45), (.ref b44), (.ref b44)])) rfl (by rw [hml]; rfl) (Steps.refl _) (a := b46) (argsL := []) (rest := [(.ref b46), (.ref lit45), (.ref b44), (.ref b44)]) (lenOf own_pd0 rfl) rfl (by show 2 * 0 + _ ≤ _; exact Nat.le_of_eq rfl) (hb hby at_24) (fun _ _ => ⟨rfl, e46, (by decide : 4 + 0 ≤ _), (by decide : 14 + 0 ≤ _)⟩)
    dsimp only [Pt.U, Pt.locs, Pt.cells, Pt.slots] at X47 l47 y47 z47 st47 hQ47
    subst l47 y47 z47
    obtain ⟨rfl, Nq47, Kc47, P47_0, P47_1, P47_2⟩ := hQ47
    have N47 := Fr.app N0 Nq47
    have O47 := O46.keep Kc47 (allS ge_b46 all0)
    refine own_tr st47 ?_
    show own_G p.tables e below _ (T47.setTop (mkF m 27 #[.val (.int p1), .val (.int p2), .val (.int ((p1 &&& (2147483647 : Int32)) % (3 : Int32))), .val (.int ((p2 &&& (2147483647 : Int32)) % (3 : Int32))), .unset, .unset, .unset, .unset, .unset] [(.ref b46), (.ref lit45), (.ref b44), (.ref b44)]))
    obtain ⟨_, _, ⟨T48, L48, k48, n48⟩, -, X48, ⟨Lc48, hQ48, l48, y48, z48⟩, st48⟩ := X47.specialBack hx (y := (⟨"com/example/cartouche/cartouche/checking/Profile", "<init>", "(Ljava/lang/String;Ljava/util/List;)V"⟩ : MethodName)) rfl hown (mvT hZ (own_w hw 38 rfl)) (mvT hZ (own_w hw 39 rfl)) (mvT hZ (own_w hw 40 rfl)) (by decide) (backOf (W := 1) (rm_prof2_0 l Z a0 hw [] b44 lit45 b46 wL T47.heap n0 (Nat.le_trans (Nat.le_trans (Nat.le_trans (Nat.le_trans Z0 E44.1) E45.1) E46.1) Kc47.1) O47 ((Exa.ext E46 (Exa.ext E45 A44)).keep Kc47) ge_b44 ne_b44_b46 P47_0 P47_2 P47_1 ((Fld.ext E46 (Fld.ext E45 F44_name)).keep Kc47 (ninS ne_b44_b46 nin0)) ((Fld.ext E46 (Fld.ext E45 F44_rules)).keep Kc47 (ninS ne_b44_b46 nin0)) ((Fld.ext E46 (Fld.ext E45 F44_schemas)).keep Kc47 (ninS ne_b44_b46 nin0)) hI hJ E_L F_a S_L hN) hZ (own_w hw 40 rfl) (own_w hw 3 rfl) (by decide) (by decide)) (g := (mkF m 27 #[.val (.int p1), .val (.int p2), .val (.int ((p1 &&& (2147483647 : Int32)) % (3 : Int32))), .val (.int ((p2 &&& (2147483647 : Int32)) % (3 : Int32))), .unset, .unset, .unset, .unset, .unset] [(.ref b46), (.ref lit45), (.ref b44), (.ref b44)])) rfl (by rw [hml]; rfl) (Steps.refl _) (a := b44) (argsL := [(.ref lit45), (.ref b46)]) (rest := [(.ref b44)]) (lenOf own_pd10 rfl) rfl (by show 2 * 0 + _ ≤ _; exact Nat.le_of_eq rfl) (hb hby at_27) (fun _ _ => ⟨rfl, rfl, (by decide : 4 + 0 ≤ _), (by decide : 14 + 0 ≤ _)⟩)
    dsimp only [Pt.U, Pt.locs, Pt.cells, Pt.slots] at X48 l48 y48 z48 st48 hQ48
    subst l48 y48 z48
    obtain ⟨rfl, Nq48, Kc48, P48_0, P48_1⟩ := hQ48
    have N48 := Fr.app N47 Nq48
    have O48 := O47.keep Kc48 (allS ge_b44 all0)
    refine own_tr st48 ?_
    show own_G p.tables e below _ (T48.setTop (mkF m 30 #[.val (.int p1), .val (.int p2), .val (.int ((p1 &&& (2147483647 : Int32)) % (3 : Int32))), .val (.int ((p2 &&& (2147483647 : Int32)) % (3 : Int32))), .unset, .unset, .unset, .unset, .unset] [(.ref b44)]))
    refine own_st (fun _ kS => XS.astore X48.here hx rfl (hb hby at_30) rfl rfl (l' := #[.val (.int p1), .val (.int p2), .val (.int ((p1 &&& (2147483647 : Int32)) % (3 : Int32))), .val (.int ((p2 &&& (2147483647 : Int32)) % (3 : Int32))), .val (.ref b44), .unset, .unset, .unset, .unset]) rfl kS) ?_
    show own_G p.tables e below _ (T48.setTop (mkF m 32 #[.val (.int p1), .val (.int p2), .val (.int ((p1 &&& (2147483647 : Int32)) % (3 : Int32))), .val (.int ((p2 &&& (2147483647 : Int32)) % (3 : Int32))), .val (.ref b44), .unset, .unset, .unset, .unset] []))
    obtain ⟨T49, h49, X49, e49, E49, A49, D49, -, st49⟩ := newO X48 hx hZ hown (own_w hw 89 rfl) (own_w hw 90 rfl) (own_w hw 91 rfl) rfl (g := (mkF m 32 #[.val (.int p1), .val (.int p2), .val (.int ((p1 &&& (2147483647 : Int32)) % (3 : Int32))), .val (.int ((p2 &&& (2147483647 : Int32)) % (3 : Int32))), .val (.ref b44), .unset, .unset, .unset, .unset] [])) rfl (hb hby at_32) (by decide) (by decide)
    obtain ⟨b49, g49⟩ : ∃ z, z = T48.heap.size := ⟨_, rfl⟩
    have ne_b44_b49 : b44 ≠ b49 := Nat.ne_of_lt (Nat.lt_of_lt_of_eq P48_0.lt g49.symm)
    have ne_b46_b49 : b46 ≠ b49 := Nat.ne_of_lt (Nat.lt_of_lt_of_eq (P47_0.keep Kc48).lt g49.symm)
    have ge_b49 : n0 ≤ b49 := Nat.le_trans (Nat.le_trans (Nat.le_trans (Nat.le_trans (Nat.le_trans (Nat.le_trans Z0 E44.1) E45.1) E46.1) Kc47.1) Kc48.1) (Nat.le_of_eq g49.symm)
    rw [← g49] at A49 D49 st49
    have O49 := O48.ext E49
    have F49_position : Fld Z h49 b49 "com/example/cartouche/cartouche/checking/Verdict" "position" "Ljava/util/OptionalInt;" .null := D49 (Or.inr (own_w hw 97 rfl)) (ty := (.object "java/util/OptionalInt")) (by decide)
    have F49_failures : Fld Z h49 b49 "com/example/cartouche/cartouche/checking/Verdict" "failures" "Ljava/util/List;" .null := D49 (Or.inr (own_w hw 100 rfl)) (ty := (.object "java/util/List")) (by decide)
    refine own_st st49 ?_
    show own_G p.tables e below _ (T49.setTop (mkF m 35 #[.val (.int p1), .val (.int p2), .val (.int ((p1 &&& (2147483647 : Int32)) % (3 : Int32))), .val (.int ((p2 &&& (2147483647 : Int32)) % (3 : Int32))), .val (.ref b44), .unset, .unset, .unset, .unset] [(.ref b49)]))
    refine own_st (fun _ kS => XS.dup X49.here hx rfl (hb hby at_35) rfl rfl kS) ?_
    refine own_st (fun _ kS => XS.aconstNull X49.here hx rfl (hb hby at_36) kS) ?_
    show own_G p.tables e below _ (T49.setTop (mkF m 37 #[.val (.int p1), .val (.int p2), .val (.int ((p1 &&& (2147483647 : Int32)) % (3 : Int32))), .val (.int ((p2 &&& (2147483647 : Int32)) % (3 : Int32))), .val (.ref b44), .unset, .unset, .unset, .unset] [.null, (.ref b49), (.ref b49)]))
    obtain ⟨T50, h50, X50, e50, E50, A50, D50, -, st50⟩ := newO X49 hx hZ hown (own_w hw 12 rfl) (own_w hw 13 rfl) (own_w hw 14 rfl) e49 (g := (mkF m 37 #[.val (.int p1), .val (.int p2), .val (.int ((p1 &&& (2147483647 : Int32)) % (3 : Int32))), .val (.int ((p2 &&& (2147483647 : Int32)) % (3 : Int32))), .val (.ref b44), .unset, .unset, .unset, .unset] [.null, (.ref b49), (.ref b49)])) rfl (hb hby at_37) (by decide) (by decide)
    obtain ⟨b50, g50⟩ : ∃ z, z = h49.size := ⟨_, rfl⟩
    have ne_b44_b50 : b44 ≠ b50 := Nat.ne_of_lt (Nat.lt_of_lt_of_eq (Exa.ext E49 P48_0).lt g50.symm)
    have ne_b46_b50 : b46 ≠ b50 := Nat.ne_of_lt (Nat.lt_of_lt_of_eq (Exa.ext E49 (P47_0.keep Kc48)).lt g50.symm)
    have ne_b49_b50 : b49 ≠ b50 := Nat.ne_of_lt (Nat.lt_of_lt_of_eq A49.lt g50.symm)
    have ge_b50 : n0 ≤ b50 := Nat.le_trans (Nat.le_trans (Nat.le_trans (Nat.le_trans (Nat.le_trans (Nat.le_trans (Nat.le_trans Z0 E44.1) E45.1) E46.1) Kc47.1) Kc48.1) E49.1) (Nat.le_of_eq g50.symm)
    rw [← g50] at A50 D50 st50
    have O50 := O49.ext E50
    have F50_modCount : Fld Z h50 b50 "java/util/AbstractList" "modCount" "I" (.int (0 : Int32)) := D50 (Or.inl (own_w hw 34 rfl)) (ty := .int) (by decide)
    have F50_elementData : Fld Z h50 b50 "java/util/ArrayList" "elementData" "[Ljava/lang/Object;" .null := D50 (Or.inl (own_w hw 37 rfl)) (ty := (.array (.object "java/lang/Object"))) (by decide)
    have F50_size : Fld Z h50 b50 "java/util/ArrayList" "size" "I" (.int (0 : Int32)) := D50 (Or.inl (own_w hw 75 rfl)) (ty := .int) (by decide)
    refine own_st st50 ?_
    show own_G p.tables e below _ (T50.setTop (mkF m 40 #[.val (.int p1), .val (.int p2), .val (.int ((p1 &&& (2147483647 : Int32)) % (3 : Int32))), .val (.int ((p2 &&& (2147483647 : Int32)) % (3 : Int32))), .val (.ref b44), .unset, .unset, .unset, .unset] [(.ref b50), .null, (.ref b49), (.ref b49)]))
    refine own_st (fun _ kS => XS.dup X50.here hx rfl (hb hby at_40) rfl rfl kS) ?_
    show own_G p.tables e below _ (T50.setTop (mkF m 41 #[.val (.int p1), .val (.int p2), .val (.int ((p1 &&& (2147483647 : Int32)) % (3 : Int32))), .val (.int ((p2 &&& (2147483647 : Int32)) % (3 : Int32))), .val (.ref b44), .unset, .unset, .unset, .unset] [(.ref b50), (.ref b50), .null, (.ref b49), (.ref b49)]))
    obtain ⟨_, _, ⟨T51, L51, k51, n51⟩, -, X51, ⟨Lc51, hQ51, l51, y51, z51⟩, st51⟩ := X50.specialBack hx (y := (⟨"java/util/ArrayList", "<init>", "()V"⟩ : MethodName)) rfl hown (mvT hZ (own_w hw 15 rfl)) (mvT hZ (own_w hw 16 rfl)) (mvT hZ (own_w hw 17 rfl)) (by decide) (backOf (W := 4) (rm_arlInit l Z a0 hw [] b50 wD h50 n0 (Nat.le_trans (Nat.le_trans (Nat.le_trans (Nat.le_trans (Nat.le_trans (Nat.le_trans (Nat.le_trans Z0 E44.1) E45.1) E46.1) Kc47.1) Kc48.1) E49.1) E50.1) O50 A50 ge_b50 F50_modCount F50_size F50_elementData S_D) hZ (own_w hw 17 rfl) (own_w hw 14 rfl) (by decide) (by decide)) (g := (mkF m 41 #[.val (.int p1), .val (.int p2), .val (.int ((p1 &&& (2147483647 : Int32)) % (3 : Int32))), .val (.int ((p2 &&& (2147483647 : Int32)) % (3 : Int32))), .val (.ref b44), .unset, .unset, .unset, .unset] [(.ref b50), (.ref b50), .null, (.ref b49), (.ref b49)])) rfl (by rw [hml]; rfl) (Steps.refl _) (a := b50) (argsL := []) (rest := [(.ref b50), .null, (.ref b49), (.ref b49)]) (lenOf own_pd0 rfl) rfl (by show 2 * 0 + _ ≤ _; exact Nat.le_of_eq rfl) (hb hby at_41) (fun _ _ => ⟨rfl, e50, (by decide : 6 + 0 ≤ _), (by decide : 19 + 0 ≤ _)⟩)
    dsimp only [Pt.U, Pt.locs, Pt.cells, Pt.slots] at X51 l51 y51 z51 st51 hQ51
    subst l51 y51 z51
    obtain ⟨rfl, Nq51, Kc51, P51_0, P51_1, P51_2⟩ := hQ51
    have N51 := Fr.app N48 Nq51
    have O51 := O50.keep Kc51 (allS ge_b50 all0)
    refine own_tr st51 ?_
    show own_G p.tables e below _ (T51.setTop (mkF m 44 #[.val (.int p1), .val (.int p2), .val (.int ((p1 &&& (2147483647 : Int32)) % (3 : Int32))), .val (.int ((p2 &&& (2147483647 : Int32)) % (3 : Int32))), .val (.ref b44), .unset, .unset, .unset, .unset] [(.ref b50), .null, (.ref b49), (.ref b49)]))
    obtain ⟨_, _, ⟨T52, L52, k52, n52⟩, -, X52, ⟨Lc52, hQ52, l52, y52, z52⟩, st52⟩ := X51.specialBack hx (y := (⟨"com/example/cartouche/cartouche/checking/Verdict", "<init>", "(Ljava/util/OptionalInt;Ljava/util/List;)V"⟩ : MethodName)) rfl hown (mvT hZ (own_w hw 92 rfl)) (mvT hZ (own_w hw 93 rfl)) (mvT hZ (own_w hw 94 rfl)) (by decide) (backOf (W := 1) (rm_ver_0 l Z a0 hw [] b49 b50 wL T51.heap n0 (Nat.le_trans (Nat.le_trans (Nat.le_trans (Nat.le_trans (Nat.le_trans (Nat.le_trans (Nat.le_trans (Nat.le_trans Z0 E44.1) E45.1) E46.1) Kc47.1) Kc48.1) E49.1) E50.1) Kc51.1) O51 ((Exa.ext E50 A49).keep Kc51) ge_b49 ne_b49_b50 P51_0 P51_2 P51_1 ((Fld.ext E50 F49_position).keep Kc51 (ninS ne_b49_b50 nin0)) ((Fld.ext E50 F49_failures).keep Kc51 (ninS ne_b49_b50 nin0)) hI hJ E_L F_a S_L hN) hZ (own_w hw 94 rfl) (own_w hw 91 rfl) (by decide) (by decide)) (g := (mkF m 44 #[.val (.int p1), .val (.int p2), .val (.int ((p1 &&& (2147483647 : Int32)) % (3 : Int32))), .val (.int ((p2 &&& (2147483647 : Int32)) % (3 : Int32))), .val (.ref b44), .unset, .unset, .unset, .unset] [(.ref b50), .null, (.ref b49), (.ref b49)])) rfl (by rw [hml]; rfl) (Steps.refl _) (a := b49) (argsL := [.null, (.ref b50)]) (rest := [(.ref b49)]) (lenOf own_pd11 rfl) rfl (by show 2 * 0 + _ ≤ _; exact Nat.le_of_eq rfl) (hb hby at_44) (fun _ _ => ⟨rfl, rfl, (by decide : 6 + 0 ≤ _), (by decide : 19 + 0 ≤ _)⟩)
    dsimp only [Pt.U, Pt.locs, Pt.cells, Pt.slots] at X52 l52 y52 z52 st52 hQ52
    subst l52 y52 z52
    obtain ⟨rfl, Nq52, Kc52, P52_0, P52_1⟩ := hQ52
    have N52 := Fr.app N51 Nq52
    have O52 := O51.keep Kc52 (allS ge_b49 all0)
    refine own_tr st52 ?_
    show own_G p.tables e below _ (T52.setTop (mkF m 47 #[.val (.int p1), .val (.int p2), .val (.int ((p1 &&& (2147483647 : Int32)) % (3 : Int32))), .val (.int ((p2 &&& (2147483647 : Int32)) % (3 : Int32))), .val (.ref b44), .unset, .unset, .unset, .unset] [(.ref b49)]))
    refine own_st (fun _ kS => XS.astore X52.here hx rfl (hb hby at_47) rfl rfl (l' := #[.val (.int p1), .val (.int p2), .val (.int ((p1 &&& (2147483647 : Int32)) % (3 : Int32))), .val (.int ((p2 &&& (2147483647 : Int32)) % (3 : Int32))), .val (.ref b44), .val (.ref b49), .unset, .unset, .unset]) rfl kS) ?_
    show own_G p.tables e below _ (T52.setTop (mkF m 49 #[.val (.int p1), .val (.int p2), .val (.int ((p1 &&& (2147483647 : Int32)) % (3 : Int32))), .val (.int ((p2 &&& (2147483647 : Int32)) % (3 : Int32))), .val (.ref b44), .val (.ref b49), .unset, .unset, .unset] []))
    obtain ⟨T53, h53, X53, e53, E53, A53, D53, -, st53⟩ := newO X52 hx hZ hown (own_w hw 101 rfl) (own_w hw 102 rfl) (own_w hw 103 rfl) rfl (g := (mkF m 49 #[.val (.int p1), .val (.int p2), .val (.int ((p1 &&& (2147483647 : Int32)) % (3 : Int32))), .val (.int ((p2 &&& (2147483647 : Int32)) % (3 : Int32))), .val (.ref b44), .val (.ref b49), .unset, .unset, .unset] [])) rfl (hb hby at_49) (by decide) (by decide)
    obtain ⟨b53, g53⟩ : ∃ z, z = T52.heap.size := ⟨_, rfl⟩
    have ne_b44_b53 : b44 ≠ b53 := Nat.ne_of_lt (Nat.lt_of_lt_of_eq (((Exa.ext E50 (Exa.ext E49 P48_0)).keep Kc51).keep Kc52).lt g53.symm)
    have ne_b46_b53 : b46 ≠ b53 := Nat.ne_of_lt (Nat.lt_of_lt_of_eq (((Exa.ext E50 (Exa.ext E49 (P47_0.keep Kc48))).keep Kc51).keep Kc52).lt g53.symm)
    have ne_b49_b53 : b49 ≠ b53 := Nat.ne_of_lt (Nat.lt_of_lt_of_eq P52_0.lt g53.symm)
    have ne_b50_b53 : b50 ≠ b53 := Nat.ne_of_lt (Nat.lt_of_lt_of_eq (P51_0.keep Kc52).lt g53.symm)
    have ge_b53 : n0 ≤ b53 := Nat.le_trans (Nat.le_trans (Nat.le_trans (Nat.le_trans (Nat.le_trans (Nat.le_trans (Nat.le_trans (Nat.le_trans (Nat.le_trans (Nat.le_trans Z0 E44.1) E45.1) E46.1) Kc47.1) Kc48.1) E49.1) E50.1) Kc51.1) Kc52.1) (Nat.le_of_eq g53.symm)
    rw [← g53] at A53 D53 st53
    have O53 := O52.ext E53
    have F53_failingByRule : Fld Z h53 b53 "com/example/cartouche/cartouche/checking/Summary" "failingByRule" "Ljava/util/Map;" .null := D53 (Or.inr (own_w hw 135 rfl)) (ty := (.object "java/util/Map")) (by decide)
    have F53_warningsByRule : Fld Z h53 b53 "com/example/cartouche/cartouche/checking/Summary" "warningsByRule" "Ljava/util/Map;" .null := D53 (Or.inr (own_w hw 137 rfl)) (ty := (.object "java/util/Map")) (by decide)
    have F53_unreadable : Fld Z h53 b53 "com/example/cartouche/cartouche/checking/Summary" "unreadable" "I" (.int (0 : Int32)) := D53 (Or.inl (own_w hw 232 rfl)) (ty := .int) (by decide)
    have F53_conforming : Fld Z h53 b53 "com/example/cartouche/cartouche/checking/Summary" "conforming" "I" (.int (0 : Int32)) := D53 (Or.inl (own_w hw 234 rfl)) (ty := .int) (by decide)
    have F53_records : Fld Z h53 b53 "com/example/cartouche/cartouche/checking/Summary" "records" "I" (.int (0 : Int32)) := D53 (Or.inl (own_w hw 236 rfl)) (ty := .int) (by decide)
    refine own_st st53 ?_
    show own_G p.tables e below _ (T53.setTop (mkF m 52 #[.val (.int p1), .val (.int p2), .val (.int ((p1 &&& (2147483647 : Int32)) % (3 : Int32))), .val (.int ((p2 &&& (2147483647 : Int32)) % (3 : Int32))), .val (.ref b44), .val (.ref b49), .unset, .unset, .unset] [(.ref b53)]))
    refine own_st (fun _ kS => XS.dup X53.here hx rfl (hb hby at_52) rfl rfl kS) ?_
    refine own_st (fun _ kS => XS.aload X53.here hx rfl (hb hby at_53) rfl rfl kS) ?_
    show own_G p.tables e below _ (T53.setTop (mkF m 55 #[.val (.int p1), .val (.int p2), .val (.int ((p1 &&& (2147483647 : Int32)) % (3 : Int32))), .val (.int ((p2 &&& (2147483647 : Int32)) % (3 : Int32))), .val (.ref b44), .val (.ref b49), .unset, .unset, .unset] [(.ref b44), (.ref b53), (.ref b53)]))
    obtain ⟨_, _, ⟨T54, L54, k54, n54⟩, -, X54, ⟨Lc54, hQ54, l54, y54, z54⟩, st54⟩ := X53.specialBack hx (y := (⟨"com/example/cartouche/cartouche/checking/Summary", "<init>", "(Lcom/example/cartouche/cartouche/checking/Profile;)V"⟩ : MethodName)) rfl hown (mvT hZ (own_w hw 104 rfl)) (mvT hZ (own_w hw 105 rfl)) (mvT hZ (own_w hw 106 rfl)) (by decide) (backOf (W := 1) (rm_sumInit0 l Z a0 hw [] b53 b44 wL wE kE wD w_REQUIRED w_RECOMMENDED h53 n0 (Nat.le_trans (Nat.le_trans (Nat.le_trans (Nat.le_trans (Nat.le_trans (Nat.le_trans (Nat.le_trans (Nat.le_trans (Nat.le_trans (Nat.le_trans Z0 E44.1) E45.1) E46.1) Kc47.1) Kc48.1) E49.1) E50.1) Kc51.1) Kc52.1) E53.1) O53 A53 ge_b53 (Ne.symm ne_b44_b53) F53_failingByRule F53_warningsByRule F53_unreadable F53_conforming F53_records (Exa.ext E53 (((Exa.ext E50 (Exa.ext E49 P48_0)).keep Kc51).keep Kc52)) (Fld.ext E53 (((Fld.ext E50 (Fld.ext E49 P48_1)).keep Kc51 (ninS ne_b44_b50 nin0)).keep Kc52 (ninS ne_b44_b49 nin0))) E_L F_el R_E S_D S_REQUIRED S_RECOMMENDED) hZ (own_w hw 106 rfl) (own_w hw 103 rfl) (by decide) (by decide)) (g := (mkF m 55 #[.val (.int p1), .val (.int p2), .val (.int ((p1 &&& (2147483647 : Int32)) % (3 : Int32))), .val (.int ((p2 &&& (2147483647 : Int32)) % (3 : Int32))), .val (.ref b44), .val (.ref b49), .unset, .unset, .unset] [(.ref b44), (.ref b53), (.ref b53)])) rfl (by rw [hml]; rfl) (Steps.refl _) (a := b53) (argsL := [(.ref b44)]) (rest := [(.ref b53)]) (lenOf own_pd12 rfl) rfl (by show 2 * 0 + _ ≤ _; exact Nat.le_of_eq rfl) (hb hby at_55) (fun _ _ => ⟨rfl, e53, (by decide : 7 + 8 ≤ _), (by decide : 24 + 46 ≤ _)⟩)
    dsimp only [Pt.U, Pt.locs, Pt.cells, Pt.slots] at X54 l54 y54 z54 st54 hQ54
    subst l54 y54 z54
    obtain ⟨rfl, Nq54, Kc54, P54_0, P54_1, P54_2, P54_3⟩ := hQ54
    have N54 := Fr.app N52 Nq54
    have O54 := O53.keep Kc54 (allS ge_b53 all0)
    refine own_tr st54 ?_
    show own_G p.tables e below _ (T54.setTop (mkF m 58 #[.val (.int p1), .val (.int p2), .val (.int ((p1 &&& (2147483647 : Int32)) % (3 : Int32))), .val (.int ((p2 &&& (2147483647 : Int32)) % (3 : Int32))), .val (.ref b44), .val (.ref b49), .unset, .unset, .unset] [(.ref b53)]))
    refine own_st (fun _ kS => XS.astore X54.here hx rfl (hb hby at_58) rfl rfl (l' := #[.val (.int p1), .val (.int p2), .val (.int ((p1 &&& (2147483647 : Int32)) % (3 : Int32))), .val (.int ((p2 &&& (2147483647 : Int32)) % (3 : Int32))), .val (.ref b44), .val (.ref b49), .val (.ref b53), .unset, .unset]) rfl kS) ?_
    show own_G p.tables e below _ (T54.setTop (mkF m 60 #[.val (.int p1), .val (.int p2), .val (.int ((p1 &&& (2147483647 : Int32)) % (3 : Int32))), .val (.int ((p2 &&& (2147483647 : Int32)) % (3 : Int32))), .val (.ref b44), .val (.ref b49), .val (.ref b53), .unset, .unset] []))
    refine own_st (fun _ kS => XS.aload X54.here hx rfl (hb hby at_60) rfl rfl kS) ?_
    show own_G p.tables e below _ (T54.setTop (mkF m 62 #[.val (.int p1), .val (.int p2), .val (.int ((p1 &&& (2147483647 : Int32)) % (3 : Int32))), .val (.int ((p2 &&& (2147483647 : Int32)) % (3 : Int32))), .val (.ref b44), .val (.ref b49), .val (.ref b53), .unset, .unset] [(.ref b53)]))
    obtain ⟨cq55, kq55, q55a, q55b, q55c⟩ := isOf hZ rfl P54_0
    obtain ⟨_, _, ⟨T55, L55, k55, n55⟩, -, X55, ⟨Lc55, hQ55, l55, y55, z55⟩, st55⟩ := X54.virtualBack hx (y := (⟨"com/example/cartouche/cartouche/checking/Summary", "passed", "()Z"⟩ : MethodName)) (z := (⟨"com/example/cartouche/cartouche/checking/Summary", "passed", "()Z"⟩ : MethodName)) hown (mvT hZ (own_w hw 226 rfl)) (mvT hZ (own_w hw 227 rfl)) (notFace_of_selects (args := #[]) (mvT hZ (own_w hw 229 rfl))) (mvT hZ (own_w hw 229 rfl)) (mvT hZ (own_w hw 228 rfl)) (by decide) (backOf (W := 0) (rm_passed0_0 l Z a0 hw [] b53 T54.heap n0 (Nat.le_trans (Nat.le_trans (Nat.le_trans (Nat.le_trans (Nat.le_trans (Nat.le_trans (Nat.le_trans (Nat.le_trans (Nat.le_trans (Nat.le_trans (Nat.le_trans Z0 E44.1) E45.1) E46.1) Kc47.1) Kc48.1) E49.1) E50.1) Kc51.1) Kc52.1) E53.1) Kc54.1)  P54_1 P54_2 P54_3) hZ (own_w hw 230 rfl) (own_w hw 103 rfl) (by decide) (by decide)) q55a q55c (g := (mkF m 62 #[.val (.int p1), .val (.int p2), .val (.int ((p1 &&& (2147483647 : Int32)) % (3 : Int32))), .val (.int ((p2 &&& (2147483647 : Int32)) % (3 : Int32))), .val (.ref b44), .val (.ref b49), .val (.ref b53), .unset, .unset] [(.ref b53)])) rfl (by rw [hml]; rfl) (Steps.refl _) (argsL := []) (rest := []) (lenOf own_pd1 rfl) rfl (by show 2 * 0 + _ ≤ _; exact Nat.le_of_eq rfl) (hb hby at_62) (fun _ _ => ⟨rfl, rfl, (by decide : 15 + 0 ≤ _), (by decide : 70 + 0 ≤ _)⟩)
    dsimp only [Pt.U, Pt.locs, Pt.cells, Pt.slots] at X55 l55 y55 z55 st55 hQ55
    subst l55 y55 z55
    obtain ⟨rfl, Nq55, eq55⟩ := hQ55
    have N55 := Fr.app N54 Nq55
    refine own_tr st55 ?_
    show own_G p.tables e below _ (T55.setTop (mkF m 65 #[.val (.int p1), .val (.int p2), .val (.int ((p1 &&& (2147483647 : Int32)) % (3 : Int32))), .val (.int ((p2 &&& (2147483647 : Int32)) % (3 : Int32))), .val (.ref b44), .val (.ref b49), .val (.ref b53), .unset, .unset] [(.int (1 : Int32))]))
    refine own_st (fun _ kS => XS.istore X55.here hx rfl (hb hby at_65) rfl (l' := #[.val (.int p1), .val (.int p2), .val (.int ((p1 &&& (2147483647 : Int32)) % (3 : Int32))), .val (.int ((p2 &&& (2147483647 : Int32)) % (3 : Int32))), .val (.ref b44), .val (.ref b49), .val (.ref b53), .val (.int (1 : Int32)), .unset]) rfl kS) ?_
    show own_G p.tables e below _ (T55.setTop (mkF m 67 #[.val (.int p1), .val (.int p2), .val (.int ((p1 &&& (2147483647 : Int32)) % (3 : Int32))), .val (.int ((p2 &&& (2147483647 : Int32)) % (3 : Int32))), .val (.ref b44), .val (.ref b49), .val (.ref b53), .val (.int (1 : Int32)), .unset] []))
    rcases own_mod3 p1 with hk56 | hk56 | hk56
    · rw [hk56]
      show own_G p.tables e below _ (T55.setTop (mkF m 67 #[.val (.int p1), .val (.int p2), .val (.int (0 : Int32)), .val (.int ((p2 &&& (2147483647 : Int32)) % (3 : Int32))), .val (.ref b44), .val (.ref b49), .val (.ref b53), .val (.int (1 : Int32)), .unset] []))
      rcases own_mod3 p2 with hk57 | hk57 | hk57
      · rw [hk57]
        show own_G p.tables e below _ (T55.setTop (mkF m 67 #[.val (.int p1), .val (.int p2), .val (.int (0 : Int32)), .val (.int (0 : Int32)), .val (.ref b44), .val (.ref b49), .val (.ref b53), .val (.int (1 : Int32)), .unset] []))
        refine own_st (fun _ kS => XS.iloadN X55.here hx rfl (hb hby at_67) rfl kS) ?_
        refine own_st (fun _ kS => XS.iconst X55.here hx rfl (hb hby at_68) kS) ?_
        show own_G p.tables e below _ (T55.setTop (mkF m 69 #[.val (.int p1), .val (.int p2), .val (.int (0 : Int32)), .val (.int (0 : Int32)), .val (.ref b44), .val (.ref b49), .val (.ref b53), .val (.int (1 : Int32)), .unset] [(.int (1 : Int32)), (.int (0 : Int32))]))
        refine own_st (fun _ kS => XS.icmpYes X55.here hx rfl (pc0 := 69) (pc' := 79) rfl (hb hby at_69) rfl (tlt (by decide : (0 : Int32) < (1 : Int32))).1 (by decide) (by decide) kS) ?_
        show own_G p.tables e below _ (T55.setTop (mkF m 79 #[.val (.int p1), .val (.int p2), .val (.int (0 : Int32)), .val (.int (0 : Int32)), .val (.ref b44), .val (.ref b49), .val (.ref b53), .val (.int (1 : Int32)), .unset] []))
        refine own_st (fun _ kS => XS.iloadN X55.here hx rfl (hb hby at_79) rfl kS) ?_
        refine own_st (fun _ kS => XS.iconst X55.here hx rfl (hb hby at_80) kS) ?_
        show own_G p.tables e below _ (T55.setTop (mkF m 81 #[.val (.int p1), .val (.int p2), .val (.int (0 : Int32)), .val (.int (0 : Int32)), .val (.ref b44), .val (.ref b49), .val (.ref b53), .val (.int (1 : Int32)), .unset] [(.int (2 : Int32)), (.int (0 : Int32))]))
        refine own_st (fun _ kS => XS.icmpYes X55.here hx rfl (pc0 := 81) (pc' := 91) rfl (hb hby at_81) rfl (tlt (by decide : (0 : Int32) < (2 : Int32))).1 (by decide) (by decide) kS) ?_
        show own_G p.tables e below _ (T55.setTop (mkF m 91 #[.val (.int p1), .val (.int p2), .val (.int (0 : Int32)), .val (.int (0 : Int32)), .val (.ref b44), .val (.ref b49), .val (.ref b53), .val (.int (1 : Int32)), .unset] []))
        refine own_st (fun _ kS => XS.iloadN X55.here hx rfl (hb hby at_91) rfl kS) ?_
        refine own_st (fun _ kS => XS.iconst X55.here hx rfl (hb hby at_92) kS) ?_
        show own_G p.tables e below _ (T55.setTop (mkF m 93 #[.val (.int p1), .val (.int p2), .val (.int (0 : Int32)), .val (.int (0 : Int32)), .val (.ref b44), .val (.ref b49), .val (.ref b53), .val (.int (1 : Int32)), .unset] [(.int (1 : Int32)), (.int (0 : Int32))]))
        refine own_st (fun _ kS => XS.icmpYes X55.here hx rfl (pc0 := 93) (pc' := 101) rfl (hb hby at_93) rfl (tlt (by decide : (0 : Int32) < (1 : Int32))).1 (by decide) (by decide) kS) ?_
        show own_G p.tables e below _ (T55.setTop (mkF m 101 #[.val (.int p1), .val (.int p2), .val (.int (0 : Int32)), .val (.int (0 : Int32)), .val (.ref b44), .val (.ref b49), .val (.ref b53), .val (.int (1 : Int32)), .unset] []))
        refine own_st (fun _ kS => XS.iloadN X55.here hx rfl (hb hby at_101) rfl kS) ?_
        refine own_st (fun _ kS => XS.iconst X55.here hx rfl (hb hby at_102) kS) ?_
        show own_G p.tables e below _ (T55.setTop (mkF m 103 #[.val (.int p1), .val (.int p2), .val (.int (0 : Int32)), .val (.int (0 : Int32)), .val (.ref b44), .val (.ref b49), .val (.ref b53), .val (.int (1 : Int32)), .unset] [(.int (2 : Int32)), (.int (0 : Int32))]))
        refine own_st (fun _ kS => XS.icmpYes X55.here hx rfl (pc0 := 103) (pc' := 111) rfl (hb hby at_103) rfl (tlt (by decide : (0 : Int32) < (2 : Int32))).1 (by decide) (by decide) kS) ?_
        show own_G p.tables e below _ (T55.setTop (mkF m 111 #[.val (.int p1), .val (.int p2), .val (.int (0 : Int32)), .val (.int (0 : Int32)), .val (.ref b44), .val (.ref b49), .val (.ref b53), .val (.int (1 : Int32)), .unset] []))
        refine own_st (fun _ kS => XS.iloadN X55.here hx rfl (hb hby at_111) rfl kS) ?_
        show own_G p.tables e below _ (T55.setTop (mkF m 112 #[.val (.int p1), .val (.int p2), .val (.int (0 : Int32)), .val (.int (0 : Int32)), .val (.ref b44), .val (.ref b49), .val (.ref b53), .val (.int (1 : Int32)), .unset] [(.int (0 : Int32))]))
        refine own_st (fun _ kS => XS.ifNo X55.here hx rfl (hb hby at_112) rfl ((if0 _ _).trans (teq (by decide : (0 : Int32) = (0 : Int32))).2) kS) ?_
        show own_G p.tables e below _ (T55.setTop (mkF m 115 #[.val (.int p1), .val (.int p2), .val (.int (0 : Int32)), .val (.int (0 : Int32)), .val (.ref b44), .val (.ref b49), .val (.ref b53), .val (.int (1 : Int32)), .unset] []))
        refine own_st (fun _ kS => XS.iconst X55.here hx rfl (hb hby at_115) kS) ?_
        refine own_st (fun _ kS => XS.goto X55.here hx rfl (pc0 := 116) (pc' := 120) rfl (hb hby at_116) (by decide) (by decide) kS) ?_
        show own_G p.tables e below _ (T55.setTop (mkF m 120 #[.val (.int p1), .val (.int p2), .val (.int (0 : Int32)), .val (.int (0 : Int32)), .val (.ref b44), .val (.ref b49), .val (.ref b53), .val (.int (1 : Int32)), .unset] [(.int (1 : Int32))]))
        refine own_st (fun _ kS => XS.istore X55.here hx rfl (hb hby at_120) rfl (l' := #[.val (.int p1), .val (.int p2), .val (.int (0 : Int32)), .val (.int (0 : Int32)), .val (.ref b44), .val (.ref b49), .val (.ref b53), .val (.int (1 : Int32)), .val (.int (1 : Int32))]) rfl kS) ?_
        show own_G p.tables e below _ (T55.setTop (mkF m 122 #[.val (.int p1), .val (.int p2), .val (.int (0 : Int32)), .val (.int (0 : Int32)), .val (.ref b44), .val (.ref b49), .val (.ref b53), .val (.int (1 : Int32)), .val (.int (1 : Int32))] []))
        refine own_st (fun _ kS => XS.iload X55.here hx rfl (hb hby at_122) rfl kS) ?_
        show own_G p.tables e below _ (T55.setTop (mkF m 124 #[.val (.int p1), .val (.int p2), .val (.int (0 : Int32)), .val (.int (0 : Int32)), .val (.ref b44), .val (.ref b49), .val (.ref b53), .val (.int (1 : Int32)), .val (.int (1 : Int32))] [(.int (1 : Int32))]))
        refine own_st (fun _ kS => XS.ifNo X55.here hx rfl (hb hby at_124) rfl ((if0 _ _).trans (feq (by decide : ¬ ((1 : Int32) = (0 : Int32)))).1) kS) ?_
        show own_G p.tables e below _ (T55.setTop (mkF m 127 #[.val (.int p1), .val (.int p2), .val (.int (0 : Int32)), .val (.int (0 : Int32)), .val (.ref b44), .val (.ref b49), .val (.ref b53), .val (.int (1 : Int32)), .val (.int (1 : Int32))] []))
        refine own_st (fun _ kS => XS.aload X55.here hx rfl (hb hby at_127) rfl rfl kS) ?_
        show own_G p.tables e below _ (T55.setTop (mkF m 129 #[.val (.int p1), .val (.int p2), .val (.int (0 : Int32)), .val (.int (0 : Int32)), .val (.ref b44), .val (.ref b49), .val (.ref b53), .val (.int (1 : Int32)), .val (.int (1 : Int32))] [(.ref b53)]))
        obtain ⟨cq58, kq58, q58a, q58b, q58c⟩ := isOf hZ eq55 P54_0
        obtain ⟨_, _, ⟨T58, L58, k58, n58⟩, -, X58, ⟨Lc58, hQ58, l58, y58, z58⟩, st58⟩ := X55.virtualBack hx (y := (⟨"com/example/cartouche/cartouche/checking/Summary", "passed", "()Z"⟩ : MethodName)) (z := (⟨"com/example/cartouche/cartouche/checking/Summary", "passed", "()Z"⟩ : MethodName)) hown (mvT hZ (own_w hw 226 rfl)) (mvT hZ (own_w hw 227 rfl)) (notFace_of_selects (args := #[]) (mvT hZ (own_w hw 229 rfl))) (mvT hZ (own_w hw 229 rfl)) (mvT hZ (own_w hw 228 rfl)) (by decide) (backOf (W := 0) (rm_passed0_0 l Z a0 hw [] b53 T54.heap n0 (Nat.le_trans (Nat.le_trans (Nat.le_trans (Nat.le_trans (Nat.le_trans (Nat.le_trans (Nat.le_trans (Nat.le_trans (Nat.le_trans (Nat.le_trans (Nat.le_trans Z0 E44.1) E45.1) E46.1) Kc47.1) Kc48.1) E49.1) E50.1) Kc51.1) Kc52.1) E53.1) Kc54.1)  P54_1 P54_2 P54_3) hZ (own_w hw 230 rfl) (own_w hw 103 rfl) (by decide) (by decide)) q58a q58c (g := (mkF m 129 #[.val (.int p1), .val (.int p2), .val (.int (0 : Int32)), .val (.int (0 : Int32)), .val (.ref b44), .val (.ref b49), .val (.ref b53), .val (.int (1 : Int32)), .val (.int (1 : Int32))] [(.ref b53)])) rfl (by rw [hml]; rfl) (Steps.refl _) (argsL := []) (rest := []) (lenOf own_pd1 rfl) rfl (by show 2 * 0 + _ ≤ _; exact Nat.le_of_eq rfl) (hb hby at_129) (fun _ _ => ⟨rfl, eq55, (by decide : 15 + 0 ≤ _), (by decide : 70 + 0 ≤ _)⟩)
        dsimp only [Pt.U, Pt.locs, Pt.cells, Pt.slots] at X58 l58 y58 z58 st58 hQ58
        subst l58 y58 z58
        obtain ⟨rfl, Nq58, eq58⟩ := hQ58
        have N58 := Fr.app N55 Nq58
        refine own_tr st58 ?_
        show own_G p.tables e below _ (T58.setTop (mkF m 132 #[.val (.int p1), .val (.int p2), .val (.int (0 : Int32)), .val (.int (0 : Int32)), .val (.ref b44), .val (.ref b49), .val (.ref b53), .val (.int (1 : Int32)), .val (.int (1 : Int32))] [(.int (1 : Int32))]))
        refine own_st (fun _ kS => XS.iload X58.here hx rfl (hb hby at_132) rfl kS) ?_
        show own_G p.tables e below _ (T58.setTop (mkF m 134 #[.val (.int p1), .val (.int p2), .val (.int (0 : Int32)), .val (.int (0 : Int32)), .val (.ref b44), .val (.ref b49), .val (.ref b53), .val (.int (1 : Int32)), .val (.int (1 : Int32))] [(.int (1 : Int32)), (.int (1 : Int32))]))
        refine own_st (fun _ kS => XS.icmpNo X58.here hx rfl (hb hby at_134) rfl (teq (by decide : (1 : Int32) = (1 : Int32))).2 kS) ?_
        show own_G p.tables e below _ (T58.setTop (mkF m 137 #[.val (.int p1), .val (.int p2), .val (.int (0 : Int32)), .val (.int (0 : Int32)), .val (.ref b44), .val (.ref b49), .val (.ref b53), .val (.int (1 : Int32)), .val (.int (1 : Int32))] []))
        refine own_st (fun _ kS => XS.iconst X58.here hx rfl (hb hby at_137) kS) ?_
        refine own_st (fun _ kS => XS.goto X58.here hx rfl (pc0 := 138) (pc' := 142) rfl (hb hby at_138) (by decide) (by decide) kS) ?_
        show own_G p.tables e below _ (T58.setTop (mkF m 142 #[.val (.int p1), .val (.int p2), .val (.int (0 : Int32)), .val (.int (0 : Int32)), .val (.ref b44), .val (.ref b49), .val (.ref b53), .val (.int (1 : Int32)), .val (.int (1 : Int32))] [(.int (1 : Int32))]))
        exact own_retNW hS (own_le eq58 (Nat.le_trans (Nat.le_trans (Nat.le_trans (Nat.le_trans (Nat.le_trans (Nat.le_trans (Nat.le_trans (Nat.le_trans (Nat.le_trans hk45 E46.1) Kc47.1) Kc48.1) E49.1) E50.1) Kc51.1) Kc52.1) E53.1) Kc54.1)) X58 hx hlk (t := .boolean) hret (by simp) (hb hby at_142) (by decide) (by decide) (v' := (1 : Int32)) rfl (by rw [eq58]; exact ⟨rfl, N58⟩)
      · rw [hk57]
        show own_G p.tables e below _ (T55.setTop (mkF m 67 #[.val (.int p1), .val (.int p2), .val (.int (0 : Int32)), .val (.int (1 : Int32)), .val (.ref b44), .val (.ref b49), .val (.ref b53), .val (.int (1 : Int32)), .unset] []))
        refine own_st (fun _ kS => XS.iloadN X55.here hx rfl (hb hby at_67) rfl kS) ?_
        refine own_st (fun _ kS => XS.iconst X55.here hx rfl (hb hby at_68) kS) ?_
        show own_G p.tables e below _ (T55.setTop (mkF m 69 #[.val (.int p1), .val (.int p2), .val (.int (0 : Int32)), .val (.int (1 : Int32)), .val (.ref b44), .val (.ref b49), .val (.ref b53), .val (.int (1 : Int32)), .unset] [(.int (1 : Int32)), (.int (0 : Int32))]))
        refine own_st (fun _ kS => XS.icmpYes X55.here hx rfl (pc0 := 69) (pc' := 79) rfl (hb hby at_69) rfl (tlt (by decide : (0 : Int32) < (1 : Int32))).1 (by decide) (by decide) kS) ?_
        show own_G p.tables e below _ (T55.setTop (mkF m 79 #[.val (.int p1), .val (.int p2), .val (.int (0 : Int32)), .val (.int (1 : Int32)), .val (.ref b44), .val (.ref b49), .val (.ref b53), .val (.int (1 : Int32)), .unset] []))
        refine own_st (fun _ kS => XS.iloadN X55.here hx rfl (hb hby at_79) rfl kS) ?_
        refine own_st (fun _ kS => XS.iconst X55.here hx rfl (hb hby at_80) kS) ?_
        show own_G p.tables e below _ (T55.setTop (mkF m 81 #[.val (.int p1), .val (.int p2), .val (.int (0 : Int32)), .val (.int (1 : Int32)), .val (.ref b44), .val (.ref b49), .val (.ref b53), .val (.int (1 : Int32)), .unset] [(.int (2 : Int32)), (.int (0 : Int32))]))
        refine own_st (fun _ kS => XS.icmpYes X55.here hx rfl (pc0 := 81) (pc' := 91) rfl (hb hby at_81) rfl (tlt (by decide : (0 : Int32) < (2 : Int32))).1 (by decide) (by decide) kS) ?_
        show own_G p.tables e below _ (T55.setTop (mkF m 91 #[.val (.int p1), .val (.int p2), .val (.int (0 : Int32)), .val (.int (1 : Int32)), .val (.ref b44), .val (.ref b49), .val (.ref b53), .val (.int (1 : Int32)), .unset] []))
        refine own_st (fun _ kS => XS.iloadN X55.here hx rfl (hb hby at_91) rfl kS) ?_
        refine own_st (fun _ kS => XS.iconst X55.here hx rfl (hb hby at_92) kS) ?_
        show own_G p.tables e below _ (T55.setTop (mkF m 93 #[.val (.int p1), .val (.int p2), .val (.int (0 : Int32)), .val (.int (1 : Int32)), .val (.ref b44), .val (.ref b49), .val (.ref b53), .val (.int (1 : Int32)), .unset] [(.int (1 : Int32)), (.int (1 : Int32))]))
        refine own_st (fun _ kS => XS.icmpNo X55.here hx rfl (hb hby at_93) rfl (flt (by decide : ¬ ((1 : Int32) < (1 : Int32)))).1 kS) ?_
        show own_G p.tables e below _ (T55.setTop (mkF m 96 #[.val (.int p1), .val (.int p2), .val (.int (0 : Int32)), .val (.int (1 : Int32)), .val (.ref b44), .val (.ref b49), .val (.ref b53), .val (.int (1 : Int32)), .unset] []))
        refine own_st (fun _ kS => XS.aload X55.here hx rfl (hb hby at_96) rfl rfl kS) ?_
        show own_G p.tables e below _ (T55.setTop (mkF m 98 #[.val (.int p1), .val (.int p2), .val (.int (0 : Int32)), .val (.int (1 : Int32)), .val (.ref b44), .val (.ref b49), .val (.ref b53), .val (.int (1 : Int32)), .unset] [(.ref b53)]))
        obtain ⟨cq59, kq59, q59a, q59b, q59c⟩ := isOf hZ eq55 P54_0
        obtain ⟨_, _, ⟨T59, L59, k59, n59⟩, -, X59, ⟨Lc59, hQ59, l59, y59, z59⟩, st59⟩ := X55.virtualBack hx (y := (⟨"com/example/cartouche/cartouche/checking/Summary", "countUnreadable", "()V"⟩ : MethodName)) (z := (⟨"com/example/cartouche/cartouche/checking/Summary", "countUnreadable", "()V"⟩ : MethodName)) hown (mvT hZ (own_w hw 272 rfl)) (mvT hZ (own_w hw 273 rfl)) (notFace_of_selects (args := #[]) (mvT hZ (own_w hw 275 rfl))) (mvT hZ (own_w hw 275 rfl)) (mvT hZ (own_w hw 274 rfl)) (by decide) (backOf (W := 0) (rm_unread0_0 l Z a0 hw [] b53 T54.heap n0 (Nat.le_trans (Nat.le_trans (Nat.le_trans (Nat.le_trans (Nat.le_trans (Nat.le_trans (Nat.le_trans (Nat.le_trans (Nat.le_trans (Nat.le_trans (Nat.le_trans Z0 E44.1) E45.1) E46.1) Kc47.1) Kc48.1) E49.1) E50.1) Kc51.1) Kc52.1) E53.1) Kc54.1)  P54_0 ge_b53 P54_1 P54_2 P54_3) hZ (own_w hw 276 rfl) (own_w hw 103 rfl) (by decide) (by decide)) q59a q59c (g := (mkF m 98 #[.val (.int p1), .val (.int p2), .val (.int (0 : Int32)), .val (.int (1 : Int32)), .val (.ref b44), .val (.ref b49), .val (.ref b53), .val (.int (1 : Int32)), .unset] [(.ref b53)])) rfl (by rw [hml]; rfl) (Steps.refl _) (argsL := []) (rest := []) (lenOf own_pd0 rfl) rfl (by show 2 * 0 + _ ≤ _; exact Nat.le_of_eq rfl) (hb hby at_98) (fun _ _ => ⟨rfl, eq55, (by decide : 15 + 0 ≤ _), (by decide : 70 + 0 ≤ _)⟩)
        dsimp only [Pt.U, Pt.locs, Pt.cells, Pt.slots] at X59 l59 y59 z59 st59 hQ59
        subst l59 y59 z59
        obtain ⟨rfl, Nq59, Kc59, P59_0, P59_1, P59_2, P59_3⟩ := hQ59
        have N59 := Fr.app N55 Nq59
        have O59 := O54.keep Kc59 (allS ge_b53 all0)
        refine own_tr st59 ?_
        show own_G p.tables e below _ (T59.setTop (mkF m 101 #[.val (.int p1), .val (.int p2), .val (.int (0 : Int32)), .val (.int (1 : Int32)), .val (.ref b44), .val (.ref b49), .val (.ref b53), .val (.int (1 : Int32)), .unset] []))
        refine own_st (fun _ kS => XS.iloadN X59.here hx rfl (hb hby at_101) rfl kS) ?_
        refine own_st (fun _ kS => XS.iconst X59.here hx rfl (hb hby at_102) kS) ?_
        show own_G p.tables e below _ (T59.setTop (mkF m 103 #[.val (.int p1), .val (.int p2), .val (.int (0 : Int32)), .val (.int (1 : Int32)), .val (.ref b44), .val (.ref b49), .val (.ref b53), .val (.int (1 : Int32)), .unset] [(.int (2 : Int32)), (.int (1 : Int32))]))
        refine own_st (fun _ kS => XS.icmpYes X59.here hx rfl (pc0 := 103) (pc' := 111) rfl (hb hby at_103) rfl (tlt (by decide : (1 : Int32) < (2 : Int32))).1 (by decide) (by decide) kS) ?_
        show own_G p.tables e below _ (T59.setTop (mkF m 111 #[.val (.int p1), .val (.int p2), .val (.int (0 : Int32)), .val (.int (1 : Int32)), .val (.ref b44), .val (.ref b49), .val (.ref b53), .val (.int (1 : Int32)), .unset] []))
        refine own_st (fun _ kS => XS.iloadN X59.here hx rfl (hb hby at_111) rfl kS) ?_
        show own_G p.tables e below _ (T59.setTop (mkF m 112 #[.val (.int p1), .val (.int p2), .val (.int (0 : Int32)), .val (.int (1 : Int32)), .val (.ref b44), .val (.ref b49), .val (.ref b53), .val (.int (1 : Int32)), .unset] [(.int (1 : Int32))]))
        refine own_st (fun _ kS => XS.ifYes X59.here hx rfl (pc0 := 112) (pc' := 119) rfl (hb hby at_112) rfl ((if0 _ _).trans (feq (by decide : ¬ ((1 : Int32) = (0 : Int32)))).2) (by decide) (by decide) kS) ?_
        show own_G p.tables e below _ (T59.setTop (mkF m 119 #[.val (.int p1), .val (.int p2), .val (.int (0 : Int32)), .val (.int (1 : Int32)), .val (.ref b44), .val (.ref b49), .val (.ref b53), .val (.int (1 : Int32)), .unset] []))
        refine own_st (fun _ kS => XS.iconst X59.here hx rfl (hb hby at_119) kS) ?_
        show own_G p.tables e below _ (T59.setTop (mkF m 120 #[.val (.int p1), .val (.int p2), .val (.int (0 : Int32)), .val (.int (1 : Int32)), .val (.ref b44), .val (.ref b49), .val (.ref b53), .val (.int (1 : Int32)), .unset] [(.int (0 : Int32))]))
        refine own_st (fun _ kS => XS.istore X59.here hx rfl (hb hby at_120) rfl (l' := #[.val (.int p1), .val (.int p2), .val (.int (0 : Int32)), .val (.int (1 : Int32)), .val (.ref b44), .val (.ref b49), .val (.ref b53), .val (.int (1 : Int32)), .val (.int (0 : Int32))]) rfl kS) ?_
        show own_G p.tables e below _ (T59.setTop (mkF m 122 #[.val (.int p1), .val (.int p2), .val (.int (0 : Int32)), .val (.int (1 : Int32)), .val (.ref b44), .val (.ref b49), .val (.ref b53), .val (.int (1 : Int32)), .val (.int (0 : Int32))] []))
        refine own_st (fun _ kS => XS.iload X59.here hx rfl (hb hby at_122) rfl kS) ?_
        show own_G p.tables e below _ (T59.setTop (mkF m 124 #[.val (.int p1), .val (.int p2), .val (.int (0 : Int32)), .val (.int (1 : Int32)), .val (.ref b44), .val (.ref b49), .val (.ref b53), .val (.int (1 : Int32)), .val (.int (0 : Int32))] [(.int (1 : Int32))]))
        refine own_st (fun _ kS => XS.ifNo X59.here hx rfl (hb hby at_124) rfl ((if0 _ _).trans (feq (by decide : ¬ ((1 : Int32) = (0 : Int32)))).1) kS) ?_
        show own_G p.tables e below _ (T59.setTop (mkF m 127 #[.val (.int p1), .val (.int p2), .val (.int (0 : Int32)), .val (.int (1 : Int32)), .val (.ref b44), .val (.ref b49), .val (.ref b53), .val (.int (1 : Int32)), .val (.int (0 : Int32))] []))
        refine own_st (fun _ kS => XS.aload X59.here hx rfl (hb hby at_127) rfl rfl kS) ?_
        show own_G p.tables e below _ (T59.setTop (mkF m 129 #[.val (.int p1), .val (.int p2), .val (.int (0 : Int32)), .val (.int (1 : Int32)), .val (.ref b44), .val (.ref b49), .val (.ref b53), .val (.int (1 : Int32)), .val (.int (0 : Int32))] [(.ref b53)]))
        obtain ⟨cq60, kq60, q60a, q60b, q60c⟩ := isOf hZ rfl P59_0
        obtain ⟨_, _, ⟨T60, L60, k60, n60⟩, -, X60, ⟨Lc60, hQ60, l60, y60, z60⟩, st60⟩ := X59.virtualBack hx (y := (⟨"com/example/cartouche/cartouche/checking/Summary", "passed", "()Z"⟩ : MethodName)) (z := (⟨"com/example/cartouche/cartouche/checking/Summary", "passed", "()Z"⟩ : MethodName)) hown (mvT hZ (own_w hw 226 rfl)) (mvT hZ (own_w hw 227 rfl)) (notFace_of_selects (args := #[]) (mvT hZ (own_w hw 229 rfl))) (mvT hZ (own_w hw 229 rfl)) (mvT hZ (own_w hw 228 rfl)) (by decide) (backOf (W := 0) (rm_passed1_0 l Z a0 hw [] b53 T59.heap n0 (Nat.le_trans (Nat.le_trans (Nat.le_trans (Nat.le_trans (Nat.le_trans (Nat.le_trans (Nat.le_trans (Nat.le_trans (Nat.le_trans (Nat.le_trans (Nat.le_trans (Nat.le_trans Z0 E44.1) E45.1) E46.1) Kc47.1) Kc48.1) E49.1) E50.1) Kc51.1) Kc52.1) E53.1) Kc54.1) Kc59.1)  P59_1) hZ (own_w hw 230 rfl) (own_w hw 103 rfl) (by decide) (by decide)) q60a q60c (g := (mkF m 129 #[.val (.int p1), .val (.int p2), .val (.int (0 : Int32)), .val (.int (1 : Int32)), .val (.ref b44), .val (.ref b49), .val (.ref b53), .val (.int (1 : Int32)), .val (.int (0 : Int32))] [(.ref b53)])) rfl (by rw [hml]; rfl) (Steps.refl _) (argsL := []) (rest := []) (lenOf own_pd1 rfl) rfl (by show 2 * 0 + _ ≤ _; exact Nat.le_of_eq rfl) (hb hby at_129) (fun _ _ => ⟨rfl, rfl, (by decide : 15 + 0 ≤ _), (by decide : 70 + 0 ≤ _)⟩)
        dsimp only [Pt.U, Pt.locs, Pt.cells, Pt.slots] at X60 l60 y60 z60 st60 hQ60
        subst l60 y60 z60
        obtain ⟨rfl, Nq60, eq60⟩ := hQ60
        have N60 := Fr.app N59 Nq60
        refine own_tr st60 ?_
        show own_G p.tables e below _ (T60.setTop (mkF m 132 #[.val (.int p1), .val (.int p2), .val (.int (0 : Int32)), .val (.int (1 : Int32)), .val (.ref b44), .val (.ref b49), .val (.ref b53), .val (.int (1 : Int32)), .val (.int (0 : Int32))] [(.int (0 : Int32))]))
        refine own_st (fun _ kS => XS.iload X60.here hx rfl (hb hby at_132) rfl kS) ?_
        show own_G p.tables e below _ (T60.setTop (mkF m 134 #[.val (.int p1), .val (.int p2), .val (.int (0 : Int32)), .val (.int (1 : Int32)), .val (.ref b44), .val (.ref b49), .val (.ref b53), .val (.int (1 : Int32)), .val (.int (0 : Int32))] [(.int (0 : Int32)), (.int (0 : Int32))]))
        refine own_st (fun _ kS => XS.icmpNo X60.here hx rfl (hb hby at_134) rfl (teq (by decide : (0 : Int32) = (0 : Int32))).2 kS) ?_
        show own_G p.tables e below _ (T60.setTop (mkF m 137 #[.val (.int p1), .val (.int p2), .val (.int (0 : Int32)), .val (.int (1 : Int32)), .val (.ref b44), .val (.ref b49), .val (.ref b53), .val (.int (1 : Int32)), .val (.int (0 : Int32))] []))
        refine own_st (fun _ kS => XS.iconst X60.here hx rfl (hb hby at_137) kS) ?_
        refine own_st (fun _ kS => XS.goto X60.here hx rfl (pc0 := 138) (pc' := 142) rfl (hb hby at_138) (by decide) (by decide) kS) ?_
        show own_G p.tables e below _ (T60.setTop (mkF m 142 #[.val (.int p1), .val (.int p2), .val (.int (0 : Int32)), .val (.int (1 : Int32)), .val (.ref b44), .val (.ref b49), .val (.ref b53), .val (.int (1 : Int32)), .val (.int (0 : Int32))] [(.int (1 : Int32))]))
        exact own_retNW hS (own_le eq60 (Nat.le_trans (Nat.le_trans (Nat.le_trans (Nat.le_trans (Nat.le_trans (Nat.le_trans (Nat.le_trans (Nat.le_trans (Nat.le_trans (Nat.le_trans hk45 E46.1) Kc47.1) Kc48.1) E49.1) E50.1) Kc51.1) Kc52.1) E53.1) Kc54.1) Kc59.1)) X60 hx hlk (t := .boolean) hret (by simp) (hb hby at_142) (by decide) (by decide) (v' := (1 : Int32)) rfl (by rw [eq60]; exact ⟨rfl, N60⟩)
      · rw [hk57]
        show own_G p.tables e below _ (T55.setTop (mkF m 67 #[.val (.int p1), .val (.int p2), .val (.int (0 : Int32)), .val (.int (2 : Int32)), .val (.ref b44), .val (.ref b49), .val (.ref b53), .val (.int (1 : Int32)), .unset] []))
        refine own_st (fun _ kS => XS.iloadN X55.here hx rfl (hb hby at_67) rfl kS) ?_
        refine own_st (fun _ kS => XS.iconst X55.here hx rfl (hb hby at_68) kS) ?_
        show own_G p.tables e below _ (T55.setTop (mkF m 69 #[.val (.int p1), .val (.int p2), .val (.int (0 : Int32)), .val (.int (2 : Int32)), .val (.ref b44), .val (.ref b49), .val (.ref b53), .val (.int (1 : Int32)), .unset] [(.int (1 : Int32)), (.int (0 : Int32))]))
        refine own_st (fun _ kS => XS.icmpYes X55.here hx rfl (pc0 := 69) (pc' := 79) rfl (hb hby at_69) rfl (tlt (by decide : (0 : Int32) < (1 : Int32))).1 (by decide) (by decide) kS) ?_
        show own_G p.tables e below _ (T55.setTop (mkF m 79 #[.val (.int p1), .val (.int p2), .val (.int (0 : Int32)), .val (.int (2 : Int32)), .val (.ref b44), .val (.ref b49), .val (.ref b53), .val (.int (1 : Int32)), .unset] []))
        refine own_st (fun _ kS => XS.iloadN X55.here hx rfl (hb hby at_79) rfl kS) ?_
        refine own_st (fun _ kS => XS.iconst X55.here hx rfl (hb hby at_80) kS) ?_
        show own_G p.tables e below _ (T55.setTop (mkF m 81 #[.val (.int p1), .val (.int p2), .val (.int (0 : Int32)), .val (.int (2 : Int32)), .val (.ref b44), .val (.ref b49), .val (.ref b53), .val (.int (1 : Int32)), .unset] [(.int (2 : Int32)), (.int (0 : Int32))]))
        refine own_st (fun _ kS => XS.icmpYes X55.here hx rfl (pc0 := 81) (pc' := 91) rfl (hb hby at_81) rfl (tlt (by decide : (0 : Int32) < (2 : Int32))).1 (by decide) (by decide) kS) ?_
        show own_G p.tables e below _ (T55.setTop (mkF m 91 #[.val (.int p1), .val (.int p2), .val (.int (0 : Int32)), .val (.int (2 : Int32)), .val (.ref b44), .val (.ref b49), .val (.ref b53), .val (.int (1 : Int32)), .unset] []))
        refine own_st (fun _ kS => XS.iloadN X55.here hx rfl (hb hby at_91) rfl kS) ?_
        refine own_st (fun _ kS => XS.iconst X55.here hx rfl (hb hby at_92) kS) ?_
        show own_G p.tables e below _ (T55.setTop (mkF m 93 #[.val (.int p1), .val (.int p2), .val (.int (0 : Int32)), .val (.int (2 : Int32)), .val (.ref b44), .val (.ref b49), .val (.ref b53), .val (.int (1 : Int32)), .unset] [(.int (1 : Int32)), (.int (2 : Int32))]))
        refine own_st (fun _ kS => XS.icmpNo X55.here hx rfl (hb hby at_93) rfl (flt (by decide : ¬ ((2 : Int32) < (1 : Int32)))).1 kS) ?_
        show own_G p.tables e below _ (T55.setTop (mkF m 96 #[.val (.int p1), .val (.int p2), .val (.int (0 : Int32)), .val (.int (2 : Int32)), .val (.ref b44), .val (.ref b49), .val (.ref b53), .val (.int (1 : Int32)), .unset] []))
        refine own_st (fun _ kS => XS.aload X55.here hx rfl (hb hby at_96) rfl rfl kS) ?_
        show own_G p.tables e below _ (T55.setTop (mkF m 98 #[.val (.int p1), .val (.int p2), .val (.int (0 : Int32)), .val (.int (2 : Int32)), .val (.ref b44), .val (.ref b49), .val (.ref b53), .val (.int (1 : Int32)), .unset] [(.ref b53)]))
        obtain ⟨cq61, kq61, q61a, q61b, q61c⟩ := isOf hZ eq55 P54_0
        obtain ⟨_, _, ⟨T61, L61, k61, n61⟩, -, X61, ⟨Lc61, hQ61, l61, y61, z61⟩, st61⟩ := X55.virtualBack hx (y := (⟨"com/example/cartouche/cartouche/checking/Summary", "countUnreadable", "()V"⟩ : MethodName)) (z := (⟨"com/example/cartouche/cartouche/checking/Summary", "countUnreadable", "()V"⟩ : MethodName)) hown (mvT hZ (own_w hw 272 rfl)) (mvT hZ (own_w hw 273 rfl)) (notFace_of_selects (args := #[]) (mvT hZ (own_w hw 275 rfl))) (mvT hZ (own_w hw 275 rfl)) (mvT hZ (own_w hw 274 rfl)) (by decide) (backOf (W := 0) (rm_unread0_0 l Z a0 hw [] b53 T54.heap n0 (Nat.le_trans (Nat.le_trans (Nat.le_trans (Nat.le_trans (Nat.le_trans (Nat.le_trans (Nat.le_trans (Nat.le_trans (Nat.le_trans (Nat.le_trans (Nat.le_trans Z0 E44.1) E45.1) E46.1) Kc47.1) Kc48.1) E49.1) E50.1) Kc51.1) Kc52.1) E53.1) Kc54.1)  P54_0 ge_b53 P54_1 P54_2 P54_3) hZ (own_w hw 276 rfl) (own_w hw 103 rfl) (by decide) (by decide)) q61a q61c (g := (mkF m 98 #[.val (.int p1), .val (.int p2), .val (.int (0 : Int32)), .val (.int (2 : Int32)), .val (.ref b44), .val (.ref b49), .val (.ref b53), .val (.int (1 : Int32)), .unset] [(.ref b53)])) rfl (by rw [hml]; rfl) (Steps.refl _) (argsL := []) (rest := []) (lenOf own_pd0 rfl) rfl (by show 2 * 0 + _ ≤ _; exact Nat.le_of_eq rfl) (hb hby at_98) (fun _ _ => ⟨rfl, eq55, (by decide : 15 + 0 ≤ _), (by decide : 70 + 0 ≤ _)⟩)
        dsimp only [Pt.U, Pt.locs, Pt.cells, Pt.slots] at X61 l61 y61 z61 st61 hQ61
        subst l61 y61 z61
        obtain ⟨rfl, Nq61, Kc61, P61_0, P61_1, P61_2, P61_3⟩ := hQ61
        have N61 := Fr.app N55 Nq61
        have O61 := O54.keep Kc61 (allS ge_b53 all0)
        refine own_tr st61 ?_
        show own_G p.tables e below _ (T61.setTop (mkF m 101 #[.val (.int p1), .val (.int p2), .val (.int (0 : Int32)), .val (.int (2 : Int32)), .val (.ref b44), .val (.ref b49), .val (.ref b53), .val (.int (1 : Int32)), .unset] []))
        refine own_st (fun _ kS => XS.iloadN X61.here hx rfl (hb hby at_101) rfl kS) ?_
        refine own_st (fun _ kS => XS.iconst X61.here hx rfl (hb hby at_102) kS) ?_
        show own_G p.tables e below _ (T61.setTop (mkF m 103 #[.val (.int p1), .val (.int p2), .val (.int (0 : Int32)), .val (.int (2 : Int32)), .val (.ref b44), .val (.ref b49), .val (.ref b53), .val (.int (1 : Int32)), .unset] [(.int (2 : Int32)), (.int (2 : Int32))]))
        refine own_st (fun _ kS => XS.icmpNo X61.here hx rfl (hb hby at_103) rfl (flt (by decide : ¬ ((2 : Int32) < (2 : Int32)))).1 kS) ?_
        show own_G p.tables e below _ (T61.setTop (mkF m 106 #[.val (.int p1), .val (.int p2), .val (.int (0 : Int32)), .val (.int (2 : Int32)), .val (.ref b44), .val (.ref b49), .val (.ref b53), .val (.int (1 : Int32)), .unset] []))
        refine own_st (fun _ kS => XS.aload X61.here hx rfl (hb hby at_106) rfl rfl kS) ?_
        show own_G p.tables e below _ (T61.setTop (mkF m 108 #[.val (.int p1), .val (.int p2), .val (.int (0 : Int32)), .val (.int (2 : Int32)), .val (.ref b44), .val (.ref b49), .val (.ref b53), .val (.int (1 : Int32)), .unset] [(.ref b53)]))
        obtain ⟨cq62, kq62, q62a, q62b, q62c⟩ := isOf hZ rfl P61_0
        obtain ⟨_, _, ⟨T62, L62, k62, n62⟩, -, X62, ⟨Lc62, hQ62, l62, y62, z62⟩, st62⟩ := X61.virtualBack hx (y := (⟨"com/example/cartouche/cartouche/checking/Summary", "countUnreadable", "()V"⟩ : MethodName)) (z := (⟨"com/example/cartouche/cartouche/checking/Summary", "countUnreadable", "()V"⟩ : MethodName)) hown (mvT hZ (own_w hw 272 rfl)) (mvT hZ (own_w hw 273 rfl)) (notFace_of_selects (args := #[]) (mvT hZ (own_w hw 275 rfl))) (mvT hZ (own_w hw 275 rfl)) (mvT hZ (own_w hw 274 rfl)) (by decide) (backOf (W := 0) (rm_unread1_0 l Z a0 hw [] b53 T61.heap n0 (Nat.le_trans (Nat.le_trans (Nat.le_trans (Nat.le_trans (Nat.le_trans (Nat.le_trans (Nat.le_trans (Nat.le_trans (Nat.le_trans (Nat.le_trans (Nat.le_trans (Nat.le_trans Z0 E44.1) E45.1) E46.1) Kc47.1) Kc48.1) E49.1) E50.1) Kc51.1) Kc52.1) E53.1) Kc54.1) Kc61.1)  P61_0 ge_b53 P61_1 P61_2 P61_3) hZ (own_w hw 276 rfl) (own_w hw 103 rfl) (by decide) (by decide)) q62a q62c (g := (mkF m 108 #[.val (.int p1), .val (.int p2), .val (.int (0 : Int32)), .val (.int (2 : Int32)), .val (.ref b44), .val (.ref b49), .val (.ref b53), .val (.int (1 : Int32)), .unset] [(.ref b53)])) rfl (by rw [hml]; rfl) (Steps.refl _) (argsL := []) (rest := []) (lenOf own_pd0 rfl) rfl (by show 2 * 0 + _ ≤ _; exact Nat.le_of_eq rfl) (hb hby at_108) (fun _ _ => ⟨rfl, rfl, (by decide : 15 + 0 ≤ _), (by decide : 70 + 0 ≤ _)⟩)
        dsimp only [Pt.U, Pt.locs, Pt.cells, Pt.slots] at X62 l62 y62 z62 st62 hQ62
        subst l62 y62 z62
        obtain ⟨rfl, Nq62, Kc62, P62_0, P62_1, P62_2, P62_3⟩ := hQ62
        have N62 := Fr.app N61 Nq62
        have O62 := O61.keep Kc62 (allS ge_b53 all0)
        refine own_tr st62 ?_
        show own_G p.tables e below _ (T62.setTop (mkF m 111 #[.val (.int p1), .val (.int p2), .val (.int (0 : Int32)), .val (.int (2 : Int32)), .val (.ref b44), .val (.ref b49), .val (.ref b53), .val (.int (1 : Int32)), .unset] []))
        refine own_st (fun _ kS => XS.iloadN X62.here hx rfl (hb hby at_111) rfl kS) ?_
        show own_G p.tables e below _ (T62.setTop (mkF m 112 #[.val (.int p1), .val (.int p2), .val (.int (0 : Int32)), .val (.int (2 : Int32)), .val (.ref b44), .val (.ref b49), .val (.ref b53), .val (.int (1 : Int32)), .unset] [(.int (2 : Int32))]))
        refine own_st (fun _ kS => XS.ifYes X62.here hx rfl (pc0 := 112) (pc' := 119) rfl (hb hby at_112) rfl ((if0 _ _).trans (feq (by decide : ¬ ((2 : Int32) = (0 : Int32)))).2) (by decide) (by decide) kS) ?_
        show own_G p.tables e below _ (T62.setTop (mkF m 119 #[.val (.int p1), .val (.int p2), .val (.int (0 : Int32)), .val (.int (2 : Int32)), .val (.ref b44), .val (.ref b49), .val (.ref b53), .val (.int (1 : Int32)), .unset] []))
        refine own_st (fun _ kS => XS.iconst X62.here hx rfl (hb hby at_119) kS) ?_
        show own_G p.tables e below _ (T62.setTop (mkF m 120 #[.val (.int p1), .val (.int p2), .val (.int (0 : Int32)), .val (.int (2 : Int32)), .val (.ref b44), .val (.ref b49), .val (.ref b53), .val (.int (1 : Int32)), .unset] [(.int (0 : Int32))]))
        refine own_st (fun _ kS => XS.istore X62.here hx rfl (hb hby at_120) rfl (l' := #[.val (.int p1), .val (.int p2), .val (.int (0 : Int32)), .val (.int (2 : Int32)), .val (.ref b44), .val (.ref b49), .val (.ref b53), .val (.int (1 : Int32)), .val (.int (0 : Int32))]) rfl kS) ?_
        show own_G p.tables e below _ (T62.setTop (mkF m 122 #[.val (.int p1), .val (.int p2), .val (.int (0 : Int32)), .val (.int (2 : Int32)), .val (.ref b44), .val (.ref b49), .val (.ref b53), .val (.int (1 : Int32)), .val (.int (0 : Int32))] []))
        refine own_st (fun _ kS => XS.iload X62.here hx rfl (hb hby at_122) rfl kS) ?_
        show own_G p.tables e below _ (T62.setTop (mkF m 124 #[.val (.int p1), .val (.int p2), .val (.int (0 : Int32)), .val (.int (2 : Int32)), .val (.ref b44), .val (.ref b49), .val (.ref b53), .val (.int (1 : Int32)), .val (.int (0 : Int32))] [(.int (1 : Int32))]))
        refine own_st (fun _ kS => XS.ifNo X62.here hx rfl (hb hby at_124) rfl ((if0 _ _).trans (feq (by decide : ¬ ((1 : Int32) = (0 : Int32)))).1) kS) ?_
        show own_G p.tables e below _ (T62.setTop (mkF m 127 #[.val (.int p1), .val (.int p2), .val (.int (0 : Int32)), .val (.int (2 : Int32)), .val (.ref b44), .val (.ref b49), .val (.ref b53), .val (.int (1 : Int32)), .val (.int (0 : Int32))] []))
        refine own_st (fun _ kS => XS.aload X62.here hx rfl (hb hby at_127) rfl rfl kS) ?_
        show own_G p.tables e below _ (T62.setTop (mkF m 129 #[.val (.int p1), .val (.int p2), .val (.int (0 : Int32)), .val (.int (2 : Int32)), .val (.ref b44), .val (.ref b49), .val (.ref b53), .val (.int (1 : Int32)), .val (.int (0 : Int32))] [(.ref b53)]))
        obtain ⟨cq63, kq63, q63a, q63b, q63c⟩ := isOf hZ rfl P62_0
        obtain ⟨_, _, ⟨T63, L63, k63, n63⟩, -, X63, ⟨Lc63, hQ63, l63, y63, z63⟩, st63⟩ := X62.virtualBack hx (y := (⟨"com/example/cartouche/cartouche/checking/Summary", "passed", "()Z"⟩ : MethodName)) (z := (⟨"com/example/cartouche/cartouche/checking/Summary", "passed", "()Z"⟩ : MethodName)) hown (mvT hZ (own_w hw 226 rfl)) (mvT hZ (own_w hw 227 rfl)) (notFace_of_selects (args := #[]) (mvT hZ (own_w hw 229 rfl))) (mvT hZ (own_w hw 229 rfl)) (mvT hZ (own_w hw 228 rfl)) (by decide) (backOf (W := 0) (rm_passed2_0 l Z a0 hw [] b53 T62.heap n0 (Nat.le_trans (Nat.le_trans (Nat.le_trans (Nat.le_trans (Nat.le_trans (Nat.le_trans (Nat.le_trans (Nat.le_trans (Nat.le_trans (Nat.le_trans (Nat.le_trans (Nat.le_trans (Nat.le_trans Z0 E44.1) E45.1) E46.1) Kc47.1) Kc48.1) E49.1) E50.1) Kc51.1) Kc52.1) E53.1) Kc54.1) Kc61.1) Kc62.1)  P62_1) hZ (own_w hw 230 rfl) (own_w hw 103 rfl) (by decide) (by decide)) q63a q63c (g := (mkF m 129 #[.val (.int p1), .val (.int p2), .val (.int (0 : Int32)), .val (.int (2 : Int32)), .val (.ref b44), .val (.ref b49), .val (.ref b53), .val (.int (1 : Int32)), .val (.int (0 : Int32))] [(.ref b53)])) rfl (by rw [hml]; rfl) (Steps.refl _) (argsL := []) (rest := []) (lenOf own_pd1 rfl) rfl (by show 2 * 0 + _ ≤ _; exact Nat.le_of_eq rfl) (hb hby at_129) (fun _ _ => ⟨rfl, rfl, (by decide : 15 + 0 ≤ _), (by decide : 70 + 0 ≤ _)⟩)
        dsimp only [Pt.U, Pt.locs, Pt.cells, Pt.slots] at X63 l63 y63 z63 st63 hQ63
        subst l63 y63 z63
        obtain ⟨rfl, Nq63, eq63⟩ := hQ63
        have N63 := Fr.app N62 Nq63
        refine own_tr st63 ?_
        show own_G p.tables e below _ (T63.setTop (mkF m 132 #[.val (.int p1), .val (.int p2), .val (.int (0 : Int32)), .val (.int (2 : Int32)), .val (.ref b44), .val (.ref b49), .val (.ref b53), .val (.int (1 : Int32)), .val (.int (0 : Int32))] [(.int (0 : Int32))]))
        refine own_st (fun _ kS => XS.iload X63.here hx rfl (hb hby at_132) rfl kS) ?_
        show own_G p.tables e below _ (T63.setTop (mkF m 134 #[.val (.int p1), .val (.int p2), .val (.int (0 : Int32)), .val (.int (2 : Int32)), .val (.ref b44), .val (.ref b49), .val (.ref b53), .val (.int (1 : Int32)), .val (.int (0 : Int32))] [(.int (0 : Int32)), (.int (0 : Int32))]))
        refine own_st (fun _ kS => XS.icmpNo X63.here hx rfl (hb hby at_134) rfl (teq (by decide : (0 : Int32) = (0 : Int32))).2 kS) ?_
        show own_G p.tables e below _ (T63.setTop (mkF m 137 #[.val (.int p1), .val (.int p2), .val (.int (0 : Int32)), .val (.int (2 : Int32)), .val (.ref b44), .val (.ref b49), .val (.ref b53), .val (.int (1 : Int32)), .val (.int (0 : Int32))] []))
        refine own_st (fun _ kS => XS.iconst X63.here hx rfl (hb hby at_137) kS) ?_
        refine own_st (fun _ kS => XS.goto X63.here hx rfl (pc0 := 138) (pc' := 142) rfl (hb hby at_138) (by decide) (by decide) kS) ?_
        show own_G p.tables e below _ (T63.setTop (mkF m 142 #[.val (.int p1), .val (.int p2), .val (.int (0 : Int32)), .val (.int (2 : Int32)), .val (.ref b44), .val (.ref b49), .val (.ref b53), .val (.int (1 : Int32)), .val (.int (0 : Int32))] [(.int (1 : Int32))]))
        exact own_retNW hS (own_le eq63 (Nat.le_trans (Nat.le_trans (Nat.le_trans (Nat.le_trans (Nat.le_trans (Nat.le_trans (Nat.le_trans (Nat.le_trans (Nat.le_trans (Nat.le_trans (Nat.le_trans hk45 E46.1) Kc47.1) Kc48.1) E49.1) E50.1) Kc51.1) Kc52.1) E53.1) Kc54.1) Kc61.1) Kc62.1)) X63 hx hlk (t := .boolean) hret (by simp) (hb hby at_142) (by decide) (by decide) (v' := (1 : Int32)) rfl (by rw [eq63]; exact ⟨rfl, N63⟩)
    · rw [hk56]
      show own_G p.tables e below _ (T55.setTop (mkF m 67 #[.val (.int p1), .val (.int p2), .val (.int (1 : Int32)), .val (.int ((p2 &&& (2147483647 : Int32)) % (3 : Int32))), .val (.ref b44), .val (.ref b49), .val (.ref b53), .val (.int (1 : Int32)), .unset] []))
      rcases own_mod3 p2 with hk64 | hk64 | hk64
      · rw [hk64]
        show own_G p.tables e below _ (T55.setTop (mkF m 67 #[.val (.int p1), .val (.int p2), .val (.int (1 : Int32)), .val (.int (0 : Int32)), .val (.ref b44), .val (.ref b49), .val (.ref b53), .val (.int (1 : Int32)), .unset] []))
        refine own_st (fun _ kS => XS.iloadN X55.here hx rfl (hb hby at_67) rfl kS) ?_
        refine own_st (fun _ kS => XS.iconst X55.here hx rfl (hb hby at_68) kS) ?_
        show own_G p.tables e below _ (T55.setTop (mkF m 69 #[.val (.int p1), .val (.int p2), .val (.int (1 : Int32)), .val (.int (0 : Int32)), .val (.ref b44), .val (.ref b49), .val (.ref b53), .val (.int (1 : Int32)), .unset] [(.int (1 : Int32)), (.int (1 : Int32))]))
        refine own_st (fun _ kS => XS.icmpNo X55.here hx rfl (hb hby at_69) rfl (flt (by decide : ¬ ((1 : Int32) < (1 : Int32)))).1 kS) ?_
        show own_G p.tables e below _ (T55.setTop (mkF m 72 #[.val (.int p1), .val (.int p2), .val (.int (1 : Int32)), .val (.int (0 : Int32)), .val (.ref b44), .val (.ref b49), .val (.ref b53), .val (.int (1 : Int32)), .unset] []))
        refine own_st (fun _ kS => XS.aload X55.here hx rfl (hb hby at_72) rfl rfl kS) ?_
        refine own_st (fun _ kS => XS.aload X55.here hx rfl (hb hby at_74) rfl rfl kS) ?_
        show own_G p.tables e below _ (T55.setTop (mkF m 76 #[.val (.int p1), .val (.int p2), .val (.int (1 : Int32)), .val (.int (0 : Int32)), .val (.ref b44), .val (.ref b49), .val (.ref b53), .val (.int (1 : Int32)), .unset] [(.ref b49), (.ref b53)]))
        obtain ⟨cq65, kq65, q65a, q65b, q65c⟩ := isOf hZ eq55 P54_0
        obtain ⟨_, _, ⟨T65, L65, k65, n65⟩, -, X65, ⟨Lc65, hQ65, l65, y65, z65⟩, st65⟩ := X55.virtualBack hx (y := (⟨"com/example/cartouche/cartouche/checking/Summary", "count", "(Lcom/example/cartouche/cartouche/checking/Verdict;)V"⟩ : MethodName)) (z := (⟨"com/example/cartouche/cartouche/checking/Summary", "count", "(Lcom/example/cartouche/cartouche/checking/Verdict;)V"⟩ : MethodName)) hown (mvT hZ (own_w hw 237 rfl)) (mvT hZ (own_w hw 238 rfl)) (notFace_of_selects (args := #[]) (mvT hZ (own_w hw 240 rfl))) (mvT hZ (own_w hw 240 rfl)) (mvT hZ (own_w hw 239 rfl)) (by decide) (backOf (W := 0) (rm_count0_0 l Z a0 hw [] b53 b49 wL wE kE wD w_REQUIRED w_RECOMMENDED T54.heap n0 (Nat.le_trans (Nat.le_trans (Nat.le_trans (Nat.le_trans (Nat.le_trans (Nat.le_trans (Nat.le_trans (Nat.le_trans (Nat.le_trans (Nat.le_trans (Nat.le_trans Z0 E44.1) E45.1) E46.1) Kc47.1) Kc48.1) E49.1) E50.1) Kc51.1) Kc52.1) E53.1) Kc54.1) O54 P54_0 ge_b53 (Ne.symm ne_b49_b53) P54_1 P54_2 P54_3 ((Exa.ext E53 P52_0).keep Kc54) ((Fld.ext E53 P52_1).keep Kc54 (ninS ne_b49_b53 nin0)) E_L F_el R_E S_D S_REQUIRED S_RECOMMENDED) hZ (own_w hw 241 rfl) (own_w hw 103 rfl) (by decide) (by decide)) q65a q65c (g := (mkF m 76 #[.val (.int p1), .val (.int p2), .val (.int (1 : Int32)), .val (.int (0 : Int32)), .val (.ref b44), .val (.ref b49), .val (.ref b53), .val (.int (1 : Int32)), .unset] [(.ref b49), (.ref b53)])) rfl (by rw [hml]; rfl) (Steps.refl _) (argsL := [(.ref b49)]) (rest := []) (lenOf own_pd13 rfl) rfl (by show 2 * 0 + _ ≤ _; exact Nat.le_of_eq rfl) (hb hby at_76) (fun _ _ => ⟨rfl, eq55, (by decide : 15 + 8 ≤ _), (by decide : 70 + 29 ≤ _)⟩)
        dsimp only [Pt.U, Pt.locs, Pt.cells, Pt.slots] at X65 l65 y65 z65 st65 hQ65
        subst l65 y65 z65
        obtain ⟨rfl, Nq65, Kc65, P65_0, P65_1, P65_2, P65_3⟩ := hQ65
        have N65 := Fr.app N55 Nq65
        have O65 := O54.keep Kc65 (allS ge_b53 all0)
        refine own_tr st65 ?_
        show own_G p.tables e below _ (T65.setTop (mkF m 79 #[.val (.int p1), .val (.int p2), .val (.int (1 : Int32)), .val (.int (0 : Int32)), .val (.ref b44), .val (.ref b49), .val (.ref b53), .val (.int (1 : Int32)), .unset] []))
        refine own_st (fun _ kS => XS.iloadN X65.here hx rfl (hb hby at_79) rfl kS) ?_
        refine own_st (fun _ kS => XS.iconst X65.here hx rfl (hb hby at_80) kS) ?_
        show own_G p.tables e below _ (T65.setTop (mkF m 81 #[.val (.int p1), .val (.int p2), .val (.int (1 : Int32)), .val (.int (0 : Int32)), .val (.ref b44), .val (.ref b49), .val (.ref b53), .val (.int (1 : Int32)), .unset] [(.int (2 : Int32)), (.int (1 : Int32))]))
        refine own_st (fun _ kS => XS.icmpYes X65.here hx rfl (pc0 := 81) (pc' := 91) rfl (hb hby at_81) rfl (tlt (by decide : (1 : Int32) < (2 : Int32))).1 (by decide) (by decide) kS) ?_
        show own_G p.tables e below _ (T65.setTop (mkF m 91 #[.val (.int p1), .val (.int p2), .val (.int (1 : Int32)), .val (.int (0 : Int32)), .val (.ref b44), .val (.ref b49), .val (.ref b53), .val (.int (1 : Int32)), .unset] []))
        refine own_st (fun _ kS => XS.iloadN X65.here hx rfl (hb hby at_91) rfl kS) ?_
        refine own_st (fun _ kS => XS.iconst X65.here hx rfl (hb hby at_92) kS) ?_
        show own_G p.tables e below _ (T65.setTop (mkF m 93 #[.val (.int p1), .val (.int p2), .val (.int (1 : Int32)), .val (.int (0 : Int32)), .val (.ref b44), .val (.ref b49), .val (.ref b53), .val (.int (1 : Int32)), .unset] [(.int (1 : Int32)), (.int (0 : Int32))]))
        refine own_st (fun _ kS => XS.icmpYes X65.here hx rfl (pc0 := 93) (pc' := 101) rfl (hb hby at_93) rfl (tlt (by decide : (0 : Int32) < (1 : Int32))).1 (by decide) (by decide) kS) ?_
        show own_G p.tables e below _ (T65.setTop (mkF m 101 #[.val (.int p1), .val (.int p2), .val (.int (1 : Int32)), .val (.int (0 : Int32)), .val (.ref b44), .val (.ref b49), .val (.ref b53), .val (.int (1 : Int32)), .unset] []))
        refine own_st (fun _ kS => XS.iloadN X65.here hx rfl (hb hby at_101) rfl kS) ?_
        refine own_st (fun _ kS => XS.iconst X65.here hx rfl (hb hby at_102) kS) ?_
        show own_G p.tables e below _ (T65.setTop (mkF m 103 #[.val (.int p1), .val (.int p2), .val (.int (1 : Int32)), .val (.int (0 : Int32)), .val (.ref b44), .val (.ref b49), .val (.ref b53), .val (.int (1 : Int32)), .unset] [(.int (2 : Int32)), (.int (0 : Int32))]))
        refine own_st (fun _ kS => XS.icmpYes X65.here hx rfl (pc0 := 103) (pc' := 111) rfl (hb hby at_103) rfl (tlt (by decide : (0 : Int32) < (2 : Int32))).1 (by decide) (by decide) kS) ?_
        show own_G p.tables e below _ (T65.setTop (mkF m 111 #[.val (.int p1), .val (.int p2), .val (.int (1 : Int32)), .val (.int (0 : Int32)), .val (.ref b44), .val (.ref b49), .val (.ref b53), .val (.int (1 : Int32)), .unset] []))
        refine own_st (fun _ kS => XS.iloadN X65.here hx rfl (hb hby at_111) rfl kS) ?_
        show own_G p.tables e below _ (T65.setTop (mkF m 112 #[.val (.int p1), .val (.int p2), .val (.int (1 : Int32)), .val (.int (0 : Int32)), .val (.ref b44), .val (.ref b49), .val (.ref b53), .val (.int (1 : Int32)), .unset] [(.int (0 : Int32))]))
        refine own_st (fun _ kS => XS.ifNo X65.here hx rfl (hb hby at_112) rfl ((if0 _ _).trans (teq (by decide : (0 : Int32) = (0 : Int32))).2) kS) ?_
        show own_G p.tables e below _ (T65.setTop (mkF m 115 #[.val (.int p1), .val (.int p2), .val (.int (1 : Int32)), .val (.int (0 : Int32)), .val (.ref b44), .val (.ref b49), .val (.ref b53), .val (.int (1 : Int32)), .unset] []))
        refine own_st (fun _ kS => XS.iconst X65.here hx rfl (hb hby at_115) kS) ?_
        refine own_st (fun _ kS => XS.goto X65.here hx rfl (pc0 := 116) (pc' := 120) rfl (hb hby at_116) (by decide) (by decide) kS) ?_
        show own_G p.tables e below _ (T65.setTop (mkF m 120 #[.val (.int p1), .val (.int p2), .val (.int (1 : Int32)), .val (.int (0 : Int32)), .val (.ref b44), .val (.ref b49), .val (.ref b53), .val (.int (1 : Int32)), .unset] [(.int (1 : Int32))]))
        refine own_st (fun _ kS => XS.istore X65.here hx rfl (hb hby at_120) rfl (l' := #[.val (.int p1), .val (.int p2), .val (.int (1 : Int32)), .val (.int (0 : Int32)), .val (.ref b44), .val (.ref b49), .val (.ref b53), .val (.int (1 : Int32)), .val (.int (1 : Int32))]) rfl kS) ?_
        show own_G p.tables e below _ (T65.setTop (mkF m 122 #[.val (.int p1), .val (.int p2), .val (.int (1 : Int32)), .val (.int (0 : Int32)), .val (.ref b44), .val (.ref b49), .val (.ref b53), .val (.int (1 : Int32)), .val (.int (1 : Int32))] []))
        refine own_st (fun _ kS => XS.iload X65.here hx rfl (hb hby at_122) rfl kS) ?_
        show own_G p.tables e below _ (T65.setTop (mkF m 124 #[.val (.int p1), .val (.int p2), .val (.int (1 : Int32)), .val (.int (0 : Int32)), .val (.ref b44), .val (.ref b49), .val (.ref b53), .val (.int (1 : Int32)), .val (.int (1 : Int32))] [(.int (1 : Int32))]))
        refine own_st (fun _ kS => XS.ifNo X65.here hx rfl (hb hby at_124) rfl ((if0 _ _).trans (feq (by decide : ¬ ((1 : Int32) = (0 : Int32)))).1) kS) ?_
        show own_G p.tables e below _ (T65.setTop (mkF m 127 #[.val (.int p1), .val (.int p2), .val (.int (1 : Int32)), .val (.int (0 : Int32)), .val (.ref b44), .val (.ref b49), .val (.ref b53), .val (.int (1 : Int32)), .val (.int (1 : Int32))] []))
        refine own_st (fun _ kS => XS.aload X65.here hx rfl (hb hby at_127) rfl rfl kS) ?_
        show own_G p.tables e below _ (T65.setTop (mkF m 129 #[.val (.int p1), .val (.int p2), .val (.int (1 : Int32)), .val (.int (0 : Int32)), .val (.ref b44), .val (.ref b49), .val (.ref b53), .val (.int (1 : Int32)), .val (.int (1 : Int32))] [(.ref b53)]))
        obtain ⟨cq66, kq66, q66a, q66b, q66c⟩ := isOf hZ rfl P65_0
        obtain ⟨_, _, ⟨T66, L66, k66, n66⟩, -, X66, ⟨Lc66, hQ66, l66, y66, z66⟩, st66⟩ := X65.virtualBack hx (y := (⟨"com/example/cartouche/cartouche/checking/Summary", "passed", "()Z"⟩ : MethodName)) (z := (⟨"com/example/cartouche/cartouche/checking/Summary", "passed", "()Z"⟩ : MethodName)) hown (mvT hZ (own_w hw 226 rfl)) (mvT hZ (own_w hw 227 rfl)) (notFace_of_selects (args := #[]) (mvT hZ (own_w hw 229 rfl))) (mvT hZ (own_w hw 229 rfl)) (mvT hZ (own_w hw 228 rfl)) (by decide) (backOf (W := 0) (rm_passed0_1 l Z a0 hw [] b53 T65.heap n0 (Nat.le_trans (Nat.le_trans (Nat.le_trans (Nat.le_trans (Nat.le_trans (Nat.le_trans (Nat.le_trans (Nat.le_trans (Nat.le_trans (Nat.le_trans (Nat.le_trans (Nat.le_trans Z0 E44.1) E45.1) E46.1) Kc47.1) Kc48.1) E49.1) E50.1) Kc51.1) Kc52.1) E53.1) Kc54.1) Kc65.1)  P65_1 P65_2 P65_3) hZ (own_w hw 230 rfl) (own_w hw 103 rfl) (by decide) (by decide)) q66a q66c (g := (mkF m 129 #[.val (.int p1), .val (.int p2), .val (.int (1 : Int32)), .val (.int (0 : Int32)), .val (.ref b44), .val (.ref b49), .val (.ref b53), .val (.int (1 : Int32)), .val (.int (1 : Int32))] [(.ref b53)])) rfl (by rw [hml]; rfl) (Steps.refl _) (argsL := []) (rest := []) (lenOf own_pd1 rfl) rfl (by show 2 * 0 + _ ≤ _; exact Nat.le_of_eq rfl) (hb hby at_129) (fun _ _ => ⟨rfl, rfl, (by decide : 23 + 0 ≤ _), (by decide : 99 + 0 ≤ _)⟩)
        dsimp only [Pt.U, Pt.locs, Pt.cells, Pt.slots] at X66 l66 y66 z66 st66 hQ66
        subst l66 y66 z66
        obtain ⟨rfl, Nq66, eq66⟩ := hQ66
        have N66 := Fr.app N65 Nq66
        refine own_tr st66 ?_
        show own_G p.tables e below _ (T66.setTop (mkF m 132 #[.val (.int p1), .val (.int p2), .val (.int (1 : Int32)), .val (.int (0 : Int32)), .val (.ref b44), .val (.ref b49), .val (.ref b53), .val (.int (1 : Int32)), .val (.int (1 : Int32))] [(.int (1 : Int32))]))
        refine own_st (fun _ kS => XS.iload X66.here hx rfl (hb hby at_132) rfl kS) ?_
        show own_G p.tables e below _ (T66.setTop (mkF m 134 #[.val (.int p1), .val (.int p2), .val (.int (1 : Int32)), .val (.int (0 : Int32)), .val (.ref b44), .val (.ref b49), .val (.ref b53), .val (.int (1 : Int32)), .val (.int (1 : Int32))] [(.int (1 : Int32)), (.int (1 : Int32))]))
        refine own_st (fun _ kS => XS.icmpNo X66.here hx rfl (hb hby at_134) rfl (teq (by decide : (1 : Int32) = (1 : Int32))).2 kS) ?_
        show own_G p.tables e below _ (T66.setTop (mkF m 137 #[.val (.int p1), .val (.int p2), .val (.int (1 : Int32)), .val (.int (0 : Int32)), .val (.ref b44), .val (.ref b49), .val (.ref b53), .val (.int (1 : Int32)), .val (.int (1 : Int32))] []))
        refine own_st (fun _ kS => XS.iconst X66.here hx rfl (hb hby at_137) kS) ?_
        refine own_st (fun _ kS => XS.goto X66.here hx rfl (pc0 := 138) (pc' := 142) rfl (hb hby at_138) (by decide) (by decide) kS) ?_
        show own_G p.tables e below _ (T66.setTop (mkF m 142 #[.val (.int p1), .val (.int p2), .val (.int (1 : Int32)), .val (.int (0 : Int32)), .val (.ref b44), .val (.ref b49), .val (.ref b53), .val (.int (1 : Int32)), .val (.int (1 : Int32))] [(.int (1 : Int32))]))
        exact own_retNW hS (own_le eq66 (Nat.le_trans (Nat.le_trans (Nat.le_trans (Nat.le_trans (Nat.le_trans (Nat.le_trans (Nat.le_trans (Nat.le_trans (Nat.le_trans (Nat.le_trans hk45 E46.1) Kc47.1) Kc48.1) E49.1) E50.1) Kc51.1) Kc52.1) E53.1) Kc54.1) Kc65.1)) X66 hx hlk (t := .boolean) hret (by simp) (hb hby at_142) (by decide) (by decide) (v' := (1 : Int32)) rfl (by rw [eq66]; exact ⟨rfl, N66⟩)
      · rw [hk64]
        show own_G p.tables e below _ (T55.setTop (mkF m 67 #[.val (.int p1), .val (.int p2), .val (.int (1 : Int32)), .val (.int (1 : Int32)), .val (.ref b44), .val (.ref b49), .val (.ref b53), .val (.int (1 : Int32)), .unset] []))
        refine own_st (fun _ kS => XS.iloadN X55.here hx rfl (hb hby at_67) rfl kS) ?_
        refine own_st (fun _ kS => XS.iconst X55.here hx rfl (hb hby at_68) kS) ?_
        show own_G p.tables e below _ (T55.setTop (mkF m 69 #[.val (.int p1), .val (.int p2), .val (.int (1 : Int32)), .val (.int (1 : Int32)), .val (.ref b44), .val (.ref b49), .val (.ref b53), .val (.int (1 : Int32)), .unset] [(.int (1 : Int32)), (.int (1 : Int32))]))
        refine own_st (fun _ kS => XS.icmpNo X55.here hx rfl (hb hby at_69) rfl (flt (by decide : ¬ ((1 : Int32) < (1 : Int32)))).1 kS) ?_
        show own_G p.tables e below _ (T55.setTop (mkF m 72 #[.val (.int p1), .val (.int p2), .val (.int (1 : Int32)), .val (.int (1 : Int32)), .val (.ref b44), .val (.ref b49), .val (.ref b53), .val (.int (1 : Int32)), .unset] []))
        refine own_st (fun _ kS => XS.aload X55.here hx rfl (hb hby at_72) rfl rfl kS) ?_
        refine own_st (fun _ kS => XS.aload X55.here hx rfl (hb hby at_74) rfl rfl kS) ?_
        show own_G p.tables e below _ (T55.setTop (mkF m 76 #[.val (.int p1), .val (.int p2), .val (.int (1 : Int32)), .val (.int (1 : Int32)), .val (.ref b44), .val (.ref b49), .val (.ref b53), .val (.int (1 : Int32)), .unset] [(.ref b49), (.ref b53)]))
        obtain ⟨cq67, kq67, q67a, q67b, q67c⟩ := isOf hZ eq55 P54_0
        obtain ⟨_, _, ⟨T67, L67, k67, n67⟩, -, X67, ⟨Lc67, hQ67, l67, y67, z67⟩, st67⟩ := X55.virtualBack hx (y := (⟨"com/example/cartouche/cartouche/checking/Summary", "count", "(Lcom/example/cartouche/cartouche/checking/Verdict;)V"⟩ : MethodName)) (z := (⟨"com/example/cartouche/cartouche/checking/Summary", "count", "(Lcom/example/cartouche/cartouche/checking/Verdict;)V"⟩ : MethodName)) hown (mvT hZ (own_w hw 237 rfl)) (mvT hZ (own_w hw 238 rfl)) (notFace_of_selects (args := #[]) (mvT hZ (own_w hw 240 rfl))) (mvT hZ (own_w hw 240 rfl)) (mvT hZ (own_w hw 239 rfl)) (by decide) (backOf (W := 0) (rm_count0_0 l Z a0 hw [] b53 b49 wL wE kE wD w_REQUIRED w_RECOMMENDED T54.heap n0 (Nat.le_trans (Nat.le_trans (Nat.le_trans (Nat.le_trans (Nat.le_trans (Nat.le_trans (Nat.le_trans (Nat.le_trans (Nat.le_trans (Nat.le_trans (Nat.le_trans Z0 E44.1) E45.1) E46.1) Kc47.1) Kc48.1) E49.1) E50.1) Kc51.1) Kc52.1) E53.1) Kc54.1) O54 P54_0 ge_b53 (Ne.symm ne_b49_b53) P54_1 P54_2 P54_3 ((Exa.ext E53 P52_0).keep Kc54) ((Fld.ext E53 P52_1).keep Kc54 (ninS ne_b49_b53 nin0)) E_L F_el R_E S_D S_REQUIRED S_RECOMMENDED) hZ (own_w hw 241 rfl) (own_w hw 103 rfl) (by decide) (by decide)) q67a q67c (g := (mkF m 76 #[.val (.int p1), .val (.int p2), .val (.int (1 : Int32)), .val (.int (1 : Int32)), .val (.ref b44), .val (.ref b49), .val (.ref b53), .val (.int (1 : Int32)), .unset] [(.ref b49), (.ref b53)])) rfl (by rw [hml]; rfl) (Steps.refl _) (argsL := [(.ref b49)]) (rest := []) (lenOf own_pd13 rfl) rfl (by show 2 * 0 + _ ≤ _; exact Nat.le_of_eq rfl) (hb hby at_76) (fun _ _ => ⟨rfl, eq55, (by decide : 15 + 8 ≤ _), (by decide : 70 + 29 ≤ _)⟩)
        dsimp only [Pt.U, Pt.locs, Pt.cells, Pt.slots] at X67 l67 y67 z67 st67 hQ67
        subst l67 y67 z67
        obtain ⟨rfl, Nq67, Kc67, P67_0, P67_1, P67_2, P67_3⟩ := hQ67
        have N67 := Fr.app N55 Nq67
        have O67 := O54.keep Kc67 (allS ge_b53 all0)
        refine own_tr st67 ?_
        show own_G p.tables e below _ (T67.setTop (mkF m 79 #[.val (.int p1), .val (.int p2), .val (.int (1 : Int32)), .val (.int (1 : Int32)), .val (.ref b44), .val (.ref b49), .val (.ref b53), .val (.int (1 : Int32)), .unset] []))
        refine own_st (fun _ kS => XS.iloadN X67.here hx rfl (hb hby at_79) rfl kS) ?_
        refine own_st (fun _ kS => XS.iconst X67.here hx rfl (hb hby at_80) kS) ?_
        show own_G p.tables e below _ (T67.setTop (mkF m 81 #[.val (.int p1), .val (.int p2), .val (.int (1 : Int32)), .val (.int (1 : Int32)), .val (.ref b44), .val (.ref b49), .val (.ref b53), .val (.int (1 : Int32)), .unset] [(.int (2 : Int32)), (.int (1 : Int32))]))
        refine own_st (fun _ kS => XS.icmpYes X67.here hx rfl (pc0 := 81) (pc' := 91) rfl (hb hby at_81) rfl (tlt (by decide : (1 : Int32) < (2 : Int32))).1 (by decide) (by decide) kS) ?_
        show own_G p.tables e below _ (T67.setTop (mkF m 91 #[.val (.int p1), .val (.int p2), .val (.int (1 : Int32)), .val (.int (1 : Int32)), .val (.ref b44), .val (.ref b49), .val (.ref b53), .val (.int (1 : Int32)), .unset] []))
        refine own_st (fun _ kS => XS.iloadN X67.here hx rfl (hb hby at_91) rfl kS) ?_
        refine own_st (fun _ kS => XS.iconst X67.here hx rfl (hb hby at_92) kS) ?_
        show own_G p.tables e below _ (T67.setTop (mkF m 93 #[.val (.int p1), .val (.int p2), .val (.int (1 : Int32)), .val (.int (1 : Int32)), .val (.ref b44), .val (.ref b49), .val (.ref b53), .val (.int (1 : Int32)), .unset] [(.int (1 : Int32)), (.int (1 : Int32))]))
        refine own_st (fun _ kS => XS.icmpNo X67.here hx rfl (hb hby at_93) rfl (flt (by decide : ¬ ((1 : Int32) < (1 : Int32)))).1 kS) ?_
        show own_G p.tables e below _ (T67.setTop (mkF m 96 #[.val (.int p1), .val (.int p2), .val (.int (1 : Int32)), .val (.int (1 : Int32)), .val (.ref b44), .val (.ref b49), .val (.ref b53), .val (.int (1 : Int32)), .unset] []))
        refine own_st (fun _ kS => XS.aload X67.here hx rfl (hb hby at_96) rfl rfl kS) ?_
        show own_G p.tables e below _ (T67.setTop (mkF m 98 #[.val (.int p1), .val (.int p2), .val (.int (1 : Int32)), .val (.int (1 : Int32)), .val (.ref b44), .val (.ref b49), .val (.ref b53), .val (.int (1 : Int32)), .unset] [(.ref b53)]))
        obtain ⟨cq68, kq68, q68a, q68b, q68c⟩ := isOf hZ rfl P67_0
        obtain ⟨_, _, ⟨T68, L68, k68, n68⟩, -, X68, ⟨Lc68, hQ68, l68, y68, z68⟩, st68⟩ := X67.virtualBack hx (y := (⟨"com/example/cartouche/cartouche/checking/Summary", "countUnreadable", "()V"⟩ : MethodName)) (z := (⟨"com/example/cartouche/cartouche/checking/Summary", "countUnreadable", "()V"⟩ : MethodName)) hown (mvT hZ (own_w hw 272 rfl)) (mvT hZ (own_w hw 273 rfl)) (notFace_of_selects (args := #[]) (mvT hZ (own_w hw 275 rfl))) (mvT hZ (own_w hw 275 rfl)) (mvT hZ (own_w hw 274 rfl)) (by decide) (backOf (W := 0) (rm_unread0_1 l Z a0 hw [] b53 T67.heap n0 (Nat.le_trans (Nat.le_trans (Nat.le_trans (Nat.le_trans (Nat.le_trans (Nat.le_trans (Nat.le_trans (Nat.le_trans (Nat.le_trans (Nat.le_trans (Nat.le_trans (Nat.le_trans Z0 E44.1) E45.1) E46.1) Kc47.1) Kc48.1) E49.1) E50.1) Kc51.1) Kc52.1) E53.1) Kc54.1) Kc67.1)  P67_0 ge_b53 P67_1 P67_2 P67_3) hZ (own_w hw 276 rfl) (own_w hw 103 rfl) (by decide) (by decide)) q68a q68c (g := (mkF m 98 #[.val (.int p1), .val (.int p2), .val (.int (1 : Int32)), .val (.int (1 : Int32)), .val (.ref b44), .val (.ref b49), .val (.ref b53), .val (.int (1 : Int32)), .unset] [(.ref b53)])) rfl (by rw [hml]; rfl) (Steps.refl _) (argsL := []) (rest := []) (lenOf own_pd0 rfl) rfl (by show 2 * 0 + _ ≤ _; exact Nat.le_of_eq rfl) (hb hby at_98) (fun _ _ => ⟨rfl, rfl, (by decide : 23 + 0 ≤ _), (by decide : 99 + 0 ≤ _)⟩)
        dsimp only [Pt.U, Pt.locs, Pt.cells, Pt.slots] at X68 l68 y68 z68 st68 hQ68
        subst l68 y68 z68
        obtain ⟨rfl, Nq68, Kc68, P68_0, P68_1, P68_2, P68_3⟩ := hQ68
        have N68 := Fr.app N67 Nq68
        have O68 := O67.keep Kc68 (allS ge_b53 all0)
        refine own_tr st68 ?_
        show own_G p.tables e below _ (T68.setTop (mkF m 101 #[.val (.int p1), .val (.int p2), .val (.int (1 : Int32)), .val (.int (1 : Int32)), .val (.ref b44), .val (.ref b49), .val (.ref b53), .val (.int (1 : Int32)), .unset] []))
        refine own_st (fun _ kS => XS.iloadN X68.here hx rfl (hb hby at_101) rfl kS) ?_
        refine own_st (fun _ kS => XS.iconst X68.here hx rfl (hb hby at_102) kS) ?_
        show own_G p.tables e below _ (T68.setTop (mkF m 103 #[.val (.int p1), .val (.int p2), .val (.int (1 : Int32)), .val (.int (1 : Int32)), .val (.ref b44), .val (.ref b49), .val (.ref b53), .val (.int (1 : Int32)), .unset] [(.int (2 : Int32)), (.int (1 : Int32))]))
        refine own_st (fun _ kS => XS.icmpYes X68.here hx rfl (pc0 := 103) (pc' := 111) rfl (hb hby at_103) rfl (tlt (by decide : (1 : Int32) < (2 : Int32))).1 (by decide) (by decide) kS) ?_
        show own_G p.tables e below _ (T68.setTop (mkF m 111 #[.val (.int p1), .val (.int p2), .val (.int (1 : Int32)), .val (.int (1 : Int32)), .val (.ref b44), .val (.ref b49), .val (.ref b53), .val (.int (1 : Int32)), .unset] []))
        refine own_st (fun _ kS => XS.iloadN X68.here hx rfl (hb hby at_111) rfl kS) ?_
        show own_G p.tables e below _ (T68.setTop (mkF m 112 #[.val (.int p1), .val (.int p2), .val (.int (1 : Int32)), .val (.int (1 : Int32)), .val (.ref b44), .val (.ref b49), .val (.ref b53), .val (.int (1 : Int32)), .unset] [(.int (1 : Int32))]))
        refine own_st (fun _ kS => XS.ifYes X68.here hx rfl (pc0 := 112) (pc' := 119) rfl (hb hby at_112) rfl ((if0 _ _).trans (feq (by decide : ¬ ((1 : Int32) = (0 : Int32)))).2) (by decide) (by decide) kS) ?_
        show own_G p.tables e below _ (T68.setTop (mkF m 119 #[.val (.int p1), .val (.int p2), .val (.int (1 : Int32)), .val (.int (1 : Int32)), .val (.ref b44), .val (.ref b49), .val (.ref b53), .val (.int (1 : Int32)), .unset] []))
        refine own_st (fun _ kS => XS.iconst X68.here hx rfl (hb hby at_119) kS) ?_
        show own_G p.tables e below _ (T68.setTop (mkF m 120 #[.val (.int p1), .val (.int p2), .val (.int (1 : Int32)), .val (.int (1 : Int32)), .val (.ref b44), .val (.ref b49), .val (.ref b53), .val (.int (1 : Int32)), .unset] [(.int (0 : Int32))]))
        refine own_st (fun _ kS => XS.istore X68.here hx rfl (hb hby at_120) rfl (l' := #[.val (.int p1), .val (.int p2), .val (.int (1 : Int32)), .val (.int (1 : Int32)), .val (.ref b44), .val (.ref b49), .val (.ref b53), .val (.int (1 : Int32)), .val (.int (0 : Int32))]) rfl kS) ?_
        show own_G p.tables e below _ (T68.setTop (mkF m 122 #[.val (.int p1), .val (.int p2), .val (.int (1 : Int32)), .val (.int (1 : Int32)), .val (.ref b44), .val (.ref b49), .val (.ref b53), .val (.int (1 : Int32)), .val (.int (0 : Int32))] []))
        refine own_st (fun _ kS => XS.iload X68.here hx rfl (hb hby at_122) rfl kS) ?_
        show own_G p.tables e below _ (T68.setTop (mkF m 124 #[.val (.int p1), .val (.int p2), .val (.int (1 : Int32)), .val (.int (1 : Int32)), .val (.ref b44), .val (.ref b49), .val (.ref b53), .val (.int (1 : Int32)), .val (.int (0 : Int32))] [(.int (1 : Int32))]))
        refine own_st (fun _ kS => XS.ifNo X68.here hx rfl (hb hby at_124) rfl ((if0 _ _).trans (feq (by decide : ¬ ((1 : Int32) = (0 : Int32)))).1) kS) ?_
        show own_G p.tables e below _ (T68.setTop (mkF m 127 #[.val (.int p1), .val (.int p2), .val (.int (1 : Int32)), .val (.int (1 : Int32)), .val (.ref b44), .val (.ref b49), .val (.ref b53), .val (.int (1 : Int32)), .val (.int (0 : Int32))] []))
        refine own_st (fun _ kS => XS.aload X68.here hx rfl (hb hby at_127) rfl rfl kS) ?_
        show own_G p.tables e below _ (T68.setTop (mkF m 129 #[.val (.int p1), .val (.int p2), .val (.int (1 : Int32)), .val (.int (1 : Int32)), .val (.ref b44), .val (.ref b49), .val (.ref b53), .val (.int (1 : Int32)), .val (.int (0 : Int32))] [(.ref b53)]))
        obtain ⟨cq69, kq69, q69a, q69b, q69c⟩ := isOf hZ rfl P68_0
        obtain ⟨_, _, ⟨T69, L69, k69, n69⟩, -, X69, ⟨Lc69, hQ69, l69, y69, z69⟩, st69⟩ := X68.virtualBack hx (y := (⟨"com/example/cartouche/cartouche/checking/Summary", "passed", "()Z"⟩ : MethodName)) (z := (⟨"com/example/cartouche/cartouche/checking/Summary", "passed", "()Z"⟩ : MethodName)) hown (mvT hZ (own_w hw 226 rfl)) (mvT hZ (own_w hw 227 rfl)) (notFace_of_selects (args := #[]) (mvT hZ (own_w hw 229 rfl))) (mvT hZ (own_w hw 229 rfl)) (mvT hZ (own_w hw 228 rfl)) (by decide) (backOf (W := 0) (rm_passed1_1 l Z a0 hw [] b53 T68.heap n0 (Nat.le_trans (Nat.le_trans (Nat.le_trans (Nat.le_trans (Nat.le_trans (Nat.le_trans (Nat.le_trans (Nat.le_trans (Nat.le_trans (Nat.le_trans (Nat.le_trans (Nat.le_trans (Nat.le_trans Z0 E44.1) E45.1) E46.1) Kc47.1) Kc48.1) E49.1) E50.1) Kc51.1) Kc52.1) E53.1) Kc54.1) Kc67.1) Kc68.1)  P68_1) hZ (own_w hw 230 rfl) (own_w hw 103 rfl) (by decide) (by decide)) q69a q69c (g := (mkF m 129 #[.val (.int p1), .val (.int p2), .val (.int (1 : Int32)), .val (.int (1 : Int32)), .val (.ref b44), .val (.ref b49), .val (.ref b53), .val (.int (1 : Int32)), .val (.int (0 : Int32))] [(.ref b53)])) rfl (by rw [hml]; rfl) (Steps.refl _) (argsL := []) (rest := []) (lenOf own_pd1 rfl) rfl (by show 2 * 0 + _ ≤ _; exact Nat.le_of_eq rfl) (hb hby at_129) (fun _ _ => ⟨rfl, rfl, (by decide : 23 + 0 ≤ _), (by decide : 99 + 0 ≤ _)⟩)
        dsimp only [Pt.U, Pt.locs, Pt.cells, Pt.slots] at X69 l69 y69 z69 st69 hQ69
        subst l69 y69 z69
        obtain ⟨rfl, Nq69, eq69⟩ := hQ69
        have N69 := Fr.app N68 Nq69
        refine own_tr st69 ?_
        show own_G p.tables e below _ (T69.setTop (mkF m 132 #[.val (.int p1), .val (.int p2), .val (.int (1 : Int32)), .val (.int (1 : Int32)), .val (.ref b44), .val (.ref b49), .val (.ref b53), .val (.int (1 : Int32)), .val (.int (0 : Int32))] [(.int (0 : Int32))]))
        refine own_st (fun _ kS => XS.iload X69.here hx rfl (hb hby at_132) rfl kS) ?_
        show own_G p.tables e below _ (T69.setTop (mkF m 134 #[.val (.int p1), .val (.int p2), .val (.int (1 : Int32)), .val (.int (1 : Int32)), .val (.ref b44), .val (.ref b49), .val (.ref b53), .val (.int (1 : Int32)), .val (.int (0 : Int32))] [(.int (0 : Int32)), (.int (0 : Int32))]))
        refine own_st (fun _ kS => XS.icmpNo X69.here hx rfl (hb hby at_134) rfl (teq (by decide : (0 : Int32) = (0 : Int32))).2 kS) ?_
        show own_G p.tables e below _ (T69.setTop (mkF m 137 #[.val (.int p1), .val (.int p2), .val (.int (1 : Int32)), .val (.int (1 : Int32)), .val (.ref b44), .val (.ref b49), .val (.ref b53), .val (.int (1 : Int32)), .val (.int (0 : Int32))] []))
        refine own_st (fun _ kS => XS.iconst X69.here hx rfl (hb hby at_137) kS) ?_
        refine own_st (fun _ kS => XS.goto X69.here hx rfl (pc0 := 138) (pc' := 142) rfl (hb hby at_138) (by decide) (by decide) kS) ?_
        show own_G p.tables e below _ (T69.setTop (mkF m 142 #[.val (.int p1), .val (.int p2), .val (.int (1 : Int32)), .val (.int (1 : Int32)), .val (.ref b44), .val (.ref b49), .val (.ref b53), .val (.int (1 : Int32)), .val (.int (0 : Int32))] [(.int (1 : Int32))]))
        exact own_retNW hS (own_le eq69 (Nat.le_trans (Nat.le_trans (Nat.le_trans (Nat.le_trans (Nat.le_trans (Nat.le_trans (Nat.le_trans (Nat.le_trans (Nat.le_trans (Nat.le_trans (Nat.le_trans hk45 E46.1) Kc47.1) Kc48.1) E49.1) E50.1) Kc51.1) Kc52.1) E53.1) Kc54.1) Kc67.1) Kc68.1)) X69 hx hlk (t := .boolean) hret (by simp) (hb hby at_142) (by decide) (by decide) (v' := (1 : Int32)) rfl (by rw [eq69]; exact ⟨rfl, N69⟩)
      · rw [hk64]
        show own_G p.tables e below _ (T55.setTop (mkF m 67 #[.val (.int p1), .val (.int p2), .val (.int (1 : Int32)), .val (.int (2 : Int32)), .val (.ref b44), .val (.ref b49), .val (.ref b53), .val (.int (1 : Int32)), .unset] []))
        refine own_st (fun _ kS => XS.iloadN X55.here hx rfl (hb hby at_67) rfl kS) ?_
        refine own_st (fun _ kS => XS.iconst X55.here hx rfl (hb hby at_68) kS) ?_
        show own_G p.tables e below _ (T55.setTop (mkF m 69 #[.val (.int p1), .val (.int p2), .val (.int (1 : Int32)), .val (.int (2 : Int32)), .val (.ref b44), .val (.ref b49), .val (.ref b53), .val (.int (1 : Int32)), .unset] [(.int (1 : Int32)), (.int (1 : Int32))]))
        refine own_st (fun _ kS => XS.icmpNo X55.here hx rfl (hb hby at_69) rfl (flt (by decide : ¬ ((1 : Int32) < (1 : Int32)))).1 kS) ?_
        show own_G p.tables e below _ (T55.setTop (mkF m 72 #[.val (.int p1), .val (.int p2), .val (.int (1 : Int32)), .val (.int (2 : Int32)), .val (.ref b44), .val (.ref b49), .val (.ref b53), .val (.int (1 : Int32)), .unset] []))
        refine own_st (fun _ kS => XS.aload X55.here hx rfl (hb hby at_72) rfl rfl kS) ?_
        refine own_st (fun _ kS => XS.aload X55.here hx rfl (hb hby at_74) rfl rfl kS) ?_
        show own_G p.tables e below _ (T55.setTop (mkF m 76 #[.val (.int p1), .val (.int p2), .val (.int (1 : Int32)), .val (.int (2 : Int32)), .val (.ref b44), .val (.ref b49), .val (.ref b53), .val (.int (1 : Int32)), .unset] [(.ref b49), (.ref b53)]))
        obtain ⟨cq70, kq70, q70a, q70b, q70c⟩ := isOf hZ eq55 P54_0
        obtain ⟨_, _, ⟨T70, L70, k70, n70⟩, -, X70, ⟨Lc70, hQ70, l70, y70, z70⟩, st70⟩ := X55.virtualBack hx (y := (⟨"com/example/cartouche/cartouche/checking/Summary", "count", "(Lcom/example/cartouche/cartouche/checking/Verdict;)V"⟩ : MethodName)) (z := (⟨"com/example/cartouche/cartouche/checking/Summary", "count", "(Lcom/example/cartouche/cartouche/checking/Verdict;)V"⟩ : MethodName)) hown (mvT hZ (own_w hw 237 rfl)) (mvT hZ (own_w hw 238 rfl)) (notFace_of_selects (args := #[]) (mvT hZ (own_w hw 240 rfl))) (mvT hZ (own_w hw 240 rfl)) (mvT hZ (own_w hw 239 rfl)) (by decide) (backOf (W := 0) (rm_count0_0 l Z a0 hw [] b53 b49 wL wE kE wD w_REQUIRED w_RECOMMENDED T54.heap n0 (Nat.le_trans (Nat.le_trans (Nat.le_trans (Nat.le_trans (Nat.le_trans (Nat.le_trans (Nat.le_trans (Nat.le_trans (Nat.le_trans (Nat.le_trans (Nat.le_trans Z0 E44.1) E45.1) E46.1) Kc47.1) Kc48.1) E49.1) E50.1) Kc51.1) Kc52.1) E53.1) Kc54.1) O54 P54_0 ge_b53 (Ne.symm ne_b49_b53) P54_1 P54_2 P54_3 ((Exa.ext E53 P52_0).keep Kc54) ((Fld.ext E53 P52_1).keep Kc54 (ninS ne_b49_b53 nin0)) E_L F_el R_E S_D S_REQUIRED S_RECOMMENDED) hZ (own_w hw 241 rfl) (own_w hw 103 rfl) (by decide) (by decide)) q70a q70c (g := (mkF m 76 #[.val (.int p1), .val (.int p2), .val (.int (1 : Int32)), .val (.int (2 : Int32)), .val (.ref b44), .val (.ref b49), .val (.ref b53), .val (.int (1 : Int32)), .unset] [(.ref b49), (.ref b53)])) rfl (by rw [hml]; rfl) (Steps.refl _) (argsL := [(.ref b49)]) (rest := []) (lenOf own_pd13 rfl) rfl (by show 2 * 0 + _ ≤ _; exact Nat.le_of_eq rfl) (hb hby at_76) (fun _ _ => ⟨rfl, eq55, (by decide : 15 + 8 ≤ _), (by decide : 70 + 29 ≤ _)⟩)
        dsimp only [Pt.U, Pt.locs, Pt.cells, Pt.slots] at X70 l70 y70 z70 st70 hQ70
        subst l70 y70 z70
        obtain ⟨rfl, Nq70, Kc70, P70_0, P70_1, P70_2, P70_3⟩ := hQ70
        have N70 := Fr.app N55 Nq70
        have O70 := O54.keep Kc70 (allS ge_b53 all0)
        refine own_tr st70 ?_
        show own_G p.tables e below _ (T70.setTop (mkF m 79 #[.val (.int p1), .val (.int p2), .val (.int (1 : Int32)), .val (.int (2 : Int32)), .val (.ref b44), .val (.ref b49), .val (.ref b53), .val (.int (1 : Int32)), .unset] []))
        refine own_st (fun _ kS => XS.iloadN X70.here hx rfl (hb hby at_79) rfl kS) ?_
        refine own_st (fun _ kS => XS.iconst X70.here hx rfl (hb hby at_80) kS) ?_
        show own_G p.tables e below _ (T70.setTop (mkF m 81 #[.val (.int p1), .val (.int p2), .val (.int (1 : Int32)), .val (.int (2 : Int32)), .val (.ref b44), .val (.ref b49), .val (.ref b53), .val (.int (1 : Int32)), .unset] [(.int (2 : Int32)), (.int (1 : Int32))]))
        refine own_st (fun _ kS => XS.icmpYes X70.here hx rfl (pc0 := 81) (pc' := 91) rfl (hb hby at_81) rfl (tlt (by decide : (1 : Int32) < (2 : Int32))).1 (by decide) (by decide) kS) ?_
        show own_G p.tables e below _ (T70.setTop (mkF m 91 #[.val (.int p1), .val (.int p2), .val (.int (1 : Int32)), .val (.int (2 : Int32)), .val (.ref b44), .val (.ref b49), .val (.ref b53), .val (.int (1 : Int32)), .unset] []))
        refine own_st (fun _ kS => XS.iloadN X70.here hx rfl (hb hby at_91) rfl kS) ?_
        refine own_st (fun _ kS => XS.iconst X70.here hx rfl (hb hby at_92) kS) ?_
        show own_G p.tables e below _ (T70.setTop (mkF m 93 #[.val (.int p1), .val (.int p2), .val (.int (1 : Int32)), .val (.int (2 : Int32)), .val (.ref b44), .val (.ref b49), .val (.ref b53), .val (.int (1 : Int32)), .unset] [(.int (1 : Int32)), (.int (2 : Int32))]))
        refine own_st (fun _ kS => XS.icmpNo X70.here hx rfl (hb hby at_93) rfl (flt (by decide : ¬ ((2 : Int32) < (1 : Int32)))).1 kS) ?_
        show own_G p.tables e below _ (T70.setTop (mkF m 96 #[.val (.int p1), .val (.int p2), .val (.int (1 : Int32)), .val (.int (2 : Int32)), .val (.ref b44), .val (.ref b49), .val (.ref b53), .val (.int (1 : Int32)), .unset] []))
        refine own_st (fun _ kS => XS.aload X70.here hx rfl (hb hby at_96) rfl rfl kS) ?_
        show own_G p.tables e below _ (T70.setTop (mkF m 98 #[.val (.int p1), .val (.int p2), .val (.int (1 : Int32)), .val (.int (2 : Int32)), .val (.ref b44), .val (.ref b49), .val (.ref b53), .val (.int (1 : Int32)), .unset] [(.ref b53)]))
        obtain ⟨cq71, kq71, q71a, q71b, q71c⟩ := isOf hZ rfl P70_0
        obtain ⟨_, _, ⟨T71, L71, k71, n71⟩, -, X71, ⟨Lc71, hQ71, l71, y71, z71⟩, st71⟩ := X70.virtualBack hx (y := (⟨"com/example/cartouche/cartouche/checking/Summary", "countUnreadable", "()V"⟩ : MethodName)) (z := (⟨"com/example/cartouche/cartouche/checking/Summary", "countUnreadable", "()V"⟩ : MethodName)) hown (mvT hZ (own_w hw 272 rfl)) (mvT hZ (own_w hw 273 rfl)) (notFace_of_selects (args := #[]) (mvT hZ (own_w hw 275 rfl))) (mvT hZ (own_w hw 275 rfl)) (mvT hZ (own_w hw 274 rfl)) (by decide) (backOf (W := 0) (rm_unread0_1 l Z a0 hw [] b53 T70.heap n0 (Nat.le_trans (Nat.le_trans (Nat.le_trans (Nat.le_trans (Nat.le_trans (Nat.le_trans (Nat.le_trans (Nat.le_trans (Nat.le_trans (Nat.le_trans (Nat.le_trans (Nat.le_trans Z0 E44.1) E45.1) E46.1) Kc47.1) Kc48.1) E49.1) E50.1) Kc51.1) Kc52.1) E53.1) Kc54.1) Kc70.1)  P70_0 ge_b53 P70_1 P70_2 P70_3) hZ (own_w hw 276 rfl) (own_w hw 103 rfl) (by decide) (by decide)) q71a q71c (g := (mkF m 98 #[.val (.int p1), .val (.int p2), .val (.int (1 : Int32)), .val (.int (2 : Int32)), .val (.ref b44), .val (.ref b49), .val (.ref b53), .val (.int (1 : Int32)), .unset] [(.ref b53)])) rfl (by rw [hml]; rfl) (Steps.refl _) (argsL := []) (rest := []) (lenOf own_pd0 rfl) rfl (by show 2 * 0 + _ ≤ _; exact Nat.le_of_eq rfl) (hb hby at_98) (fun _ _ => ⟨rfl, rfl, (by decide : 23 + 0 ≤ _), (by decide : 99 + 0 ≤ _)⟩)
        dsimp only [Pt.U, Pt.locs, Pt.cells, Pt.slots] at X71 l71 y71 z71 st71 hQ71
        subst l71 y71 z71
        obtain ⟨rfl, Nq71, Kc71, P71_0, P71_1, P71_2, P71_3⟩ := hQ71
        have N71 := Fr.app N70 Nq71
        have O71 := O70.keep Kc71 (allS ge_b53 all0)
        refine own_tr st71 ?_
        show own_G p.tables e below _ (T71.setTop (mkF m 101 #[.val (.int p1), .val (.int p2), .val (.int (1 : Int32)), .val (.int (2 : Int32)), .val (.ref b44), .val (.ref b49), .val (.ref b53), .val (.int (1 : Int32)), .unset] []))
        refine own_st (fun _ kS => XS.iloadN X71.here hx rfl (hb hby at_101) rfl kS) ?_
        refine own_st (fun _ kS => XS.iconst X71.here hx rfl (hb hby at_102) kS) ?_
        show own_G p.tables e below _ (T71.setTop (mkF m 103 #[.val (.int p1), .val (.int p2), .val (.int (1 : Int32)), .val (.int (2 : Int32)), .val (.ref b44), .val (.ref b49), .val (.ref b53), .val (.int (1 : Int32)), .unset] [(.int (2 : Int32)), (.int (2 : Int32))]))
        refine own_st (fun _ kS => XS.icmpNo X71.here hx rfl (hb hby at_103) rfl (flt (by decide : ¬ ((2 : Int32) < (2 : Int32)))).1 kS) ?_
        show own_G p.tables e below _ (T71.setTop (mkF m 106 #[.val (.int p1), .val (.int p2), .val (.int (1 : Int32)), .val (.int (2 : Int32)), .val (.ref b44), .val (.ref b49), .val (.ref b53), .val (.int (1 : Int32)), .unset] []))
        refine own_st (fun _ kS => XS.aload X71.here hx rfl (hb hby at_106) rfl rfl kS) ?_
        show own_G p.tables e below _ (T71.setTop (mkF m 108 #[.val (.int p1), .val (.int p2), .val (.int (1 : Int32)), .val (.int (2 : Int32)), .val (.ref b44), .val (.ref b49), .val (.ref b53), .val (.int (1 : Int32)), .unset] [(.ref b53)]))
        obtain ⟨cq72, kq72, q72a, q72b, q72c⟩ := isOf hZ rfl P71_0
        obtain ⟨_, _, ⟨T72, L72, k72, n72⟩, -, X72, ⟨Lc72, hQ72, l72, y72, z72⟩, st72⟩ := X71.virtualBack hx (y := (⟨"com/example/cartouche/cartouche/checking/Summary", "countUnreadable", "()V"⟩ : MethodName)) (z := (⟨"com/example/cartouche/cartouche/checking/Summary", "countUnreadable", "()V"⟩ : MethodName)) hown (mvT hZ (own_w hw 272 rfl)) (mvT hZ (own_w hw 273 rfl)) (notFace_of_selects (args := #[]) (mvT hZ (own_w hw 275 rfl))) (mvT hZ (own_w hw 275 rfl)) (mvT hZ (own_w hw 274 rfl)) (by decide) (backOf (W := 0) (rm_unread1_1 l Z a0 hw [] b53 T71.heap n0 (Nat.le_trans (Nat.le_trans (Nat.le_trans (Nat.le_trans (Nat.le_trans (Nat.le_trans (Nat.le_trans (Nat.le_trans (Nat.le_trans (Nat.le_trans (Nat.le_trans (Nat.le_trans (Nat.le_trans Z0 E44.1) E45.1) E46.1) Kc47.1) Kc48.1) E49.1) E50.1) Kc51.1) Kc52.1) E53.1) Kc54.1) Kc70.1) Kc71.1)  P71_0 ge_b53 P71_1 P71_2 P71_3) hZ (own_w hw 276 rfl) (own_w hw 103 rfl) (by decide) (by decide)) q72a q72c (g := (mkF m 108 #[.val (.int p1), .val (.int p2), .val (.int (1 : Int32)), .val (.int (2 : Int32)), .val (.ref b44), .val (.ref b49), .val (.ref b53), .val (.int (1 : Int32)), .unset] [(.ref b53)])) rfl (by rw [hml]; rfl) (Steps.refl _) (argsL := []) (rest := []) (lenOf own_pd0 rfl) rfl (by show 2 * 0 + _ ≤ _; exact Nat.le_of_eq rfl) (hb hby at_108) (fun _ _ => ⟨rfl, rfl, (by decide : 23 + 0 ≤ _), (by decide : 99 + 0 ≤ _)⟩)
        dsimp only [Pt.U, Pt.locs, Pt.cells, Pt.slots] at X72 l72 y72 z72 st72 hQ72
        subst l72 y72 z72
        obtain ⟨rfl, Nq72, Kc72, P72_0, P72_1, P72_2, P72_3⟩ := hQ72
        have N72 := Fr.app N71 Nq72
        have O72 := O71.keep Kc72 (allS ge_b53 all0)
        refine own_tr st72 ?_
        show own_G p.tables e below _ (T72.setTop (mkF m 111 #[.val (.int p1), .val (.int p2), .val (.int (1 : Int32)), .val (.int (2 : Int32)), .val (.ref b44), .val (.ref b49), .val (.ref b53), .val (.int (1 : Int32)), .unset] []))
        refine own_st (fun _ kS => XS.iloadN X72.here hx rfl (hb hby at_111) rfl kS) ?_
        show own_G p.tables e below _ (T72.setTop (mkF m 112 #[.val (.int p1), .val (.int p2), .val (.int (1 : Int32)), .val (.int (2 : Int32)), .val (.ref b44), .val (.ref b49), .val (.ref b53), .val (.int (1 : Int32)), .unset] [(.int (2 : Int32))]))
        refine own_st (fun _ kS => XS.ifYes X72.here hx rfl (pc0 := 112) (pc' := 119) rfl (hb hby at_112) rfl ((if0 _ _).trans (feq (by decide : ¬ ((2 : Int32) = (0 : Int32)))).2) (by decide) (by decide) kS) ?_
        show own_G p.tables e below _ (T72.setTop (mkF m 119 #[.val (.int p1), .val (.int p2), .val (.int (1 : Int32)), .val (.int (2 : Int32)), .val (.ref b44), .val (.ref b49), .val (.ref b53), .val (.int (1 : Int32)), .unset] []))
        refine own_st (fun _ kS => XS.iconst X72.here hx rfl (hb hby at_119) kS) ?_
        show own_G p.tables e below _ (T72.setTop (mkF m 120 #[.val (.int p1), .val (.int p2), .val (.int (1 : Int32)), .val (.int (2 : Int32)), .val (.ref b44), .val (.ref b49), .val (.ref b53), .val (.int (1 : Int32)), .unset] [(.int (0 : Int32))]))
        refine own_st (fun _ kS => XS.istore X72.here hx rfl (hb hby at_120) rfl (l' := #[.val (.int p1), .val (.int p2), .val (.int (1 : Int32)), .val (.int (2 : Int32)), .val (.ref b44), .val (.ref b49), .val (.ref b53), .val (.int (1 : Int32)), .val (.int (0 : Int32))]) rfl kS) ?_
        show own_G p.tables e below _ (T72.setTop (mkF m 122 #[.val (.int p1), .val (.int p2), .val (.int (1 : Int32)), .val (.int (2 : Int32)), .val (.ref b44), .val (.ref b49), .val (.ref b53), .val (.int (1 : Int32)), .val (.int (0 : Int32))] []))
        refine own_st (fun _ kS => XS.iload X72.here hx rfl (hb hby at_122) rfl kS) ?_
        show own_G p.tables e below _ (T72.setTop (mkF m 124 #[.val (.int p1), .val (.int p2), .val (.int (1 : Int32)), .val (.int (2 : Int32)), .val (.ref b44), .val (.ref b49), .val (.ref b53), .val (.int (1 : Int32)), .val (.int (0 : Int32))] [(.int (1 : Int32))]))
        refine own_st (fun _ kS => XS.ifNo X72.here hx rfl (hb hby at_124) rfl ((if0 _ _).trans (feq (by decide : ¬ ((1 : Int32) = (0 : Int32)))).1) kS) ?_
        show own_G p.tables e below _ (T72.setTop (mkF m 127 #[.val (.int p1), .val (.int p2), .val (.int (1 : Int32)), .val (.int (2 : Int32)), .val (.ref b44), .val (.ref b49), .val (.ref b53), .val (.int (1 : Int32)), .val (.int (0 : Int32))] []))
        refine own_st (fun _ kS => XS.aload X72.here hx rfl (hb hby at_127) rfl rfl kS) ?_
        show own_G p.tables e below _ (T72.setTop (mkF m 129 #[.val (.int p1), .val (.int p2), .val (.int (1 : Int32)), .val (.int (2 : Int32)), .val (.ref b44), .val (.ref b49), .val (.ref b53), .val (.int (1 : Int32)), .val (.int (0 : Int32))] [(.ref b53)]))
        obtain ⟨cq73, kq73, q73a, q73b, q73c⟩ := isOf hZ rfl P72_0
        obtain ⟨_, _, ⟨T73, L73, k73, n73⟩, -, X73, ⟨Lc73, hQ73, l73, y73, z73⟩, st73⟩ := X72.virtualBack hx (y := (⟨"com/example/cartouche/cartouche/checking/Summary", "passed", "()Z"⟩ : MethodName)) (z := (⟨"com/example/cartouche/cartouche/checking/Summary", "passed", "()Z"⟩ : MethodName)) hown (mvT hZ (own_w hw 226 rfl)) (mvT hZ (own_w hw 227 rfl)) (notFace_of_selects (args := #[]) (mvT hZ (own_w hw 229 rfl))) (mvT hZ (own_w hw 229 rfl)) (mvT hZ (own_w hw 228 rfl)) (by decide) (backOf (W := 0) (rm_passed2_1 l Z a0 hw [] b53 T72.heap n0 (Nat.le_trans (Nat.le_trans (Nat.le_trans (Nat.le_trans (Nat.le_trans (Nat.le_trans (Nat.le_trans (Nat.le_trans (Nat.le_trans (Nat.le_trans (Nat.le_trans (Nat.le_trans (Nat.le_trans (Nat.le_trans Z0 E44.1) E45.1) E46.1) Kc47.1) Kc48.1) E49.1) E50.1) Kc51.1) Kc52.1) E53.1) Kc54.1) Kc70.1) Kc71.1) Kc72.1)  P72_1) hZ (own_w hw 230 rfl) (own_w hw 103 rfl) (by decide) (by decide)) q73a q73c (g := (mkF m 129 #[.val (.int p1), .val (.int p2), .val (.int (1 : Int32)), .val (.int (2 : Int32)), .val (.ref b44), .val (.ref b49), .val (.ref b53), .val (.int (1 : Int32)), .val (.int (0 : Int32))] [(.ref b53)])) rfl (by rw [hml]; rfl) (Steps.refl _) (argsL := []) (rest := []) (lenOf own_pd1 rfl) rfl (by show 2 * 0 + _ ≤ _; exact Nat.le_of_eq rfl) (hb hby at_129) (fun _ _ => ⟨rfl, rfl, (by decide : 23 + 0 ≤ _), (by decide : 99 + 0 ≤ _)⟩)
        dsimp only [Pt.U, Pt.locs, Pt.cells, Pt.slots] at X73 l73 y73 z73 st73 hQ73
        subst l73 y73 z73
        obtain ⟨rfl, Nq73, eq73⟩ := hQ73
        have N73 := Fr.app N72 Nq73
        refine own_tr st73 ?_
        show own_G p.tables e below _ (T73.setTop (mkF m 132 #[.val (.int p1), .val (.int p2), .val (.int (1 : Int32)), .val (.int (2 : Int32)), .val (.ref b44), .val (.ref b49), .val (.ref b53), .val (.int (1 : Int32)), .val (.int (0 : Int32))] [(.int (0 : Int32))]))
        refine own_st (fun _ kS => XS.iload X73.here hx rfl (hb hby at_132) rfl kS) ?_
        show own_G p.tables e below _ (T73.setTop (mkF m 134 #[.val (.int p1), .val (.int p2), .val (.int (1 : Int32)), .val (.int (2 : Int32)), .val (.ref b44), .val (.ref b49), .val (.ref b53), .val (.int (1 : Int32)), .val (.int (0 : Int32))] [(.int (0 : Int32)), (.int (0 : Int32))]))
        refine own_st (fun _ kS => XS.icmpNo X73.here hx rfl (hb hby at_134) rfl (teq (by decide : (0 : Int32) = (0 : Int32))).2 kS) ?_
        show own_G p.tables e below _ (T73.setTop (mkF m 137 #[.val (.int p1), .val (.int p2), .val (.int (1 : Int32)), .val (.int (2 : Int32)), .val (.ref b44), .val (.ref b49), .val (.ref b53), .val (.int (1 : Int32)), .val (.int (0 : Int32))] []))
        refine own_st (fun _ kS => XS.iconst X73.here hx rfl (hb hby at_137) kS) ?_
        refine own_st (fun _ kS => XS.goto X73.here hx rfl (pc0 := 138) (pc' := 142) rfl (hb hby at_138) (by decide) (by decide) kS) ?_
        show own_G p.tables e below _ (T73.setTop (mkF m 142 #[.val (.int p1), .val (.int p2), .val (.int (1 : Int32)), .val (.int (2 : Int32)), .val (.ref b44), .val (.ref b49), .val (.ref b53), .val (.int (1 : Int32)), .val (.int (0 : Int32))] [(.int (1 : Int32))]))
        exact own_retNW hS (own_le eq73 (Nat.le_trans (Nat.le_trans (Nat.le_trans (Nat.le_trans (Nat.le_trans (Nat.le_trans (Nat.le_trans (Nat.le_trans (Nat.le_trans (Nat.le_trans (Nat.le_trans (Nat.le_trans hk45 E46.1) Kc47.1) Kc48.1) E49.1) E50.1) Kc51.1) Kc52.1) E53.1) Kc54.1) Kc70.1) Kc71.1) Kc72.1)) X73 hx hlk (t := .boolean) hret (by simp) (hb hby at_142) (by decide) (by decide) (v' := (1 : Int32)) rfl (by rw [eq73]; exact ⟨rfl, N73⟩)
    · rw [hk56]
      show own_G p.tables e below _ (T55.setTop (mkF m 67 #[.val (.int p1), .val (.int p2), .val (.int (2 : Int32)), .val (.int ((p2 &&& (2147483647 : Int32)) % (3 : Int32))), .val (.ref b44), .val (.ref b49), .val (.ref b53), .val (.int (1 : Int32)), .unset] []))
      rcases own_mod3 p2 with hk74 | hk74 | hk74
      · rw [hk74]
        show own_G p.tables e below _ (T55.setTop (mkF m 67 #[.val (.int p1), .val (.int p2), .val (.int (2 : Int32)), .val (.int (0 : Int32)), .val (.ref b44), .val (.ref b49), .val (.ref b53), .val (.int (1 : Int32)), .unset] []))
        refine own_st (fun _ kS => XS.iloadN X55.here hx rfl (hb hby at_67) rfl kS) ?_
        refine own_st (fun _ kS => XS.iconst X55.here hx rfl (hb hby at_68) kS) ?_
        show own_G p.tables e below _ (T55.setTop (mkF m 69 #[.val (.int p1), .val (.int p2), .val (.int (2 : Int32)), .val (.int (0 : Int32)), .val (.ref b44), .val (.ref b49), .val (.ref b53), .val (.int (1 : Int32)), .unset] [(.int (1 : Int32)), (.int (2 : Int32))]))
        refine own_st (fun _ kS => XS.icmpNo X55.here hx rfl (hb hby at_69) rfl (flt (by decide : ¬ ((2 : Int32) < (1 : Int32)))).1 kS) ?_
        show own_G p.tables e below _ (T55.setTop (mkF m 72 #[.val (.int p1), .val (.int p2), .val (.int (2 : Int32)), .val (.int (0 : Int32)), .val (.ref b44), .val (.ref b49), .val (.ref b53), .val (.int (1 : Int32)), .unset] []))
        refine own_st (fun _ kS => XS.aload X55.here hx rfl (hb hby at_72) rfl rfl kS) ?_
        refine own_st (fun _ kS => XS.aload X55.here hx rfl (hb hby at_74) rfl rfl kS) ?_
        show own_G p.tables e below _ (T55.setTop (mkF m 76 #[.val (.int p1), .val (.int p2), .val (.int (2 : Int32)), .val (.int (0 : Int32)), .val (.ref b44), .val (.ref b49), .val (.ref b53), .val (.int (1 : Int32)), .unset] [(.ref b49), (.ref b53)]))
        obtain ⟨cq75, kq75, q75a, q75b, q75c⟩ := isOf hZ eq55 P54_0
        obtain ⟨_, _, ⟨T75, L75, k75, n75⟩, -, X75, ⟨Lc75, hQ75, l75, y75, z75⟩, st75⟩ := X55.virtualBack hx (y := (⟨"com/example/cartouche/cartouche/checking/Summary", "count", "(Lcom/example/cartouche/cartouche/checking/Verdict;)V"⟩ : MethodName)) (z := (⟨"com/example/cartouche/cartouche/checking/Summary", "count", "(Lcom/example/cartouche/cartouche/checking/Verdict;)V"⟩ : MethodName)) hown (mvT hZ (own_w hw 237 rfl)) (mvT hZ (own_w hw 238 rfl)) (notFace_of_selects (args := #[]) (mvT hZ (own_w hw 240 rfl))) (mvT hZ (own_w hw 240 rfl)) (mvT hZ (own_w hw 239 rfl)) (by decide) (backOf (W := 0) (rm_count0_0 l Z a0 hw [] b53 b49 wL wE kE wD w_REQUIRED w_RECOMMENDED T54.heap n0 (Nat.le_trans (Nat.le_trans (Nat.le_trans (Nat.le_trans (Nat.le_trans (Nat.le_trans (Nat.le_trans (Nat.le_trans (Nat.le_trans (Nat.le_trans (Nat.le_trans Z0 E44.1) E45.1) E46.1) Kc47.1) Kc48.1) E49.1) E50.1) Kc51.1) Kc52.1) E53.1) Kc54.1) O54 P54_0 ge_b53 (Ne.symm ne_b49_b53) P54_1 P54_2 P54_3 ((Exa.ext E53 P52_0).keep Kc54) ((Fld.ext E53 P52_1).keep Kc54 (ninS ne_b49_b53 nin0)) E_L F_el R_E S_D S_REQUIRED S_RECOMMENDED) hZ (own_w hw 241 rfl) (own_w hw 103 rfl) (by decide) (by decide)) q75a q75c (g := (mkF m 76 #[.val (.int p1), .val (.int p2), .val (.int (2 : Int32)), .val (.int (0 : Int32)), .val (.ref b44), .val (.ref b49), .val (.ref b53), .val (.int (1 : Int32)), .unset] [(.ref b49), (.ref b53)])) rfl (by rw [hml]; rfl) (Steps.refl _) (argsL := [(.ref b49)]) (rest := []) (lenOf own_pd13 rfl) rfl (by show 2 * 0 + _ ≤ _; exact Nat.le_of_eq rfl) (hb hby at_76) (fun _ _ => ⟨rfl, eq55, (by decide : 15 + 8 ≤ _), (by decide : 70 + 29 ≤ _)⟩)
        dsimp only [Pt.U, Pt.locs, Pt.cells, Pt.slots] at X75 l75 y75 z75 st75 hQ75
        subst l75 y75 z75
        obtain ⟨rfl, Nq75, Kc75, P75_0, P75_1, P75_2, P75_3⟩ := hQ75
        have N75 := Fr.app N55 Nq75
        have O75 := O54.keep Kc75 (allS ge_b53 all0)
        refine own_tr st75 ?_
        show own_G p.tables e below _ (T75.setTop (mkF m 79 #[.val (.int p1), .val (.int p2), .val (.int (2 : Int32)), .val (.int (0 : Int32)), .val (.ref b44), .val (.ref b49), .val (.ref b53), .val (.int (1 : Int32)), .unset] []))
        refine own_st (fun _ kS => XS.iloadN X75.here hx rfl (hb hby at_79) rfl kS) ?_
        refine own_st (fun _ kS => XS.iconst X75.here hx rfl (hb hby at_80) kS) ?_
        show own_G p.tables e below _ (T75.setTop (mkF m 81 #[.val (.int p1), .val (.int p2), .val (.int (2 : Int32)), .val (.int (0 : Int32)), .val (.ref b44), .val (.ref b49), .val (.ref b53), .val (.int (1 : Int32)), .unset] [(.int (2 : Int32)), (.int (2 : Int32))]))
        refine own_st (fun _ kS => XS.icmpNo X75.here hx rfl (hb hby at_81) rfl (flt (by decide : ¬ ((2 : Int32) < (2 : Int32)))).1 kS) ?_
        show own_G p.tables e below _ (T75.setTop (mkF m 84 #[.val (.int p1), .val (.int p2), .val (.int (2 : Int32)), .val (.int (0 : Int32)), .val (.ref b44), .val (.ref b49), .val (.ref b53), .val (.int (1 : Int32)), .unset] []))
        refine own_st (fun _ kS => XS.aload X75.here hx rfl (hb hby at_84) rfl rfl kS) ?_
        refine own_st (fun _ kS => XS.aload X75.here hx rfl (hb hby at_86) rfl rfl kS) ?_
        show own_G p.tables e below _ (T75.setTop (mkF m 88 #[.val (.int p1), .val (.int p2), .val (.int (2 : Int32)), .val (.int (0 : Int32)), .val (.ref b44), .val (.ref b49), .val (.ref b53), .val (.int (1 : Int32)), .unset] [(.ref b49), (.ref b53)]))
        obtain ⟨cq76, kq76, q76a, q76b, q76c⟩ := isOf hZ rfl P75_0
        obtain ⟨_, _, ⟨T76, L76, k76, n76⟩, -, X76, ⟨Lc76, hQ76, l76, y76, z76⟩, st76⟩ := X75.virtualBack hx (y := (⟨"com/example/cartouche/cartouche/checking/Summary", "count", "(Lcom/example/cartouche/cartouche/checking/Verdict;)V"⟩ : MethodName)) (z := (⟨"com/example/cartouche/cartouche/checking/Summary", "count", "(Lcom/example/cartouche/cartouche/checking/Verdict;)V"⟩ : MethodName)) hown (mvT hZ (own_w hw 237 rfl)) (mvT hZ (own_w hw 238 rfl)) (notFace_of_selects (args := #[]) (mvT hZ (own_w hw 240 rfl))) (mvT hZ (own_w hw 240 rfl)) (mvT hZ (own_w hw 239 rfl)) (by decide) (backOf (W := 0) (rm_count0_1 l Z a0 hw [] b53 b49 wL wE kE wD w_REQUIRED w_RECOMMENDED T75.heap n0 (Nat.le_trans (Nat.le_trans (Nat.le_trans (Nat.le_trans (Nat.le_trans (Nat.le_trans (Nat.le_trans (Nat.le_trans (Nat.le_trans (Nat.le_trans (Nat.le_trans (Nat.le_trans Z0 E44.1) E45.1) E46.1) Kc47.1) Kc48.1) E49.1) E50.1) Kc51.1) Kc52.1) E53.1) Kc54.1) Kc75.1) O75 P75_0 ge_b53 (Ne.symm ne_b49_b53) P75_1 P75_2 P75_3 (((Exa.ext E53 P52_0).keep Kc54).keep Kc75) (((Fld.ext E53 P52_1).keep Kc54 (ninS ne_b49_b53 nin0)).keep Kc75 (ninS ne_b49_b53 nin0)) E_L F_el R_E S_D S_REQUIRED S_RECOMMENDED) hZ (own_w hw 241 rfl) (own_w hw 103 rfl) (by decide) (by decide)) q76a q76c (g := (mkF m 88 #[.val (.int p1), .val (.int p2), .val (.int (2 : Int32)), .val (.int (0 : Int32)), .val (.ref b44), .val (.ref b49), .val (.ref b53), .val (.int (1 : Int32)), .unset] [(.ref b49), (.ref b53)])) rfl (by rw [hml]; rfl) (Steps.refl _) (argsL := [(.ref b49)]) (rest := []) (lenOf own_pd13 rfl) rfl (by show 2 * 0 + _ ≤ _; exact Nat.le_of_eq rfl) (hb hby at_88) (fun _ _ => ⟨rfl, rfl, (by decide : 23 + 8 ≤ _), (by decide : 99 + 29 ≤ _)⟩)
        dsimp only [Pt.U, Pt.locs, Pt.cells, Pt.slots] at X76 l76 y76 z76 st76 hQ76
        subst l76 y76 z76
        obtain ⟨rfl, Nq76, Kc76, P76_0, P76_1, P76_2, P76_3⟩ := hQ76
        have N76 := Fr.app N75 Nq76
        have O76 := O75.keep Kc76 (allS ge_b53 all0)
        refine own_tr st76 ?_
        show own_G p.tables e below _ (T76.setTop (mkF m 91 #[.val (.int p1), .val (.int p2), .val (.int (2 : Int32)), .val (.int (0 : Int32)), .val (.ref b44), .val (.ref b49), .val (.ref b53), .val (.int (1 : Int32)), .unset] []))
        refine own_st (fun _ kS => XS.iloadN X76.here hx rfl (hb hby at_91) rfl kS) ?_
        refine own_st (fun _ kS => XS.iconst X76.here hx rfl (hb hby at_92) kS) ?_
        show own_G p.tables e below _ (T76.setTop (mkF m 93 #[.val (.int p1), .val (.int p2), .val (.int (2 : Int32)), .val (.int (0 : Int32)), .val (.ref b44), .val (.ref b49), .val (.ref b53), .val (.int (1 : Int32)), .unset] [(.int (1 : Int32)), (.int (0 : Int32))]))
        refine own_st (fun _ kS => XS.icmpYes X76.here hx rfl (pc0 := 93) (pc' := 101) rfl (hb hby at_93) rfl (tlt (by decide : (0 : Int32) < (1 : Int32))).1 (by decide) (by decide) kS) ?_
        show own_G p.tables e below _ (T76.setTop (mkF m 101 #[.val (.int p1), .val (.int p2), .val (.int (2 : Int32)), .val (.int (0 : Int32)), .val (.ref b44), .val (.ref b49), .val (.ref b53), .val (.int (1 : Int32)), .unset] []))
        refine own_st (fun _ kS => XS.iloadN X76.here hx rfl (hb hby at_101) rfl kS) ?_
        refine own_st (fun _ kS => XS.iconst X76.here hx rfl (hb hby at_102) kS) ?_
        show own_G p.tables e below _ (T76.setTop (mkF m 103 #[.val (.int p1), .val (.int p2), .val (.int (2 : Int32)), .val (.int (0 : Int32)), .val (.ref b44), .val (.ref b49), .val (.ref b53), .val (.int (1 : Int32)), .unset] [(.int (2 : Int32)), (.int (0 : Int32))]))
        refine own_st (fun _ kS => XS.icmpYes X76.here hx rfl (pc0 := 103) (pc' := 111) rfl (hb hby at_103) rfl (tlt (by decide : (0 : Int32) < (2 : Int32))).1 (by decide) (by decide) kS) ?_
        show own_G p.tables e below _ (T76.setTop (mkF m 111 #[.val (.int p1), .val (.int p2), .val (.int (2 : Int32)), .val (.int (0 : Int32)), .val (.ref b44), .val (.ref b49), .val (.ref b53), .val (.int (1 : Int32)), .unset] []))
        refine own_st (fun _ kS => XS.iloadN X76.here hx rfl (hb hby at_111) rfl kS) ?_
        show own_G p.tables e below _ (T76.setTop (mkF m 112 #[.val (.int p1), .val (.int p2), .val (.int (2 : Int32)), .val (.int (0 : Int32)), .val (.ref b44), .val (.ref b49), .val (.ref b53), .val (.int (1 : Int32)), .unset] [(.int (0 : Int32))]))
        refine own_st (fun _ kS => XS.ifNo X76.here hx rfl (hb hby at_112) rfl ((if0 _ _).trans (teq (by decide : (0 : Int32) = (0 : Int32))).2) kS) ?_
        show own_G p.tables e below _ (T76.setTop (mkF m 115 #[.val (.int p1), .val (.int p2), .val (.int (2 : Int32)), .val (.int (0 : Int32)), .val (.ref b44), .val (.ref b49), .val (.ref b53), .val (.int (1 : Int32)), .unset] []))
        refine own_st (fun _ kS => XS.iconst X76.here hx rfl (hb hby at_115) kS) ?_
        refine own_st (fun _ kS => XS.goto X76.here hx rfl (pc0 := 116) (pc' := 120) rfl (hb hby at_116) (by decide) (by decide) kS) ?_
        show own_G p.tables e below _ (T76.setTop (mkF m 120 #[.val (.int p1), .val (.int p2), .val (.int (2 : Int32)), .val (.int (0 : Int32)), .val (.ref b44), .val (.ref b49), .val (.ref b53), .val (.int (1 : Int32)), .unset] [(.int (1 : Int32))]))
        refine own_st (fun _ kS => XS.istore X76.here hx rfl (hb hby at_120) rfl (l' := #[.val (.int p1), .val (.int p2), .val (.int (2 : Int32)), .val (.int (0 : Int32)), .val (.ref b44), .val (.ref b49), .val (.ref b53), .val (.int (1 : Int32)), .val (.int (1 : Int32))]) rfl kS) ?_
        show own_G p.tables e below _ (T76.setTop (mkF m 122 #[.val (.int p1), .val (.int p2), .val (.int (2 : Int32)), .val (.int (0 : Int32)), .val (.ref b44), .val (.ref b49), .val (.ref b53), .val (.int (1 : Int32)), .val (.int (1 : Int32))] []))
        refine own_st (fun _ kS => XS.iload X76.here hx rfl (hb hby at_122) rfl kS) ?_
        show own_G p.tables e below _ (T76.setTop (mkF m 124 #[.val (.int p1), .val (.int p2), .val (.int (2 : Int32)), .val (.int (0 : Int32)), .val (.ref b44), .val (.ref b49), .val (.ref b53), .val (.int (1 : Int32)), .val (.int (1 : Int32))] [(.int (1 : Int32))]))
        refine own_st (fun _ kS => XS.ifNo X76.here hx rfl (hb hby at_124) rfl ((if0 _ _).trans (feq (by decide : ¬ ((1 : Int32) = (0 : Int32)))).1) kS) ?_
        show own_G p.tables e below _ (T76.setTop (mkF m 127 #[.val (.int p1), .val (.int p2), .val (.int (2 : Int32)), .val (.int (0 : Int32)), .val (.ref b44), .val (.ref b49), .val (.ref b53), .val (.int (1 : Int32)), .val (.int (1 : Int32))] []))
        refine own_st (fun _ kS => XS.aload X76.here hx rfl (hb hby at_127) rfl rfl kS) ?_
        show own_G p.tables e below _ (T76.setTop (mkF m 129 #[.val (.int p1), .val (.int p2), .val (.int (2 : Int32)), .val (.int (0 : Int32)), .val (.ref b44), .val (.ref b49), .val (.ref b53), .val (.int (1 : Int32)), .val (.int (1 : Int32))] [(.ref b53)]))
        obtain ⟨cq77, kq77, q77a, q77b, q77c⟩ := isOf hZ rfl P76_0
        obtain ⟨_, _, ⟨T77, L77, k77, n77⟩, -, X77, ⟨Lc77, hQ77, l77, y77, z77⟩, st77⟩ := X76.virtualBack hx (y := (⟨"com/example/cartouche/cartouche/checking/Summary", "passed", "()Z"⟩ : MethodName)) (z := (⟨"com/example/cartouche/cartouche/checking/Summary", "passed", "()Z"⟩ : MethodName)) hown (mvT hZ (own_w hw 226 rfl)) (mvT hZ (own_w hw 227 rfl)) (notFace_of_selects (args := #[]) (mvT hZ (own_w hw 229 rfl))) (mvT hZ (own_w hw 229 rfl)) (mvT hZ (own_w hw 228 rfl)) (by decide) (backOf (W := 0) (rm_passed0_2 l Z a0 hw [] b53 T76.heap n0 (Nat.le_trans (Nat.le_trans (Nat.le_trans (Nat.le_trans (Nat.le_trans (Nat.le_trans (Nat.le_trans (Nat.le_trans (Nat.le_trans (Nat.le_trans (Nat.le_trans (Nat.le_trans (Nat.le_trans Z0 E44.1) E45.1) E46.1) Kc47.1) Kc48.1) E49.1) E50.1) Kc51.1) Kc52.1) E53.1) Kc54.1) Kc75.1) Kc76.1)  P76_1 P76_2 P76_3) hZ (own_w hw 230 rfl) (own_w hw 103 rfl) (by decide) (by decide)) q77a q77c (g := (mkF m 129 #[.val (.int p1), .val (.int p2), .val (.int (2 : Int32)), .val (.int (0 : Int32)), .val (.ref b44), .val (.ref b49), .val (.ref b53), .val (.int (1 : Int32)), .val (.int (1 : Int32))] [(.ref b53)])) rfl (by rw [hml]; rfl) (Steps.refl _) (argsL := []) (rest := []) (lenOf own_pd1 rfl) rfl (by show 2 * 0 + _ ≤ _; exact Nat.le_of_eq rfl) (hb hby at_129) (fun _ _ => ⟨rfl, rfl, (by decide : 31 + 0 ≤ _), (by decide : 128 + 0 ≤ _)⟩)
        dsimp only [Pt.U, Pt.locs, Pt.cells, Pt.slots] at X77 l77 y77 z77 st77 hQ77
        subst l77 y77 z77
        obtain ⟨rfl, Nq77, eq77⟩ := hQ77
        have N77 := Fr.app N76 Nq77
        refine own_tr st77 ?_
        show own_G p.tables e below _ (T77.setTop (mkF m 132 #[.val (.int p1), .val (.int p2), .val (.int (2 : Int32)), .val (.int (0 : Int32)), .val (.ref b44), .val (.ref b49), .val (.ref b53), .val (.int (1 : Int32)), .val (.int (1 : Int32))] [(.int (1 : Int32))]))
        refine own_st (fun _ kS => XS.iload X77.here hx rfl (hb hby at_132) rfl kS) ?_
        show own_G p.tables e below _ (T77.setTop (mkF m 134 #[.val (.int p1), .val (.int p2), .val (.int (2 : Int32)), .val (.int (0 : Int32)), .val (.ref b44), .val (.ref b49), .val (.ref b53), .val (.int (1 : Int32)), .val (.int (1 : Int32))] [(.int (1 : Int32)), (.int (1 : Int32))]))
        refine own_st (fun _ kS => XS.icmpNo X77.here hx rfl (hb hby at_134) rfl (teq (by decide : (1 : Int32) = (1 : Int32))).2 kS) ?_
        show own_G p.tables e below _ (T77.setTop (mkF m 137 #[.val (.int p1), .val (.int p2), .val (.int (2 : Int32)), .val (.int (0 : Int32)), .val (.ref b44), .val (.ref b49), .val (.ref b53), .val (.int (1 : Int32)), .val (.int (1 : Int32))] []))
        refine own_st (fun _ kS => XS.iconst X77.here hx rfl (hb hby at_137) kS) ?_
        refine own_st (fun _ kS => XS.goto X77.here hx rfl (pc0 := 138) (pc' := 142) rfl (hb hby at_138) (by decide) (by decide) kS) ?_
        show own_G p.tables e below _ (T77.setTop (mkF m 142 #[.val (.int p1), .val (.int p2), .val (.int (2 : Int32)), .val (.int (0 : Int32)), .val (.ref b44), .val (.ref b49), .val (.ref b53), .val (.int (1 : Int32)), .val (.int (1 : Int32))] [(.int (1 : Int32))]))
        exact own_retNW hS (own_le eq77 (Nat.le_trans (Nat.le_trans (Nat.le_trans (Nat.le_trans (Nat.le_trans (Nat.le_trans (Nat.le_trans (Nat.le_trans (Nat.le_trans (Nat.le_trans (Nat.le_trans hk45 E46.1) Kc47.1) Kc48.1) E49.1) E50.1) Kc51.1) Kc52.1) E53.1) Kc54.1) Kc75.1) Kc76.1)) X77 hx hlk (t := .boolean) hret (by simp) (hb hby at_142) (by decide) (by decide) (v' := (1 : Int32)) rfl (by rw [eq77]; exact ⟨rfl, N77⟩)
      · rw [hk74]
        show own_G p.tables e below _ (T55.setTop (mkF m 67 #[.val (.int p1), .val (.int p2), .val (.int (2 : Int32)), .val (.int (1 : Int32)), .val (.ref b44), .val (.ref b49), .val (.ref b53), .val (.int (1 : Int32)), .unset] []))
        refine own_st (fun _ kS => XS.iloadN X55.here hx rfl (hb hby at_67) rfl kS) ?_
        refine own_st (fun _ kS => XS.iconst X55.here hx rfl (hb hby at_68) kS) ?_
        show own_G p.tables e below _ (T55.setTop (mkF m 69 #[.val (.int p1), .val (.int p2), .val (.int (2 : Int32)), .val (.int (1 : Int32)), .val (.ref b44), .val (.ref b49), .val (.ref b53), .val (.int (1 : Int32)), .unset] [(.int (1 : Int32)), (.int (2 : Int32))]))
        refine own_st (fun _ kS => XS.icmpNo X55.here hx rfl (hb hby at_69) rfl (flt (by decide : ¬ ((2 : Int32) < (1 : Int32)))).1 kS) ?_
        show own_G p.tables e below _ (T55.setTop (mkF m 72 #[.val (.int p1), .val (.int p2), .val (.int (2 : Int32)), .val (.int (1 : Int32)), .val (.ref b44), .val (.ref b49), .val (.ref b53), .val (.int (1 : Int32)), .unset] []))
        refine own_st (fun _ kS => XS.aload X55.here hx rfl (hb hby at_72) rfl rfl kS) ?_
        refine own_st (fun _ kS => XS.aload X55.here hx rfl (hb hby at_74) rfl rfl kS) ?_
        show own_G p.tables e below _ (T55.setTop (mkF m 76 #[.val (.int p1), .val (.int p2), .val (.int (2 : Int32)), .val (.int (1 : Int32)), .val (.ref b44), .val (.ref b49), .val (.ref b53), .val (.int (1 : Int32)), .unset] [(.ref b49), (.ref b53)]))
        obtain ⟨cq78, kq78, q78a, q78b, q78c⟩ := isOf hZ eq55 P54_0
        obtain ⟨_, _, ⟨T78, L78, k78, n78⟩, -, X78, ⟨Lc78, hQ78, l78, y78, z78⟩, st78⟩ := X55.virtualBack hx (y := (⟨"com/example/cartouche/cartouche/checking/Summary", "count", "(Lcom/example/cartouche/cartouche/checking/Verdict;)V"⟩ : MethodName)) (z := (⟨"com/example/cartouche/cartouche/checking/Summary", "count", "(Lcom/example/cartouche/cartouche/checking/Verdict;)V"⟩ : MethodName)) hown (mvT hZ (own_w hw 237 rfl)) (mvT hZ (own_w hw 238 rfl)) (notFace_of_selects (args := #[]) (mvT hZ (own_w hw 240 rfl))) (mvT hZ (own_w hw 240 rfl)) (mvT hZ (own_w hw 239 rfl)) (by decide) (backOf (W := 0) (rm_count0_0 l Z a0 hw [] b53 b49 wL wE kE wD w_REQUIRED w_RECOMMENDED T54.heap n0 (Nat.le_trans (Nat.le_trans (Nat.le_trans (Nat.le_trans (Nat.le_trans (Nat.le_trans (Nat.le_trans (Nat.le_trans (Nat.le_trans (Nat.le_trans (Nat.le_trans Z0 E44.1) E45.1) E46.1) Kc47.1) Kc48.1) E49.1) E50.1) Kc51.1) Kc52.1) E53.1) Kc54.1) O54 P54_0 ge_b53 (Ne.symm ne_b49_b53) P54_1 P54_2 P54_3 ((Exa.ext E53 P52_0).keep Kc54) ((Fld.ext E53 P52_1).keep Kc54 (ninS ne_b49_b53 nin0)) E_L F_el R_E S_D S_REQUIRED S_RECOMMENDED) hZ (own_w hw 241 rfl) (own_w hw 103 rfl) (by decide) (by decide)) q78a q78c (g := (mkF m 76 #[.val (.int p1), .val (.int p2), .val (.int (2 : Int32)), .val (.int (1 : Int32)), .val (.ref b44), .val (.ref b49), .val (.ref b53), .val (.int (1 : Int32)), .unset] [(.ref b49), (.ref b53)])) rfl (by rw [hml]; rfl) (Steps.refl _) (argsL := [(.ref b49)]) (rest := []) (lenOf own_pd13 rfl) rfl (by show 2 * 0 + _ ≤ _; exact Nat.le_of_eq rfl) (hb hby at_76) (fun _ _ => ⟨rfl, eq55, (by decide : 15 + 8 ≤ _), (by decide : 70 + 29 ≤ _)⟩)
        dsimp only [Pt.U, Pt.locs, Pt.cells, Pt.slots] at X78 l78 y78 z78 st78 hQ78
        subst l78 y78 z78
        obtain ⟨rfl, Nq78, Kc78, P78_0, P78_1, P78_2, P78_3⟩ := hQ78
        have N78 := Fr.app N55 Nq78
        have O78 := O54.keep Kc78 (allS ge_b53 all0)
        refine own_tr st78 ?_
        show own_G p.tables e below _ (T78.setTop (mkF m 79 #[.val (.int p1), .val (.int p2), .val (.int (2 : Int32)), .val (.int (1 : Int32)), .val (.ref b44), .val (.ref b49), .val (.ref b53), .val (.int (1 : Int32)), .unset] []))
        refine own_st (fun _ kS => XS.iloadN X78.here hx rfl (hb hby at_79) rfl kS) ?_
        refine own_st (fun _ kS => XS.iconst X78.here hx rfl (hb hby at_80) kS) ?_
        show own_G p.tables e below _ (T78.setTop (mkF m 81 #[.val (.int p1), .val (.int p2), .val (.int (2 : Int32)), .val (.int (1 : Int32)), .val (.ref b44), .val (.ref b49), .val (.ref b53), .val (.int (1 : Int32)), .unset] [(.int (2 : Int32)), (.int (2 : Int32))]))
        refine own_st (fun _ kS => XS.icmpNo X78.here hx rfl (hb hby at_81) rfl (flt (by decide : ¬ ((2 : Int32) < (2 : Int32)))).1 kS) ?_
        show own_G p.tables e below _ (T78.setTop (mkF m 84 #[.val (.int p1), .val (.int p2), .val (.int (2 : Int32)), .val (.int (1 : Int32)), .val (.ref b44), .val (.ref b49), .val (.ref b53), .val (.int (1 : Int32)), .unset] []))
        refine own_st (fun _ kS => XS.aload X78.here hx rfl (hb hby at_84) rfl rfl kS) ?_
        refine own_st (fun _ kS => XS.aload X78.here hx rfl (hb hby at_86) rfl rfl kS) ?_
        show own_G p.tables e below _ (T78.setTop (mkF m 88 #[.val (.int p1), .val (.int p2), .val (.int (2 : Int32)), .val (.int (1 : Int32)), .val (.ref b44), .val (.ref b49), .val (.ref b53), .val (.int (1 : Int32)), .unset] [(.ref b49), (.ref b53)]))
        obtain ⟨cq79, kq79, q79a, q79b, q79c⟩ := isOf hZ rfl P78_0
        obtain ⟨_, _, ⟨T79, L79, k79, n79⟩, -, X79, ⟨Lc79, hQ79, l79, y79, z79⟩, st79⟩ := X78.virtualBack hx (y := (⟨"com/example/cartouche/cartouche/checking/Summary", "count", "(Lcom/example/cartouche/cartouche/checking/Verdict;)V"⟩ : MethodName)) (z := (⟨"com/example/cartouche/cartouche/checking/Summary", "count", "(Lcom/example/cartouche/cartouche/checking/Verdict;)V"⟩ : MethodName)) hown (mvT hZ (own_w hw 237 rfl)) (mvT hZ (own_w hw 238 rfl)) (notFace_of_selects (args := #[]) (mvT hZ (own_w hw 240 rfl))) (mvT hZ (own_w hw 240 rfl)) (mvT hZ (own_w hw 239 rfl)) (by decide) (backOf (W := 0) (rm_count0_1 l Z a0 hw [] b53 b49 wL wE kE wD w_REQUIRED w_RECOMMENDED T78.heap n0 (Nat.le_trans (Nat.le_trans (Nat.le_trans (Nat.le_trans (Nat.le_trans (Nat.le_trans (Nat.le_trans (Nat.le_trans (Nat.le_trans (Nat.le_trans (Nat.le_trans (Nat.le_trans Z0 E44.1) E45.1) E46.1) Kc47.1) Kc48.1) E49.1) E50.1) Kc51.1) Kc52.1) E53.1) Kc54.1) Kc78.1) O78 P78_0 ge_b53 (Ne.symm ne_b49_b53) P78_1 P78_2 P78_3 (((Exa.ext E53 P52_0).keep Kc54).keep Kc78) (((Fld.ext E53 P52_1).keep Kc54 (ninS ne_b49_b53 nin0)).keep Kc78 (ninS ne_b49_b53 nin0)) E_L F_el R_E S_D S_REQUIRED S_RECOMMENDED) hZ (own_w hw 241 rfl) (own_w hw 103 rfl) (by decide) (by decide)) q79a q79c (g := (mkF m 88 #[.val (.int p1), .val (.int p2), .val (.int (2 : Int32)), .val (.int (1 : Int32)), .val (.ref b44), .val (.ref b49), .val (.ref b53), .val (.int (1 : Int32)), .unset] [(.ref b49), (.ref b53)])) rfl (by rw [hml]; rfl) (Steps.refl _) (argsL := [(.ref b49)]) (rest := []) (lenOf own_pd13 rfl) rfl (by show 2 * 0 + _ ≤ _; exact Nat.le_of_eq rfl) (hb hby at_88) (fun _ _ => ⟨rfl, rfl, (by decide : 23 + 8 ≤ _), (by decide : 99 + 29 ≤ _)⟩)
        dsimp only [Pt.U, Pt.locs, Pt.cells, Pt.slots] at X79 l79 y79 z79 st79 hQ79
        subst l79 y79 z79
        obtain ⟨rfl, Nq79, Kc79, P79_0, P79_1, P79_2, P79_3⟩ := hQ79
        have N79 := Fr.app N78 Nq79
        have O79 := O78.keep Kc79 (allS ge_b53 all0)
        refine own_tr st79 ?_
        show own_G p.tables e below _ (T79.setTop (mkF m 91 #[.val (.int p1), .val (.int p2), .val (.int (2 : Int32)), .val (.int (1 : Int32)), .val (.ref b44), .val (.ref b49), .val (.ref b53), .val (.int (1 : Int32)), .unset] []))
        refine own_st (fun _ kS => XS.iloadN X79.here hx rfl (hb hby at_91) rfl kS) ?_
        refine own_st (fun _ kS => XS.iconst X79.here hx rfl (hb hby at_92) kS) ?_
        show own_G p.tables e below _ (T79.setTop (mkF m 93 #[.val (.int p1), .val (.int p2), .val (.int (2 : Int32)), .val (.int (1 : Int32)), .val (.ref b44), .val (.ref b49), .val (.ref b53), .val (.int (1 : Int32)), .unset] [(.int (1 : Int32)), (.int (1 : Int32))]))
        refine own_st (fun _ kS => XS.icmpNo X79.here hx rfl (hb hby at_93) rfl (flt (by decide : ¬ ((1 : Int32) < (1 : Int32)))).1 kS) ?_
        show own_G p.tables e below _ (T79.setTop (mkF m 96 #[.val (.int p1), .val (.int p2), .val (.int (2 : Int32)), .val (.int (1 : Int32)), .val (.ref b44), .val (.ref b49), .val (.ref b53), .val (.int (1 : Int32)), .unset] []))
        refine own_st (fun _ kS => XS.aload X79.here hx rfl (hb hby at_96) rfl rfl kS) ?_
        show own_G p.tables e below _ (T79.setTop (mkF m 98 #[.val (.int p1), .val (.int p2), .val (.int (2 : Int32)), .val (.int (1 : Int32)), .val (.ref b44), .val (.ref b49), .val (.ref b53), .val (.int (1 : Int32)), .unset] [(.ref b53)]))
        obtain ⟨cq80, kq80, q80a, q80b, q80c⟩ := isOf hZ rfl P79_0
        obtain ⟨_, _, ⟨T80, L80, k80, n80⟩, -, X80, ⟨Lc80, hQ80, l80, y80, z80⟩, st80⟩ := X79.virtualBack hx (y := (⟨"com/example/cartouche/cartouche/checking/Summary", "countUnreadable", "()V"⟩ : MethodName)) (z := (⟨"com/example/cartouche/cartouche/checking/Summary", "countUnreadable", "()V"⟩ : MethodName)) hown (mvT hZ (own_w hw 272 rfl)) (mvT hZ (own_w hw 273 rfl)) (notFace_of_selects (args := #[]) (mvT hZ (own_w hw 275 rfl))) (mvT hZ (own_w hw 275 rfl)) (mvT hZ (own_w hw 274 rfl)) (by decide) (backOf (W := 0) (rm_unread0_2 l Z a0 hw [] b53 T79.heap n0 (Nat.le_trans (Nat.le_trans (Nat.le_trans (Nat.le_trans (Nat.le_trans (Nat.le_trans (Nat.le_trans (Nat.le_trans (Nat.le_trans (Nat.le_trans (Nat.le_trans (Nat.le_trans (Nat.le_trans Z0 E44.1) E45.1) E46.1) Kc47.1) Kc48.1) E49.1) E50.1) Kc51.1) Kc52.1) E53.1) Kc54.1) Kc78.1) Kc79.1)  P79_0 ge_b53 P79_1 P79_2 P79_3) hZ (own_w hw 276 rfl) (own_w hw 103 rfl) (by decide) (by decide)) q80a q80c (g := (mkF m 98 #[.val (.int p1), .val (.int p2), .val (.int (2 : Int32)), .val (.int (1 : Int32)), .val (.ref b44), .val (.ref b49), .val (.ref b53), .val (.int (1 : Int32)), .unset] [(.ref b53)])) rfl (by rw [hml]; rfl) (Steps.refl _) (argsL := []) (rest := []) (lenOf own_pd0 rfl) rfl (by show 2 * 0 + _ ≤ _; exact Nat.le_of_eq rfl) (hb hby at_98) (fun _ _ => ⟨rfl, rfl, (by decide : 31 + 0 ≤ _), (by decide : 128 + 0 ≤ _)⟩)
        dsimp only [Pt.U, Pt.locs, Pt.cells, Pt.slots] at X80 l80 y80 z80 st80 hQ80
        subst l80 y80 z80
        obtain ⟨rfl, Nq80, Kc80, P80_0, P80_1, P80_2, P80_3⟩ := hQ80
        have N80 := Fr.app N79 Nq80
        have O80 := O79.keep Kc80 (allS ge_b53 all0)
        refine own_tr st80 ?_
        show own_G p.tables e below _ (T80.setTop (mkF m 101 #[.val (.int p1), .val (.int p2), .val (.int (2 : Int32)), .val (.int (1 : Int32)), .val (.ref b44), .val (.ref b49), .val (.ref b53), .val (.int (1 : Int32)), .unset] []))
        refine own_st (fun _ kS => XS.iloadN X80.here hx rfl (hb hby at_101) rfl kS) ?_
        refine own_st (fun _ kS => XS.iconst X80.here hx rfl (hb hby at_102) kS) ?_
        show own_G p.tables e below _ (T80.setTop (mkF m 103 #[.val (.int p1), .val (.int p2), .val (.int (2 : Int32)), .val (.int (1 : Int32)), .val (.ref b44), .val (.ref b49), .val (.ref b53), .val (.int (1 : Int32)), .unset] [(.int (2 : Int32)), (.int (1 : Int32))]))
        refine own_st (fun _ kS => XS.icmpYes X80.here hx rfl (pc0 := 103) (pc' := 111) rfl (hb hby at_103) rfl (tlt (by decide : (1 : Int32) < (2 : Int32))).1 (by decide) (by decide) kS) ?_
        show own_G p.tables e below _ (T80.setTop (mkF m 111 #[.val (.int p1), .val (.int p2), .val (.int (2 : Int32)), .val (.int (1 : Int32)), .val (.ref b44), .val (.ref b49), .val (.ref b53), .val (.int (1 : Int32)), .unset] []))
        refine own_st (fun _ kS => XS.iloadN X80.here hx rfl (hb hby at_111) rfl kS) ?_
        show own_G p.tables e below _ (T80.setTop (mkF m 112 #[.val (.int p1), .val (.int p2), .val (.int (2 : Int32)), .val (.int (1 : Int32)), .val (.ref b44), .val (.ref b49), .val (.ref b53), .val (.int (1 : Int32)), .unset] [(.int (1 : Int32))]))
        refine own_st (fun _ kS => XS.ifYes X80.here hx rfl (pc0 := 112) (pc' := 119) rfl (hb hby at_112) rfl ((if0 _ _).trans (feq (by decide : ¬ ((1 : Int32) = (0 : Int32)))).2) (by decide) (by decide) kS) ?_
        show own_G p.tables e below _ (T80.setTop (mkF m 119 #[.val (.int p1), .val (.int p2), .val (.int (2 : Int32)), .val (.int (1 : Int32)), .val (.ref b44), .val (.ref b49), .val (.ref b53), .val (.int (1 : Int32)), .unset] []))
        refine own_st (fun _ kS => XS.iconst X80.here hx rfl (hb hby at_119) kS) ?_
        show own_G p.tables e below _ (T80.setTop (mkF m 120 #[.val (.int p1), .val (.int p2), .val (.int (2 : Int32)), .val (.int (1 : Int32)), .val (.ref b44), .val (.ref b49), .val (.ref b53), .val (.int (1 : Int32)), .unset] [(.int (0 : Int32))]))
        refine own_st (fun _ kS => XS.istore X80.here hx rfl (hb hby at_120) rfl (l' := #[.val (.int p1), .val (.int p2), .val (.int (2 : Int32)), .val (.int (1 : Int32)), .val (.ref b44), .val (.ref b49), .val (.ref b53), .val (.int (1 : Int32)), .val (.int (0 : Int32))]) rfl kS) ?_
        show own_G p.tables e below _ (T80.setTop (mkF m 122 #[.val (.int p1), .val (.int p2), .val (.int (2 : Int32)), .val (.int (1 : Int32)), .val (.ref b44), .val (.ref b49), .val (.ref b53), .val (.int (1 : Int32)), .val (.int (0 : Int32))] []))
        refine own_st (fun _ kS => XS.iload X80.here hx rfl (hb hby at_122) rfl kS) ?_
        show own_G p.tables e below _ (T80.setTop (mkF m 124 #[.val (.int p1), .val (.int p2), .val (.int (2 : Int32)), .val (.int (1 : Int32)), .val (.ref b44), .val (.ref b49), .val (.ref b53), .val (.int (1 : Int32)), .val (.int (0 : Int32))] [(.int (1 : Int32))]))
        refine own_st (fun _ kS => XS.ifNo X80.here hx rfl (hb hby at_124) rfl ((if0 _ _).trans (feq (by decide : ¬ ((1 : Int32) = (0 : Int32)))).1) kS) ?_
        show own_G p.tables e below _ (T80.setTop (mkF m 127 #[.val (.int p1), .val (.int p2), .val (.int (2 : Int32)), .val (.int (1 : Int32)), .val (.ref b44), .val (.ref b49), .val (.ref b53), .val (.int (1 : Int32)), .val (.int (0 : Int32))] []))
        refine own_st (fun _ kS => XS.aload X80.here hx rfl (hb hby at_127) rfl rfl kS) ?_
        show own_G p.tables e below _ (T80.setTop (mkF m 129 #[.val (.int p1), .val (.int p2), .val (.int (2 : Int32)), .val (.int (1 : Int32)), .val (.ref b44), .val (.ref b49), .val (.ref b53), .val (.int (1 : Int32)), .val (.int (0 : Int32))] [(.ref b53)]))
        obtain ⟨cq81, kq81, q81a, q81b, q81c⟩ := isOf hZ rfl P80_0
        obtain ⟨_, _, ⟨T81, L81, k81, n81⟩, -, X81, ⟨Lc81, hQ81, l81, y81, z81⟩, st81⟩ := X80.virtualBack hx (y := (⟨"com/example/cartouche/cartouche/checking/Summary", "passed", "()Z"⟩ : MethodName)) (z := (⟨"com/example/cartouche/cartouche/checking/Summary", "passed", "()Z"⟩ : MethodName)) hown (mvT hZ (own_w hw 226 rfl)) (mvT hZ (own_w hw 227 rfl)) (notFace_of_selects (args := #[]) (mvT hZ (own_w hw 229 rfl))) (mvT hZ (own_w hw 229 rfl)) (mvT hZ (own_w hw 228 rfl)) (by decide) (backOf (W := 0) (rm_passed1_2 l Z a0 hw [] b53 T80.heap n0 (Nat.le_trans (Nat.le_trans (Nat.le_trans (Nat.le_trans (Nat.le_trans (Nat.le_trans (Nat.le_trans (Nat.le_trans (Nat.le_trans (Nat.le_trans (Nat.le_trans (Nat.le_trans (Nat.le_trans (Nat.le_trans Z0 E44.1) E45.1) E46.1) Kc47.1) Kc48.1) E49.1) E50.1) Kc51.1) Kc52.1) E53.1) Kc54.1) Kc78.1) Kc79.1) Kc80.1)  P80_1) hZ (own_w hw 230 rfl) (own_w hw 103 rfl) (by decide) (by decide)) q81a q81c (g := (mkF m 129 #[.val (.int p1), .val (.int p2), .val (.int (2 : Int32)), .val (.int (1 : Int32)), .val (.ref b44), .val (.ref b49), .val (.ref b53), .val (.int (1 : Int32)), .val (.int (0 : Int32))] [(.ref b53)])) rfl (by rw [hml]; rfl) (Steps.refl _) (argsL := []) (rest := []) (lenOf own_pd1 rfl) rfl (by show 2 * 0 + _ ≤ _; exact Nat.le_of_eq rfl) (hb hby at_129) (fun _ _ => ⟨rfl, rfl, (by decide : 31 + 0 ≤ _), (by decide : 128 + 0 ≤ _)⟩)
        dsimp only [Pt.U, Pt.locs, Pt.cells, Pt.slots] at X81 l81 y81 z81 st81 hQ81
        subst l81 y81 z81
        obtain ⟨rfl, Nq81, eq81⟩ := hQ81
        have N81 := Fr.app N80 Nq81
        refine own_tr st81 ?_
        show own_G p.tables e below _ (T81.setTop (mkF m 132 #[.val (.int p1), .val (.int p2), .val (.int (2 : Int32)), .val (.int (1 : Int32)), .val (.ref b44), .val (.ref b49), .val (.ref b53), .val (.int (1 : Int32)), .val (.int (0 : Int32))] [(.int (0 : Int32))]))
        refine own_st (fun _ kS => XS.iload X81.here hx rfl (hb hby at_132) rfl kS) ?_
        show own_G p.tables e below _ (T81.setTop (mkF m 134 #[.val (.int p1), .val (.int p2), .val (.int (2 : Int32)), .val (.int (1 : Int32)), .val (.ref b44), .val (.ref b49), .val (.ref b53), .val (.int (1 : Int32)), .val (.int (0 : Int32))] [(.int (0 : Int32)), (.int (0 : Int32))]))
        refine own_st (fun _ kS => XS.icmpNo X81.here hx rfl (hb hby at_134) rfl (teq (by decide : (0 : Int32) = (0 : Int32))).2 kS) ?_
        show own_G p.tables e below _ (T81.setTop (mkF m 137 #[.val (.int p1), .val (.int p2), .val (.int (2 : Int32)), .val (.int (1 : Int32)), .val (.ref b44), .val (.ref b49), .val (.ref b53), .val (.int (1 : Int32)), .val (.int (0 : Int32))] []))
        refine own_st (fun _ kS => XS.iconst X81.here hx rfl (hb hby at_137) kS) ?_
        refine own_st (fun _ kS => XS.goto X81.here hx rfl (pc0 := 138) (pc' := 142) rfl (hb hby at_138) (by decide) (by decide) kS) ?_
        show own_G p.tables e below _ (T81.setTop (mkF m 142 #[.val (.int p1), .val (.int p2), .val (.int (2 : Int32)), .val (.int (1 : Int32)), .val (.ref b44), .val (.ref b49), .val (.ref b53), .val (.int (1 : Int32)), .val (.int (0 : Int32))] [(.int (1 : Int32))]))
        exact own_retNW hS (own_le eq81 (Nat.le_trans (Nat.le_trans (Nat.le_trans (Nat.le_trans (Nat.le_trans (Nat.le_trans (Nat.le_trans (Nat.le_trans (Nat.le_trans (Nat.le_trans (Nat.le_trans (Nat.le_trans hk45 E46.1) Kc47.1) Kc48.1) E49.1) E50.1) Kc51.1) Kc52.1) E53.1) Kc54.1) Kc78.1) Kc79.1) Kc80.1)) X81 hx hlk (t := .boolean) hret (by simp) (hb hby at_142) (by decide) (by decide) (v' := (1 : Int32)) rfl (by rw [eq81]; exact ⟨rfl, N81⟩)
      · rw [hk74]
        show own_G p.tables e below _ (T55.setTop (mkF m 67 #[.val (.int p1), .val (.int p2), .val (.int (2 : Int32)), .val (.int (2 : Int32)), .val (.ref b44), .val (.ref b49), .val (.ref b53), .val (.int (1 : Int32)), .unset] []))
        refine own_st (fun _ kS => XS.iloadN X55.here hx rfl (hb hby at_67) rfl kS) ?_
        refine own_st (fun _ kS => XS.iconst X55.here hx rfl (hb hby at_68) kS) ?_
        show own_G p.tables e below _ (T55.setTop (mkF m 69 #[.val (.int p1), .val (.int p2), .val (.int (2 : Int32)), .val (.int (2 : Int32)), .val (.ref b44), .val (.ref b49), .val (.ref b53), .val (.int (1 : Int32)), .unset] [(.int (1 : Int32)), (.int (2 : Int32))]))
        refine own_st (fun _ kS => XS.icmpNo X55.here hx rfl (hb hby at_69) rfl (flt (by decide : ¬ ((2 : Int32) < (1 : Int32)))).1 kS) ?_
        show own_G p.tables e below _ (T55.setTop (mkF m 72 #[.val (.int p1), .val (.int p2), .val (.int (2 : Int32)), .val (.int (2 : Int32)), .val (.ref b44), .val (.ref b49), .val (.ref b53), .val (.int (1 : Int32)), .unset] []))
        refine own_st (fun _ kS => XS.aload X55.here hx rfl (hb hby at_72) rfl rfl kS) ?_
        refine own_st (fun _ kS => XS.aload X55.here hx rfl (hb hby at_74) rfl rfl kS) ?_
        show own_G p.tables e below _ (T55.setTop (mkF m 76 #[.val (.int p1), .val (.int p2), .val (.int (2 : Int32)), .val (.int (2 : Int32)), .val (.ref b44), .val (.ref b49), .val (.ref b53), .val (.int (1 : Int32)), .unset] [(.ref b49), (.ref b53)]))
        obtain ⟨cq82, kq82, q82a, q82b, q82c⟩ := isOf hZ eq55 P54_0
        obtain ⟨_, _, ⟨T82, L82, k82, n82⟩, -, X82, ⟨Lc82, hQ82, l82, y82, z82⟩, st82⟩ := X55.virtualBack hx (y := (⟨"com/example/cartouche/cartouche/checking/Summary", "count", "(Lcom/example/cartouche/cartouche/checking/Verdict;)V"⟩ : MethodName)) (z := (⟨"com/example/cartouche/cartouche/checking/Summary", "count", "(Lcom/example/cartouche/cartouche/checking/Verdict;)V"⟩ : MethodName)) hown (mvT hZ (own_w hw 237 rfl)) (mvT hZ (own_w hw 238 rfl)) (notFace_of_selects (args := #[]) (mvT hZ (own_w hw 240 rfl))) (mvT hZ (own_w hw 240 rfl)) (mvT hZ (own_w hw 239 rfl)) (by decide) (backOf (W := 0) (rm_count0_0 l Z a0 hw [] b53 b49 wL wE kE wD w_REQUIRED w_RECOMMENDED T54.heap n0 (Nat.le_trans (Nat.le_trans (Nat.le_trans (Nat.le_trans (Nat.le_trans (Nat.le_trans (Nat.le_trans (Nat.le_trans (Nat.le_trans (Nat.le_trans (Nat.le_trans Z0 E44.1) E45.1) E46.1) Kc47.1) Kc48.1) E49.1) E50.1) Kc51.1) Kc52.1) E53.1) Kc54.1) O54 P54_0 ge_b53 (Ne.symm ne_b49_b53) P54_1 P54_2 P54_3 ((Exa.ext E53 P52_0).keep Kc54) ((Fld.ext E53 P52_1).keep Kc54 (ninS ne_b49_b53 nin0)) E_L F_el R_E S_D S_REQUIRED S_RECOMMENDED) hZ (own_w hw 241 rfl) (own_w hw 103 rfl) (by decide) (by decide)) q82a q82c (g := (mkF m 76 #[.val (.int p1), .val (.int p2), .val (.int (2 : Int32)), .val (.int (2 : Int32)), .val (.ref b44), .val (.ref b49), .val (.ref b53), .val (.int (1 : Int32)), .unset] [(.ref b49), (.ref b53)])) rfl (by rw [hml]; rfl) (Steps.refl _) (argsL := [(.ref b49)]) (rest := []) (lenOf own_pd13 rfl) rfl (by show 2 * 0 + _ ≤ _; exact Nat.le_of_eq rfl) (hb hby at_76) (fun _ _ => ⟨rfl, eq55, (by decide : 15 + 8 ≤ _), (by decide : 70 + 29 ≤ _)⟩)
        dsimp only [Pt.U, Pt.locs, Pt.cells, Pt.slots] at X82 l82 y82 z82 st82 hQ82
        subst l82 y82 z82
        obtain ⟨rfl, Nq82, Kc82, P82_0, P82_1, P82_2, P82_3⟩ := hQ82
        have N82 := Fr.app N55 Nq82
        have O82 := O54.keep Kc82 (allS ge_b53 all0)
        refine own_tr st82 ?_
        show own_G p.tables e below _ (T82.setTop (mkF m 79 #[.val (.int p1), .val (.int p2), .val (.int (2 : Int32)), .val (.int (2 : Int32)), .val (.ref b44), .val (.ref b49), .val (.ref b53), .val (.int (1 : Int32)), .unset] []))
        refine own_st (fun _ kS => XS.iloadN X82.here hx rfl (hb hby at_79) rfl kS) ?_
        refine own_st (fun _ kS => XS.iconst X82.here hx rfl (hb hby at_80) kS) ?_
        show own_G p.tables e below _ (T82.setTop (mkF m 81 #[.val (.int p1), .val (.int p2), .val (.int (2 : Int32)), .val (.int (2 : Int32)), .val (.ref b44), .val (.ref b49), .val (.ref b53), .val (.int (1 : Int32)), .unset] [(.int (2 : Int32)), (.int (2 : Int32))]))
        refine own_st (fun _ kS => XS.icmpNo X82.here hx rfl (hb hby at_81) rfl (flt (by decide : ¬ ((2 : Int32) < (2 : Int32)))).1 kS) ?_
        show own_G p.tables e below _ (T82.setTop (mkF m 84 #[.val (.int p1), .val (.int p2), .val (.int (2 : Int32)), .val (.int (2 : Int32)), .val (.ref b44), .val (.ref b49), .val (.ref b53), .val (.int (1 : Int32)), .unset] []))
        refine own_st (fun _ kS => XS.aload X82.here hx rfl (hb hby at_84) rfl rfl kS) ?_
        refine own_st (fun _ kS => XS.aload X82.here hx rfl (hb hby at_86) rfl rfl kS) ?_
        show own_G p.tables e below _ (T82.setTop (mkF m 88 #[.val (.int p1), .val (.int p2), .val (.int (2 : Int32)), .val (.int (2 : Int32)), .val (.ref b44), .val (.ref b49), .val (.ref b53), .val (.int (1 : Int32)), .unset] [(.ref b49), (.ref b53)]))
        obtain ⟨cq83, kq83, q83a, q83b, q83c⟩ := isOf hZ rfl P82_0
        obtain ⟨_, _, ⟨T83, L83, k83, n83⟩, -, X83, ⟨Lc83, hQ83, l83, y83, z83⟩, st83⟩ := X82.virtualBack hx (y := (⟨"com/example/cartouche/cartouche/checking/Summary", "count", "(Lcom/example/cartouche/cartouche/checking/Verdict;)V"⟩ : MethodName)) (z := (⟨"com/example/cartouche/cartouche/checking/Summary", "count", "(Lcom/example/cartouche/cartouche/checking/Verdict;)V"⟩ : MethodName)) hown (mvT hZ (own_w hw 237 rfl)) (mvT hZ (own_w hw 238 rfl)) (notFace_of_selects (args := #[]) (mvT hZ (own_w hw 240 rfl))) (mvT hZ (own_w hw 240 rfl)) (mvT hZ (own_w hw 239 rfl)) (by decide) (backOf (W := 0) (rm_count0_1 l Z a0 hw [] b53 b49 wL wE kE wD w_REQUIRED w_RECOMMENDED T82.heap n0 (Nat.le_trans (Nat.le_trans (Nat.le_trans (Nat.le_trans (Nat.le_trans (Nat.le_trans (Nat.le_trans (Nat.le_trans (Nat.le_trans (Nat.le_trans (Nat.le_trans (Nat.le_trans Z0 E44.1) E45.1) E46.1) Kc47.1) Kc48.1) E49.1) E50.1) Kc51.1) Kc52.1) E53.1) Kc54.1) Kc82.1) O82 P82_0 ge_b53 (Ne.symm ne_b49_b53) P82_1 P82_2 P82_3 (((Exa.ext E53 P52_0).keep Kc54).keep Kc82) (((Fld.ext E53 P52_1).keep Kc54 (ninS ne_b49_b53 nin0)).keep Kc82 (ninS ne_b49_b53 nin0)) E_L F_el R_E S_D S_REQUIRED S_RECOMMENDED) hZ (own_w hw 241 rfl) (own_w hw 103 rfl) (by decide) (by decide)) q83a q83c (g := (mkF m 88 #[.val (.int p1), .val (.int p2), .val (.int (2 : Int32)), .val (.int (2 : Int32)), .val (.ref b44), .val (.ref b49), .val (.ref b53), .val (.int (1 : Int32)), .unset] [(.ref b49), (.ref b53)])) rfl (by rw [hml]; rfl) (Steps.refl _) (argsL := [(.ref b49)]) (rest := []) (lenOf own_pd13 rfl) rfl (by show 2 * 0 + _ ≤ _; exact Nat.le_of_eq rfl) (hb hby at_88) (fun _ _ => ⟨rfl, rfl, (by decide : 23 + 8 ≤ _), (by decide : 99 + 29 ≤ _)⟩)
        dsimp only [Pt.U, Pt.locs, Pt.cells, Pt.slots] at X83 l83 y83 z83 st83 hQ83
        subst l83 y83 z83
        obtain ⟨rfl, Nq83, Kc83, P83_0, P83_1, P83_2, P83_3⟩ := hQ83
        have N83 := Fr.app N82 Nq83
        have O83 := O82.keep Kc83 (allS ge_b53 all0)
        refine own_tr st83 ?_
        show own_G p.tables e below _ (T83.setTop (mkF m 91 #[.val (.int p1), .val (.int p2), .val (.int (2 : Int32)), .val (.int (2 : Int32)), .val (.ref b44), .val (.ref b49), .val (.ref b53), .val (.int (1 : Int32)), .unset] []))
        refine own_st (fun _ kS => XS.iloadN X83.here hx rfl (hb hby at_91) rfl kS) ?_
        refine own_st (fun _ kS => XS.iconst X83.here hx rfl (hb hby at_92) kS) ?_
        show own_G p.tables e below _ (T83.setTop (mkF m 93 #[.val (.int p1), .val (.int p2), .val (.int (2 : Int32)), .val (.int (2 : Int32)), .val (.ref b44), .val (.ref b49), .val (.ref b53), .val (.int (1 : Int32)), .unset] [(.int (1 : Int32)), (.int (2 : Int32))]))
        refine own_st (fun _ kS => XS.icmpNo X83.here hx rfl (hb hby at_93) rfl (flt (by decide : ¬ ((2 : Int32) < (1 : Int32)))).1 kS) ?_
        show own_G p.tables e below _ (T83.setTop (mkF m 96 #[.val (.int p1), .val (.int p2), .val (.int (2 : Int32)), .val (.int (2 : Int32)), .val (.ref b44), .val (.ref b49), .val (.ref b53), .val (.int (1 : Int32)), .unset] []))
        refine own_st (fun _ kS => XS.aload X83.here hx rfl (hb hby at_96) rfl rfl kS) ?_
        show own_G p.tables e below _ (T83.setTop (mkF m 98 #[.val (.int p1), .val (.int p2), .val (.int (2 : Int32)), .val (.int (2 : Int32)), .val (.ref b44), .val (.ref b49), .val (.ref b53), .val (.int (1 : Int32)), .unset] [(.ref b53)]))
        obtain ⟨cq84, kq84, q84a, q84b, q84c⟩ := isOf hZ rfl P83_0
        obtain ⟨_, _, ⟨T84, L84, k84, n84⟩, -, X84, ⟨Lc84, hQ84, l84, y84, z84⟩, st84⟩ := X83.virtualBack hx (y := (⟨"com/example/cartouche/cartouche/checking/Summary", "countUnreadable", "()V"⟩ : MethodName)) (z := (⟨"com/example/cartouche/cartouche/checking/Summary", "countUnreadable", "()V"⟩ : MethodName)) hown (mvT hZ (own_w hw 272 rfl)) (mvT hZ (own_w hw 273 rfl)) (notFace_of_selects (args := #[]) (mvT hZ (own_w hw 275 rfl))) (mvT hZ (own_w hw 275 rfl)) (mvT hZ (own_w hw 274 rfl)) (by decide) (backOf (W := 0) (rm_unread0_2 l Z a0 hw [] b53 T83.heap n0 (Nat.le_trans (Nat.le_trans (Nat.le_trans (Nat.le_trans (Nat.le_trans (Nat.le_trans (Nat.le_trans (Nat.le_trans (Nat.le_trans (Nat.le_trans (Nat.le_trans (Nat.le_trans (Nat.le_trans Z0 E44.1) E45.1) E46.1) Kc47.1) Kc48.1) E49.1) E50.1) Kc51.1) Kc52.1) E53.1) Kc54.1) Kc82.1) Kc83.1)  P83_0 ge_b53 P83_1 P83_2 P83_3) hZ (own_w hw 276 rfl) (own_w hw 103 rfl) (by decide) (by decide)) q84a q84c (g := (mkF m 98 #[.val (.int p1), .val (.int p2), .val (.int (2 : Int32)), .val (.int (2 : Int32)), .val (.ref b44), .val (.ref b49), .val (.ref b53), .val (.int (1 : Int32)), .unset] [(.ref b53)])) rfl (by rw [hml]; rfl) (Steps.refl _) (argsL := []) (rest := []) (lenOf own_pd0 rfl) rfl (by show 2 * 0 + _ ≤ _; exact Nat.le_of_eq rfl) (hb hby at_98) (fun _ _ => ⟨rfl, rfl, (by decide : 31 + 0 ≤ _), (by decide : 128 + 0 ≤ _)⟩)
        dsimp only [Pt.U, Pt.locs, Pt.cells, Pt.slots] at X84 l84 y84 z84 st84 hQ84
        subst l84 y84 z84
        obtain ⟨rfl, Nq84, Kc84, P84_0, P84_1, P84_2, P84_3⟩ := hQ84
        have N84 := Fr.app N83 Nq84
        have O84 := O83.keep Kc84 (allS ge_b53 all0)
        refine own_tr st84 ?_
        show own_G p.tables e below _ (T84.setTop (mkF m 101 #[.val (.int p1), .val (.int p2), .val (.int (2 : Int32)), .val (.int (2 : Int32)), .val (.ref b44), .val (.ref b49), .val (.ref b53), .val (.int (1 : Int32)), .unset] []))
        refine own_st (fun _ kS => XS.iloadN X84.here hx rfl (hb hby at_101) rfl kS) ?_
        refine own_st (fun _ kS => XS.iconst X84.here hx rfl (hb hby at_102) kS) ?_
        show own_G p.tables e below _ (T84.setTop (mkF m 103 #[.val (.int p1), .val (.int p2), .val (.int (2 : Int32)), .val (.int (2 : Int32)), .val (.ref b44), .val (.ref b49), .val (.ref b53), .val (.int (1 : Int32)), .unset] [(.int (2 : Int32)), (.int (2 : Int32))]))
        refine own_st (fun _ kS => XS.icmpNo X84.here hx rfl (hb hby at_103) rfl (flt (by decide : ¬ ((2 : Int32) < (2 : Int32)))).1 kS) ?_
        show own_G p.tables e below _ (T84.setTop (mkF m 106 #[.val (.int p1), .val (.int p2), .val (.int (2 : Int32)), .val (.int (2 : Int32)), .val (.ref b44), .val (.ref b49), .val (.ref b53), .val (.int (1 : Int32)), .unset] []))
        refine own_st (fun _ kS => XS.aload X84.here hx rfl (hb hby at_106) rfl rfl kS) ?_
        show own_G p.tables e below _ (T84.setTop (mkF m 108 #[.val (.int p1), .val (.int p2), .val (.int (2 : Int32)), .val (.int (2 : Int32)), .val (.ref b44), .val (.ref b49), .val (.ref b53), .val (.int (1 : Int32)), .unset] [(.ref b53)]))
        obtain ⟨cq85, kq85, q85a, q85b, q85c⟩ := isOf hZ rfl P84_0
        obtain ⟨_, _, ⟨T85, L85, k85, n85⟩, -, X85, ⟨Lc85, hQ85, l85, y85, z85⟩, st85⟩ := X84.virtualBack hx (y := (⟨"com/example/cartouche/cartouche/checking/Summary", "countUnreadable", "()V"⟩ : MethodName)) (z := (⟨"com/example/cartouche/cartouche/checking/Summary", "countUnreadable", "()V"⟩ : MethodName)) hown (mvT hZ (own_w hw 272 rfl)) (mvT hZ (own_w hw 273 rfl)) (notFace_of_selects (args := #[]) (mvT hZ (own_w hw 275 rfl))) (mvT hZ (own_w hw 275 rfl)) (mvT hZ (own_w hw 274 rfl)) (by decide) (backOf (W := 0) (rm_unread1_2 l Z a0 hw [] b53 T84.heap n0 (Nat.le_trans (Nat.le_trans (Nat.le_trans (Nat.le_trans (Nat.le_trans (Nat.le_trans (Nat.le_trans (Nat.le_trans (Nat.le_trans (Nat.le_trans (Nat.le_trans (Nat.le_trans (Nat.le_trans (Nat.le_trans Z0 E44.1) E45.1) E46.1) Kc47.1) Kc48.1) E49.1) E50.1) Kc51.1) Kc52.1) E53.1) Kc54.1) Kc82.1) Kc83.1) Kc84.1)  P84_0 ge_b53 P84_1 P84_2 P84_3) hZ (own_w hw 276 rfl) (own_w hw 103 rfl) (by decide) (by decide)) q85a q85c (g := (mkF m 108 #[.val (.int p1), .val (.int p2), .val (.int (2 : Int32)), .val (.int (2 : Int32)), .val (.ref b44), .val (.ref b49), .val (.ref b53), .val (.int (1 : Int32)), .unset] [(.ref b53)])) rfl (by rw [hml]; rfl) (Steps.refl _) (argsL := []) (rest := []) (lenOf own_pd0 rfl) rfl (by show 2 * 0 + _ ≤ _; exact Nat.le_of_eq rfl) (hb hby at_108) (fun _ _ => ⟨rfl, rfl, (by decide : 31 + 0 ≤ _), (by decide : 128 + 0 ≤ _)⟩)
        dsimp only [Pt.U, Pt.locs, Pt.cells, Pt.slots] at X85 l85 y85 z85 st85 hQ85
        subst l85 y85 z85
        obtain ⟨rfl, Nq85, Kc85, P85_0, P85_1, P85_2, P85_3⟩ := hQ85
        have N85 := Fr.app N84 Nq85
        have O85 := O84.keep Kc85 (allS ge_b53 all0)
        refine own_tr st85 ?_
        show own_G p.tables e below _ (T85.setTop (mkF m 111 #[.val (.int p1), .val (.int p2), .val (.int (2 : Int32)), .val (.int (2 : Int32)), .val (.ref b44), .val (.ref b49), .val (.ref b53), .val (.int (1 : Int32)), .unset] []))
        refine own_st (fun _ kS => XS.iloadN X85.here hx rfl (hb hby at_111) rfl kS) ?_
        show own_G p.tables e below _ (T85.setTop (mkF m 112 #[.val (.int p1), .val (.int p2), .val (.int (2 : Int32)), .val (.int (2 : Int32)), .val (.ref b44), .val (.ref b49), .val (.ref b53), .val (.int (1 : Int32)), .unset] [(.int (2 : Int32))]))
        refine own_st (fun _ kS => XS.ifYes X85.here hx rfl (pc0 := 112) (pc' := 119) rfl (hb hby at_112) rfl ((if0 _ _).trans (feq (by decide : ¬ ((2 : Int32) = (0 : Int32)))).2) (by decide) (by decide) kS) ?_
        show own_G p.tables e below _ (T85.setTop (mkF m 119 #[.val (.int p1), .val (.int p2), .val (.int (2 : Int32)), .val (.int (2 : Int32)), .val (.ref b44), .val (.ref b49), .val (.ref b53), .val (.int (1 : Int32)), .unset] []))
        refine own_st (fun _ kS => XS.iconst X85.here hx rfl (hb hby at_119) kS) ?_
        show own_G p.tables e below _ (T85.setTop (mkF m 120 #[.val (.int p1), .val (.int p2), .val (.int (2 : Int32)), .val (.int (2 : Int32)), .val (.ref b44), .val (.ref b49), .val (.ref b53), .val (.int (1 : Int32)), .unset] [(.int (0 : Int32))]))
        refine own_st (fun _ kS => XS.istore X85.here hx rfl (hb hby at_120) rfl (l' := #[.val (.int p1), .val (.int p2), .val (.int (2 : Int32)), .val (.int (2 : Int32)), .val (.ref b44), .val (.ref b49), .val (.ref b53), .val (.int (1 : Int32)), .val (.int (0 : Int32))]) rfl kS) ?_
        show own_G p.tables e below _ (T85.setTop (mkF m 122 #[.val (.int p1), .val (.int p2), .val (.int (2 : Int32)), .val (.int (2 : Int32)), .val (.ref b44), .val (.ref b49), .val (.ref b53), .val (.int (1 : Int32)), .val (.int (0 : Int32))] []))
        refine own_st (fun _ kS => XS.iload X85.here hx rfl (hb hby at_122) rfl kS) ?_
        show own_G p.tables e below _ (T85.setTop (mkF m 124 #[.val (.int p1), .val (.int p2), .val (.int (2 : Int32)), .val (.int (2 : Int32)), .val (.ref b44), .val (.ref b49), .val (.ref b53), .val (.int (1 : Int32)), .val (.int (0 : Int32))] [(.int (1 : Int32))]))
        refine own_st (fun _ kS => XS.ifNo X85.here hx rfl (hb hby at_124) rfl ((if0 _ _).trans (feq (by decide : ¬ ((1 : Int32) = (0 : Int32)))).1) kS) ?_
        show own_G p.tables e below _ (T85.setTop (mkF m 127 #[.val (.int p1), .val (.int p2), .val (.int (2 : Int32)), .val (.int (2 : Int32)), .val (.ref b44), .val (.ref b49), .val (.ref b53), .val (.int (1 : Int32)), .val (.int (0 : Int32))] []))
        refine own_st (fun _ kS => XS.aload X85.here hx rfl (hb hby at_127) rfl rfl kS) ?_
        show own_G p.tables e below _ (T85.setTop (mkF m 129 #[.val (.int p1), .val (.int p2), .val (.int (2 : Int32)), .val (.int (2 : Int32)), .val (.ref b44), .val (.ref b49), .val (.ref b53), .val (.int (1 : Int32)), .val (.int (0 : Int32))] [(.ref b53)]))
        obtain ⟨cq86, kq86, q86a, q86b, q86c⟩ := isOf hZ rfl P85_0
        obtain ⟨_, _, ⟨T86, L86, k86, n86⟩, -, X86, ⟨Lc86, hQ86, l86, y86, z86⟩, st86⟩ := X85.virtualBack hx (y := (⟨"com/example/cartouche/cartouche/checking/Summary", "passed", "()Z"⟩ : MethodName)) (z := (⟨"com/example/cartouche/cartouche/checking/Summary", "passed", "()Z"⟩ : MethodName)) hown (mvT hZ (own_w hw 226 rfl)) (mvT hZ (own_w hw 227 rfl)) (notFace_of_selects (args := #[]) (mvT hZ (own_w hw 229 rfl))) (mvT hZ (own_w hw 229 rfl)) (mvT hZ (own_w hw 228 rfl)) (by decide) (backOf (W := 0) (rm_passed2_2 l Z a0 hw [] b53 T85.heap n0 (Nat.le_trans (Nat.le_trans (Nat.le_trans (Nat.le_trans (Nat.le_trans (Nat.le_trans (Nat.le_trans (Nat.le_trans (Nat.le_trans (Nat.le_trans (Nat.le_trans (Nat.le_trans (Nat.le_trans (Nat.le_trans (Nat.le_trans Z0 E44.1) E45.1) E46.1) Kc47.1) Kc48.1) E49.1) E50.1) Kc51.1) Kc52.1) E53.1) Kc54.1) Kc82.1) Kc83.1) Kc84.1) Kc85.1)  P85_1) hZ (own_w hw 230 rfl) (own_w hw 103 rfl) (by decide) (by decide)) q86a q86c (g := (mkF m 129 #[.val (.int p1), .val (.int p2), .val (.int (2 : Int32)), .val (.int (2 : Int32)), .val (.ref b44), .val (.ref b49), .val (.ref b53), .val (.int (1 : Int32)), .val (.int (0 : Int32))] [(.ref b53)])) rfl (by rw [hml]; rfl) (Steps.refl _) (argsL := []) (rest := []) (lenOf own_pd1 rfl) rfl (by show 2 * 0 + _ ≤ _; exact Nat.le_of_eq rfl) (hb hby at_129) (fun _ _ => ⟨rfl, rfl, (by decide : 31 + 0 ≤ _), (by decide : 128 + 0 ≤ _)⟩)
        dsimp only [Pt.U, Pt.locs, Pt.cells, Pt.slots] at X86 l86 y86 z86 st86 hQ86
        subst l86 y86 z86
        obtain ⟨rfl, Nq86, eq86⟩ := hQ86
        have N86 := Fr.app N85 Nq86
        refine own_tr st86 ?_
        show own_G p.tables e below _ (T86.setTop (mkF m 132 #[.val (.int p1), .val (.int p2), .val (.int (2 : Int32)), .val (.int (2 : Int32)), .val (.ref b44), .val (.ref b49), .val (.ref b53), .val (.int (1 : Int32)), .val (.int (0 : Int32))] [(.int (0 : Int32))]))
        refine own_st (fun _ kS => XS.iload X86.here hx rfl (hb hby at_132) rfl kS) ?_
        show own_G p.tables e below _ (T86.setTop (mkF m 134 #[.val (.int p1), .val (.int p2), .val (.int (2 : Int32)), .val (.int (2 : Int32)), .val (.ref b44), .val (.ref b49), .val (.ref b53), .val (.int (1 : Int32)), .val (.int (0 : Int32))] [(.int (0 : Int32)), (.int (0 : Int32))]))
        refine own_st (fun _ kS => XS.icmpNo X86.here hx rfl (hb hby at_134) rfl (teq (by decide : (0 : Int32) = (0 : Int32))).2 kS) ?_
        show own_G p.tables e below _ (T86.setTop (mkF m 137 #[.val (.int p1), .val (.int p2), .val (.int (2 : Int32)), .val (.int (2 : Int32)), .val (.ref b44), .val (.ref b49), .val (.ref b53), .val (.int (1 : Int32)), .val (.int (0 : Int32))] []))
        refine own_st (fun _ kS => XS.iconst X86.here hx rfl (hb hby at_137) kS) ?_
        refine own_st (fun _ kS => XS.goto X86.here hx rfl (pc0 := 138) (pc' := 142) rfl (hb hby at_138) (by decide) (by decide) kS) ?_
        show own_G p.tables e below _ (T86.setTop (mkF m 142 #[.val (.int p1), .val (.int p2), .val (.int (2 : Int32)), .val (.int (2 : Int32)), .val (.ref b44), .val (.ref b49), .val (.ref b53), .val (.int (1 : Int32)), .val (.int (0 : Int32))] [(.int (1 : Int32))]))
        exact own_retNW hS (own_le eq86 (Nat.le_trans (Nat.le_trans (Nat.le_trans (Nat.le_trans (Nat.le_trans (Nat.le_trans (Nat.le_trans (Nat.le_trans (Nat.le_trans (Nat.le_trans (Nat.le_trans (Nat.le_trans (Nat.le_trans hk45 E46.1) Kc47.1) Kc48.1) E49.1) E50.1) Kc51.1) Kc52.1) E53.1) Kc54.1) Kc82.1) Kc83.1) Kc84.1) Kc85.1)) X86 hx hlk (t := .boolean) hret (by simp) (hb hby at_142) (by decide) (by decide) (v' := (1 : Int32)) rfl (by rw [eq86]; exact ⟨rfl, N86⟩)
set_option maxRecDepth 65536 in
set_option maxHeartbeats 40000000 in
theorem comes_1 {Post : Tables → Env → Array Value → State → Outcome → State → Prop} (hpost : ∀ tb e args s v u, (limb_1_1.after args s (.returned v) u = true ∧ limb_1_2.after args s (.returned v) u = true ∧ True) → ReturnedEndW s (.returned v) u (Jvm.fieldLocs frame_1_writes args s ++ Jvm.arrayLocs frame_1_arrays args s ++ Jvm.staticLocs frame_1_statics s) 72 1344 → Post tb e args s (.returned v) u) :
    ArmFor flags0 classFile x code maxLocals ret World_1 tables_1 room_1 Calls_1 rest_1 Pre_1 Post := by
  intro l hfl _ _ p e ha hc hk s m args below hf hA hF happ hP
  obtain ⟨hcalls, hrest, hpre⟩ := hP
  obtain ⟨-, -, -, hnamed, -, -, -, hat⟩ := (Spec.applies_iff hf).mp happ
  obtain ⟨hg, hn⟩ := and_e (Cond.before_iff.mp (show (Jvm.Cond.and given_1 narrow_1).before args s = true from hpre))
  obtain ⟨g1a, g1b⟩ := and_e hg
  obtain ⟨g2a, g2b⟩ := and_e g1b
  obtain ⟨w0, w1, rfl⟩ : ∃ w0 w1 : Value, args = #[w0, w1] := by
    have hs : args.size = 2 := by simpa [Cond.value, given_1] using g1a
    obtain ⟨L⟩ := args
    match L, hs with
    | [w0, w1], _ => exact ⟨w0, w1, rfl⟩
  have hw := fun d (hd : d ∈ tables_1) => atoms_spec (ws := Jvm.Cond.code x code maxLocals ret :: tables_1) hat d (List.mem_cons_of_mem _ hd)
  have hfit : Fit s := fun {y c} hc i hi => by
    obtain ⟨ha, rfl⟩ := Array.getElem?_eq_some_iff.mp hc
    have q := List.all_eq_true.mp ((Array.all_eq_true_iff_forall_mem.mp hF) _ (Array.getElem_mem ha)) i (List.mem_range.mpr hi)
    simpa [Array.getElem?_eq_getElem hi] using q
  obtain ⟨hsets, hown0⟩ := atoms_of _ (rest_1_c_eq ▸ (show rest_1_c.before _ s = true from hrest))
  have hr0 := Cond.before_iff.mp hown0
  obtain ⟨i0, ei0⟩ := is_v g2a
  obtain rfl : w0 = (.int i0) := Option.some.inj ei0
  obtain ⟨i1, ei1⟩ := is_v g2b
  obtain rfl : w1 = (.int i1) := Option.some.inj ei1
  obtain ⟨g3a, g3b⟩ := and_e hn
  obtain ⟨w_REQUIRED, v_REQUIRED⟩ := exa_v g3a
  have E_REQUIRED := Exa.start v_REQUIRED g3a
  have S_REQUIRED := Sta.start v_REQUIRED (Or.inr ⟨(own_w hw 139 rfl), (own_w hw 140 rfl)⟩)
  obtain ⟨w_RECOMMENDED, v_RECOMMENDED⟩ := exa_v g3b
  have E_RECOMMENDED := Exa.start v_RECOMMENDED g3b
  have S_RECOMMENDED := Sta.start v_RECOMMENDED (Or.inr ⟨(own_w hw 139 rfl), (own_w hw 225 rfl)⟩)
  obtain ⟨wD, vD⟩ := arr_v (Cond.before_iff.mp (hsets _ (List.mem_of_getElem? (i := 6) rfl)))
  have S_D := Sta.start vD (Or.inr ⟨(own_w hw 14 rfl), (hsets _ (List.mem_of_getElem? (i := 2) rfl))⟩)
  obtain ⟨wL, vL⟩ := exa_v (Cond.before_iff.mp (hsets _ (List.mem_of_getElem? (i := 11) rfl)))
  have E_L := Exa.start vL (Cond.before_iff.mp (hsets _ (List.mem_of_getElem? (i := 11) rfl)))
  have S_L := Sta.start vL (Or.inl (hsets _ (List.mem_of_getElem? (i := 10) rfl)))
  have F_a : Fld s s.heap wL "java/util/ImmutableCollections$ListN" "allowNulls" "Z" (.int (0 : Int32)) := Fld.start ((fld_at vL).symm.trans (eqv_i (Term.int_eval (0)) (Cond.before_iff.mp (hsets _ (List.mem_of_getElem? (i := 15) rfl)))))
  obtain ⟨wE, vE⟩ := arr_v (Cond.before_iff.mp (hsets _ (List.mem_of_getElem? (i := 12) rfl)))
  have F_el := Fld.start ((fld_at vL).symm.trans vE)
  obtain ⟨cE, AE⟩ := Arr.start vE (Cond.before_iff.mp (hsets _ (List.mem_of_getElem? (i := 12) rfl)))
  have qE := own_len vE AE (Cond.before_iff.mp (hsets _ (List.mem_of_getElem? (i := 14) rfl)))
  have R_E : Arv s s.heap wE cE.cls (.object "java/lang/Object") (0 : Int32) [] .null := Arv.start hfit AE qE.1 qE.2 (by decide) (by decide) trivial
  have hIJ := own_em (own_found (own_w hw 13 rfl)) (own_cls (own_w hw 58 rfl) (own_w hw 59 rfl))
  have hJ := own_em (own_exf E_L) (own_cls (own_w hw 58 rfl) (own_w hw 59 rfl))
  have hN := NS.no (own_w hw 60 rfl) (own_w hw 79 rfl) (NS.step (own_w hw 60 rfl) (NS.step (own_w hw 61 rfl) (NS.step (own_w hw 62 rfl) (NS.root (own_w hw 63 rfl) (own_w hw 79 rfl) (by decide)) (by decide)) (by decide)) (by decide)) (by decide)
  obtain ⟨n, o, h1, h2, h3, _, L, rfl, ⟨rfl, N⟩, hq⟩ := rm_law l s _ hw tables_1 i0 i1 wL wE cE.cls wD w_REQUIRED w_RECOMMENDED s.heap s.heap.size (Nat.le_refl _) (Old.start s) S_D S_L S_REQUIRED S_RECOMMENDED E_L F_a F_el R_E hIJ hJ hN p e ha hc hk s m _ below hf ((Spec.applies_iff_loose hf).mp happ).1 ⟨rfl, State.Warmed39.refl s, rfl⟩ trivial
  refine ⟨n, _, h1, h2, h3, hpost _ _ _ _ _ _ ⟨Cond.after_iff.mpr rfl, Cond.after_iff.mpr (eq_i res_at (Term.int_eval (1)) rfl), trivial⟩ ⟨hq.1, hq.2.1, hq.2.2.1, (hq.2.2.2.sift fun y hy => Or.inr (N y hy)).mono (by decide) (by decide)⟩⟩
theorem main_1_1 : Claimed_1_1 := comes_1 fun _ _ _ _ _ _ h hF => ⟨h.1, hF⟩
theorem main_1_2 : Claimed_1_2 := comes_1 fun _ _ _ _ _ _ h hF => ⟨h.2.1, hF⟩
end Jvm.Pilot.@@N@@
namespace Jvm.Pilot.@@N@@
open Jvm Jvm.ClassFile Sem Op Lib Jvm.Free Jvm.Stand Jvm.Pilot.@@N@@.Jvm.D
/-! MADE BY PROGRAM (witnessworld.py) out of the Statement's table words and the real class files: 41 classes; the members and pool entries that the words name. The judged class is class 1, her method 1. -/
namespace start1
open Jvm.ClassFile
def u (s : String) : CpInfo := .utf8 (stringToUtf16 s)
/-- a pool by its gaps: so many unusable entries, then the entry; so many at the end -/
def gap : Nat → List CpInfo → List CpInfo
  | 0, r => r
  | n + 1, r => .unusable :: gap n r
def poolList (es : List (Nat × CpInfo)) (last : Nat) : List CpInfo := es.foldr (fun e r => gap e.1 (e.2 :: r)) (gap last [])
def pool (es : List (Nat × CpInfo)) (last : Nat) : Array CpInfo := ⟨poolList es last⟩
def fileOf (pool : Array CpInfo) (this : Nat) (attrs : Array Attribute := #[]) (ms : Array MethodInfo := #[]) (fl : Nat := 33) (sup : Nat := 0) (ifs : Array Nat := #[]) (fds : Array FieldInfo := #[]) : ClassFile where
  minorVersion := 0
  majorVersion := 65
  constantPool := pool
  accessFlags := fl
  thisClass := this
  superClass := sup
  interfaces := ifs
  fields := fds
  methods := ms
  attributes := attrs
def plain (name : String) (sup : Option ClassId) : Class where
  name := name
  kind := .ordinary
  loader := none
  accessFlags := 33
  super := sup
  interfaces := #[]
  cf := none
  fields := #[]
  methods := #[]
  instanceTypes := #[]
  staticTypes := #[]
  resolved := #[]
  callSites := []
  init := .initialized
  statics := none
  mirror := none

def pool0 : Array CpInfo := pool [(5, u "<init>"), (0, u "()V"), (1, .class_ 10), (1, u "java/lang/Object")] 113

def k0c0 : Code := { maxStack := 0, maxLocals := 1, code := object_method_1_code, exceptionTable := #[], attributes := #[] }
def k0m0 : Method := { name := "<init>", desc := "()V", sig := { parameters := [], returnType := none }, accessFlags := 1, code := some k0c0 }
/-- java/lang/Object -/
def k0 : Class := { plain "java/lang/Object" none with
  accessFlags := 33
  interfaces := #[]
  cf := some (fileOf pool0 8 #[] #[{ accessFlags := 1, nameIndex := 5, descriptorIndex := 6, attributes := #[] }] 33 0 #[] #[])
  fields := #[]
  methods := #[k0m0]
  instanceTypes := #[]
  staticTypes := #[]
  resolved := Array.replicate 124 none
  statics := none }

def pool1 : Array CpInfo := pool [(2, .class_ 4), (0, .nameAndType 5 6), (0, u "java/lang/Object"), (0, u "<init>"), (0, u "()V"), (0, .integer 2147483647), (0, .class_ 9), (0, u "com/example/cartouche/cartouche/checking/Profile"), (0, .string 11), (0, u "p"), (0, .class_ 13), (0, u "java/util/ArrayList"), (0, .methodref 12 3), (0, .methodref 8 16), (0, .nameAndType 5 17), (0, u "(Ljava/lang/String;Ljava/util/List;)V"), (0, .class_ 19), (0, u "com/example/cartouche/cartouche/checking/Verdict"), (0, .methodref 18 21), (0, .nameAndType 5 22), (0, u "(Ljava/util/OptionalInt;Ljava/util/List;)V"), (0, .class_ 24), (0, u "com/example/cartouche/cartouche/checking/Summary"), (0, .methodref 23 26), (0, .nameAndType 5 27), (0, u "(Lcom/example/cartouche/cartouche/checking/Profile;)V"), (0, .methodref 23 29), (0, .nameAndType 30 31), (0, u "passed"), (0, u "()Z"), (0, .methodref 23 33), (0, .nameAndType 34 35), (0, u "count"), (0, u "(Lcom/example/cartouche/cartouche/checking/Verdict;)V"), (0, .methodref 23 37), (0, .nameAndType 38 6), (0, u "countUnreadable"), (0, .class_ 40), (0, u "com/example/cartouche/cartouche/checking/SummaryPassedPinLaw"), (2, u "law"), (0, u "(II)Z")] 3

def k1m0 : Method := { name := "<init>", desc := "()V", sig := { parameters := [], returnType := none }, accessFlags := 2, code := none }
def k1c1 : Code := { maxStack := 5, maxLocals := 9, code := code, exceptionTable := #[], attributes := #[] }
def k1m1 : Method := { name := "law", desc := "(II)Z", sig := { parameters := [.int, .int], returnType := some .boolean }, accessFlags := 9, code := some k1c1 }
/-- com/example/cartouche/cartouche/checking/SummaryPassedPinLaw -/
def k1 : Class := { plain "com/example/cartouche/cartouche/checking/SummaryPassedPinLaw" (some 0) with
  accessFlags := 49
  interfaces := #[]
  cf := some (fileOf pool1 39 #[] #[{ accessFlags := 2, nameIndex := 5, descriptorIndex := 6, attributes := #[] }, { accessFlags := 9, nameIndex := 43, descriptorIndex := 44, attributes := #[] }] 49 2 #[] #[])
  fields := #[]
  methods := #[k1m0, k1m1]
  instanceTypes := #[]
  staticTypes := #[]
  resolved := Array.replicate 48 none
  statics := none }

def pool2 : Array CpInfo := pool [(1, .interfaceMethodref 2 3), (0, .class_ 4), (0, .nameAndType 5 6), (0, u "java/util/List"), (0, u "of"), (0, u "()Ljava/util/List;"), (0, .methodref 8 9), (0, .class_ 10), (0, .nameAndType 11 12), (0, u "com/example/cartouche/cartouche/checking/Profile"), (0, u "<init>"), (0, u "(Ljava/lang/String;Ljava/util/List;Ljava/util/List;)V"), (0, .methodref 14 15), (0, .class_ 16), (0, .nameAndType 11 17), (0, u "java/lang/Object"), (0, u "()V"), (0, .fieldref 8 19), (0, .nameAndType 20 21), (0, u "name"), (0, u "Ljava/lang/String;"), (0, .interfaceMethodref 2 23), (0, .nameAndType 24 25), (0, u "copyOf"), (0, u "(Ljava/util/Collection;)Ljava/util/List;"), (0, .fieldref 8 27), (0, .nameAndType 28 29), (0, u "rules"), (0, u "Ljava/util/List;"), (0, .fieldref 8 31), (0, .nameAndType 32 29), (0, u "schemas"), (18, .interfaceMethodref 2 52), (0, .nameAndType 53 54), (0, u "iterator"), (0, u "()Ljava/util/Iterator;"), (0, .interfaceMethodref 56 57), (0, .class_ 58), (0, .nameAndType 59 60), (0, u "java/util/Iterator"), (0, u "hasNext"), (0, u "()Z"), (31, .class_ 93), (0, u "java/util/ArrayList"), (0, .methodref 92 15), (84, u "(Ljava/lang/String;Ljava/util/List;)V"), (14, u "ruleIds"), (0, u "(Lcom/example/cartouche/cartouche/checking/Level;)Ljava/util/List;")] 40

def k2c0 : Code := { maxStack := 4, maxLocals := 3, code := prog_19_method_1_code, exceptionTable := #[], attributes := #[] }
def k2m0 : Method := { name := "<init>", desc := "(Ljava/lang/String;Ljava/util/List;)V", sig := { parameters := [(.object "java/lang/String"), (.object "java/util/List")], returnType := none }, accessFlags := 0, code := some k2c0 }
def k2c1 : Code := { maxStack := 2, maxLocals := 4, code := prog_19_method_2_code, exceptionTable := #[], attributes := #[] }
def k2m1 : Method := { name := "<init>", desc := "(Ljava/lang/String;Ljava/util/List;Ljava/util/List;)V", sig := { parameters := [(.object "java/lang/String"), (.object "java/util/List"), (.object "java/util/List")], returnType := none }, accessFlags := 2, code := some k2c1 }
def k2c2 : Code := { maxStack := 2, maxLocals := 5, code := prog_19_method_8_code, exceptionTable := #[], attributes := #[] }
def k2m2 : Method := { name := "ruleIds", desc := "(Lcom/example/cartouche/cartouche/checking/Level;)Ljava/util/List;", sig := { parameters := [(.object "com/example/cartouche/cartouche/checking/Level")], returnType := some (.object "java/util/List") }, accessFlags := 1, code := some k2c2 }
/-- com/example/cartouche/cartouche/checking/Profile -/
def k2 : Class := { plain "com/example/cartouche/cartouche/checking/Profile" (some 0) with
  accessFlags := 49
  interfaces := #[]
  cf := some (fileOf pool2 8 #[] #[{ accessFlags := 0, nameIndex := 11, descriptorIndex := 179, attributes := #[] }, { accessFlags := 2, nameIndex := 11, descriptorIndex := 12, attributes := #[] }, { accessFlags := 1, nameIndex := 194, descriptorIndex := 195, attributes := #[] }] 49 14 #[] #[{ accessFlags := 18, nameIndex := 20, descriptorIndex := 21, attributes := #[] }, { accessFlags := 18, nameIndex := 28, descriptorIndex := 29, attributes := #[] }, { accessFlags := 18, nameIndex := 32, descriptorIndex := 29, attributes := #[] }])
  fields := #[{ name := "name", type := (.object "java/lang/String"), accessFlags := 18, slot := 0, constantValue := 0 }, { name := "rules", type := (.object "java/util/List"), accessFlags := 18, slot := 1, constantValue := 0 }, { name := "schemas", type := (.object "java/util/List"), accessFlags := 18, slot := 2, constantValue := 0 }]
  methods := #[k2m0, k2m1, k2m2]
  instanceTypes := #[(.object "java/lang/String"), (.object "java/util/List"), (.object "java/util/List")]
  staticTypes := #[]
  resolved := Array.replicate 236 none
  statics := none }

def pool3 : Array CpInfo := pool [(1, .class_ 2), (0, u "java/io/Serializable"), (0, .class_ 4), (0, u "java/lang/Object")] 2

/-- java/io/Serializable -/
def k3 : Class := { plain "java/io/Serializable" (some 0) with
  accessFlags := 1537
  interfaces := #[]
  cf := some (fileOf pool3 1 #[] #[] 1537 3 #[] #[])
  fields := #[]
  methods := #[]
  instanceTypes := #[]
  staticTypes := #[]
  resolved := Array.replicate 7 none
  statics := none }

def pool4 : Array CpInfo := pool [(1, .class_ 2), (0, u "java/lang/Comparable"), (0, .class_ 4), (0, u "java/lang/Object")] 7

/-- java/lang/Comparable -/
def k4 : Class := { plain "java/lang/Comparable" (some 0) with
  accessFlags := 1537
  interfaces := #[]
  cf := some (fileOf pool4 1 #[] #[] 1537 3 #[] #[])
  fields := #[]
  methods := #[]
  instanceTypes := #[]
  staticTypes := #[]
  resolved := Array.replicate 12 none
  statics := none }

def pool5 : Array CpInfo := pool [(2, .class_ 4), (1, u "java/lang/CharSequence"), (42, .class_ 48), (0, u "java/lang/CharSequence$1CodePointIterator"), (10, .class_ 60), (0, u "java/lang/CharSequence$1CharIterator"), (5, .class_ 67), (0, u "java/lang/Object")] 63

/-- java/lang/CharSequence -/
def k5 : Class := { plain "java/lang/CharSequence" (some 0) with
  accessFlags := 1537
  interfaces := #[]
  cf := some (fileOf pool5 2 #[.nestMembers #[47, 59]] #[] 1537 66 #[] #[])
  fields := #[]
  methods := #[]
  instanceTypes := #[]
  staticTypes := #[]
  resolved := Array.replicate 131 none
  statics := none }

def pool6 : Array CpInfo := pool [(1, .class_ 2), (0, u "java/lang/constant/Constable"), (0, .class_ 4), (0, u "java/lang/Object")] 6

/-- java/lang/constant/Constable -/
def k6 : Class := { plain "java/lang/constant/Constable" (some 0) with
  accessFlags := 1537
  interfaces := #[]
  cf := some (fileOf pool6 1 #[] #[] 1537 3 #[] #[])
  fields := #[]
  methods := #[]
  instanceTypes := #[]
  staticTypes := #[]
  resolved := Array.replicate 11 none
  statics := none }

def pool7 : Array CpInfo := pool [(1, .class_ 2), (0, u "java/lang/constant/ConstantDesc"), (0, .class_ 4), (0, u "java/lang/Object")] 32

/-- java/lang/constant/ConstantDesc -/
def k7 : Class := { plain "java/lang/constant/ConstantDesc" (some 0) with
  accessFlags := 1537
  interfaces := #[]
  cf := some (fileOf pool7 1 #[] #[] 1537 3 #[] #[])
  fields := #[]
  methods := #[]
  instanceTypes := #[]
  staticTypes := #[]
  resolved := Array.replicate 37 none
  statics := none }

def pool8 : Array CpInfo := pool [(2, .class_ 4), (1, u "java/lang/Object"), (0, u "<init>"), (0, u "()V"), (3, .class_ 12), (1, u "java/lang/String"), (0, u "value"), (0, u "[B"), (2, u "coder"), (0, u "B"), (2, u "hash"), (0, u "I"), (2, u "hashIsZero"), (0, u "Z"), (13, u "COMPACT_STRINGS"), (534, .class_ 576), (0, u "java/lang/CharSequence"), (22, u "CASE_INSENSITIVE_ORDER"), (0, u "Ljava/util/Comparator;"), (500, u "serialPersistentFields"), (0, u "[Ljava/io/ObjectStreamField;"), (0, .class_ 1104), (0, u "java/lang/String$CaseInsensitiveComparator"), (1, .class_ 1107), (0, u "java/io/Serializable"), (0, .class_ 1109), (0, u "java/lang/Comparable"), (0, .class_ 1111), (0, u "java/lang/constant/Constable"), (0, .class_ 1113), (0, u "java/lang/constant/ConstantDesc"), (2, u "serialVersionUID"), (0, u "J"), (3, u "REPL"), (0, u "C"), (2, u "LATIN1"), (1, u "UTF16")] 323

def k8m0 : Method := { name := "<init>", desc := "()V", sig := { parameters := [], returnType := none }, accessFlags := 1, code := none }
/-- java/lang/String -/
def k8 : Class := { plain "java/lang/String" (some 0) with
  accessFlags := 49
  interfaces := #[3, 4, 5, 6, 7]
  cf := some (fileOf pool8 10 #[.nestMembers #[1103]] #[{ accessFlags := 1, nameIndex := 5, descriptorIndex := 6, attributes := #[] }] 49 2 #[1106, 1108, 575, 1110, 1112] #[{ accessFlags := 18, nameIndex := 13, descriptorIndex := 14, attributes := #[] }, { accessFlags := 18, nameIndex := 17, descriptorIndex := 18, attributes := #[] }, { accessFlags := 2, nameIndex := 21, descriptorIndex := 22, attributes := #[] }, { accessFlags := 2, nameIndex := 25, descriptorIndex := 26, attributes := #[] }, { accessFlags := 26, nameIndex := 1116, descriptorIndex := 1117, attributes := #[] }, { accessFlags := 24, nameIndex := 40, descriptorIndex := 26, attributes := #[] }, { accessFlags := 26, nameIndex := 1101, descriptorIndex := 1102, attributes := #[] }, { accessFlags := 26, nameIndex := 1121, descriptorIndex := 1122, attributes := #[] }, { accessFlags := 25, nameIndex := 599, descriptorIndex := 600, attributes := #[] }, { accessFlags := 24, nameIndex := 1125, descriptorIndex := 18, attributes := #[] }, { accessFlags := 24, nameIndex := 1127, descriptorIndex := 18, attributes := #[] }])
  fields := #[{ name := "value", type := (.array .byte), accessFlags := 18, slot := 0, constantValue := 0 }, { name := "coder", type := .byte, accessFlags := 18, slot := 1, constantValue := 0 }, { name := "hash", type := .int, accessFlags := 2, slot := 2, constantValue := 0 }, { name := "hashIsZero", type := .boolean, accessFlags := 2, slot := 3, constantValue := 0 }, { name := "serialVersionUID", type := .long, accessFlags := 26, slot := 0, constantValue := 0 }, { name := "COMPACT_STRINGS", type := .boolean, accessFlags := 24, slot := 1, constantValue := 0 }, { name := "serialPersistentFields", type := (.array (.object "java/io/ObjectStreamField")), accessFlags := 26, slot := 2, constantValue := 0 }, { name := "REPL", type := .char, accessFlags := 26, slot := 3, constantValue := 0 }, { name := "CASE_INSENSITIVE_ORDER", type := (.object "java/util/Comparator"), accessFlags := 25, slot := 4, constantValue := 0 }, { name := "LATIN1", type := .byte, accessFlags := 24, slot := 5, constantValue := 0 }, { name := "UTF16", type := .byte, accessFlags := 24, slot := 6, constantValue := 0 }]
  methods := #[k8m0]
  instanceTypes := #[(.array .byte), .byte, .int, .boolean]
  staticTypes := #[.long, .boolean, (.array (.object "java/io/ObjectStreamField")), .char, (.object "java/util/Comparator"), .byte, .byte]
  resolved := Array.replicate 1451 none
  statics := none }

def pool9 : Array CpInfo := pool [(8, .class_ 10), (1, u "java/lang/Iterable"), (24, .class_ 36), (0, u "java/lang/Object")] 25

/-- java/lang/Iterable -/
def k9 : Class := { plain "java/lang/Iterable" (some 0) with
  accessFlags := 1537
  interfaces := #[]
  cf := some (fileOf pool9 8 #[] #[] 1537 35 #[] #[])
  fields := #[]
  methods := #[]
  instanceTypes := #[]
  staticTypes := #[]
  resolved := Array.replicate 62 none
  statics := none }

def pool10 : Array CpInfo := pool [(10, .class_ 12), (1, u "java/util/Collection"), (17, u "()Z"), (29, .class_ 61), (0, u "java/lang/Object"), (0, .class_ 63), (0, u "java/lang/Iterable"), (2, u "isEmpty")] 48

def k10m0 : Method := { name := "isEmpty", desc := "()Z", sig := { parameters := [], returnType := some .boolean }, accessFlags := 1025, code := none }
/-- java/util/Collection -/
def k10 : Class := { plain "java/util/Collection" (some 0) with
  accessFlags := 1537
  interfaces := #[9]
  cf := some (fileOf pool10 10 #[] #[{ accessFlags := 1025, nameIndex := 66, descriptorIndex := 30, attributes := #[] }] 1537 60 #[62] #[])
  fields := #[]
  methods := #[k10m0]
  instanceTypes := #[]
  staticTypes := #[]
  resolved := Array.replicate 115 none
  statics := none }

def pool11 : Array CpInfo := pool [(1, .methodref 2 3), (0, .class_ 4), (0, .nameAndType 5 6), (0, u "java/lang/Object"), (0, u "<init>"), (0, u "()V"), (1, .class_ 10), (1, u "java/util/AbstractCollection"), (0, u "size"), (0, u "()I"), (64, .class_ 78), (0, u "java/util/Collection")] 81

def k11c0 : Code := { maxStack := 1, maxLocals := 1, code := jdk_22_method_1_code, exceptionTable := #[], attributes := #[] }
def k11m0 : Method := { name := "<init>", desc := "()V", sig := { parameters := [], returnType := none }, accessFlags := 4, code := some k11c0 }
def k11m1 : Method := { name := "size", desc := "()I", sig := { parameters := [], returnType := some .int }, accessFlags := 1025, code := none }
/-- java/util/AbstractCollection -/
def k11 : Class := { plain "java/util/AbstractCollection" (some 0) with
  accessFlags := 1057
  interfaces := #[10]
  cf := some (fileOf pool11 8 #[] #[{ accessFlags := 4, nameIndex := 5, descriptorIndex := 6, attributes := #[] }, { accessFlags := 1025, nameIndex := 11, descriptorIndex := 12, attributes := #[] }] 1057 2 #[77] #[])
  fields := #[]
  methods := #[k11m0, k11m1]
  instanceTypes := #[]
  staticTypes := #[]
  resolved := Array.replicate 160 none
  statics := none }

def pool12 : Array CpInfo := pool [(8, .class_ 10), (1, u "java/util/SequencedCollection"), (15, .class_ 27), (0, u "java/lang/Object"), (0, .class_ 29), (0, u "java/util/Collection")] 27

/-- java/util/SequencedCollection -/
def k12 : Class := { plain "java/util/SequencedCollection" (some 0) with
  accessFlags := 1537
  interfaces := #[10]
  cf := some (fileOf pool12 8 #[] #[] 1537 26 #[28] #[])
  fields := #[]
  methods := #[]
  instanceTypes := #[]
  staticTypes := #[]
  resolved := Array.replicate 57 none
  statics := none }

def pool13 : Array CpInfo := pool [(8, .class_ 10), (1, u "java/util/List"), (7, u "()Z"), (48, u "isEmpty"), (20, u "of"), (1, .fieldref 91 92), (0, .class_ 93), (0, .nameAndType 94 95), (0, u "java/util/ImmutableCollections"), (0, u "EMPTY_LIST"), (0, u "Ljava/util/ImmutableCollections$ListN;"), (7, .class_ 104), (0, u "java/lang/Object"), (7, .methodref 91 113), (0, .nameAndType 114 115), (0, u "listCopy"), (0, u "(Ljava/util/Collection;)Ljava/util/List;"), (3, u "()Ljava/util/List;"), (0, .class_ 121), (0, u "java/util/SequencedCollection"), (1, u "iterator"), (0, u "()Ljava/util/Iterator;"), (109, u "copyOf")] 16

def k13m0 : Method := { name := "isEmpty", desc := "()Z", sig := { parameters := [], returnType := some .boolean }, accessFlags := 1025, code := none }
def k13m1 : Method := { name := "iterator", desc := "()Ljava/util/Iterator;", sig := { parameters := [], returnType := some (.object "java/util/Iterator") }, accessFlags := 1025, code := none }
def k13c2 : Code := { maxStack := 1, maxLocals := 0, code := jdk_40_method_36_code, exceptionTable := #[], attributes := #[] }
def k13m2 : Method := { name := "of", desc := "()Ljava/util/List;", sig := { parameters := [], returnType := some (.object "java/util/List") }, accessFlags := 9, code := some k13c2 }
def k13c3 : Code := { maxStack := 1, maxLocals := 1, code := jdk_40_method_48_code, exceptionTable := #[], attributes := #[] }
def k13m3 : Method := { name := "copyOf", desc := "(Ljava/util/Collection;)Ljava/util/List;", sig := { parameters := [(.object "java/util/Collection")], returnType := some (.object "java/util/List") }, accessFlags := 9, code := some k13c3 }
/-- java/util/List -/
def k13 : Class := { plain "java/util/List" (some 0) with
  accessFlags := 1537
  interfaces := #[12]
  cf := some (fileOf pool13 8 #[] #[{ accessFlags := 1025, nameIndex := 67, descriptorIndex := 18, attributes := #[] }, { accessFlags := 1025, nameIndex := 123, descriptorIndex := 124, attributes := #[] }, { accessFlags := 9, nameIndex := 88, descriptorIndex := 119, attributes := #[] }, { accessFlags := 9, nameIndex := 234, descriptorIndex := 115, attributes := #[] }] 1537 103 #[120] #[])
  fields := #[]
  methods := #[k13m0, k13m1, k13m2, k13m3]
  instanceTypes := #[]
  staticTypes := #[]
  resolved := Array.replicate 251 none
  statics := none }

def pool14 : Array CpInfo := pool [(1, .methodref 2 3), (0, .class_ 4), (0, .nameAndType 5 6), (0, u "java/util/AbstractCollection"), (0, u "<init>"), (0, u "()V"), (0, .fieldref 8 9), (0, .class_ 10), (0, .nameAndType 11 12), (0, u "java/util/AbstractList"), (0, u "modCount"), (0, u "I"), (64, .class_ 78), (0, u "java/util/AbstractList$Itr"), (3, .class_ 83), (0, u "java/util/AbstractList$ListItr"), (9, .class_ 94), (0, u "java/util/AbstractList$RandomAccessSubList"), (3, .class_ 99), (0, u "java/util/AbstractList$SubList"), (33, .class_ 134), (0, u "java/util/List"), (73, .class_ 209), (0, u "java/util/AbstractList$SubList$1"), (0, .class_ 211), (0, u "java/util/AbstractList$RandomAccessSpliterator")] 6

def k14c0 : Code := { maxStack := 2, maxLocals := 1, code := jdk_39_method_1_code, exceptionTable := #[], attributes := #[] }
def k14m0 : Method := { name := "<init>", desc := "()V", sig := { parameters := [], returnType := none }, accessFlags := 4, code := some k14c0 }
/-- java/util/AbstractList -/
def k14 : Class := { plain "java/util/AbstractList" (some 11) with
  accessFlags := 1057
  interfaces := #[13]
  cf := some (fileOf pool14 8 #[.nestMembers #[93, 98, 208, 210, 82, 77]] #[{ accessFlags := 4, nameIndex := 5, descriptorIndex := 6, attributes := #[] }] 1057 2 #[133] #[{ accessFlags := 132, nameIndex := 11, descriptorIndex := 12, attributes := #[] }])
  fields := #[{ name := "modCount", type := .int, accessFlags := 132, slot := 0, constantValue := 0 }]
  methods := #[k14m0]
  instanceTypes := #[.int]
  staticTypes := #[]
  resolved := Array.replicate 218 none
  statics := none }

def pool15 : Array CpInfo := pool [(1, .class_ 2), (0, u "java/util/RandomAccess"), (0, .class_ 4), (0, u "java/lang/Object")] 2

/-- java/util/RandomAccess -/
def k15 : Class := { plain "java/util/RandomAccess" (some 0) with
  accessFlags := 1537
  interfaces := #[]
  cf := some (fileOf pool15 1 #[] #[] 1537 3 #[] #[])
  fields := #[]
  methods := #[]
  instanceTypes := #[]
  staticTypes := #[]
  resolved := Array.replicate 7 none
  statics := none }

def pool16 : Array CpInfo := pool [(1, .class_ 2), (0, u "java/lang/Cloneable"), (0, .class_ 4), (0, u "java/lang/Object")] 2

/-- java/lang/Cloneable -/
def k16 : Class := { plain "java/lang/Cloneable" (some 0) with
  accessFlags := 1537
  interfaces := #[]
  cf := some (fileOf pool16 1 #[] #[] 1537 3 #[] #[])
  fields := #[]
  methods := #[]
  instanceTypes := #[]
  staticTypes := #[]
  resolved := Array.replicate 7 none
  statics := none }

def pool17 : Array CpInfo := pool [(1, .methodref 2 3), (0, .class_ 4), (0, .nameAndType 5 6), (0, u "java/util/AbstractList"), (0, u "<init>"), (0, u "()V"), (2, .fieldref 10 11), (0, .class_ 12), (0, .nameAndType 13 14), (0, u "java/util/ArrayList"), (0, u "elementData"), (0, u "[Ljava/lang/Object;"), (2, u "EMPTY_ELEMENTDATA"), (21, .fieldref 10 40), (0, .nameAndType 41 14), (0, u "DEFAULTCAPACITY_EMPTY_ELEMENTDATA"), (6, .fieldref 10 49), (0, .nameAndType 50 51), (0, u "size"), (0, u "I"), (96, .class_ 149), (0, u "java/util/List"), (16, u "iterator"), (0, u "()Ljava/util/Iterator;"), (5, u "()Z"), (88, .class_ 263), (0, u "java/util/ArrayList$ListItr"), (3, .class_ 268), (0, u "java/util/ArrayList$Itr"), (0, .methodref 267 270), (0, .nameAndType 5 271), (0, u "(Ljava/util/ArrayList;)V"), (4, .class_ 277), (0, u "java/util/ArrayList$SubList"), (12, .class_ 291), (0, u "java/util/ArrayList$ArrayListSpliterator"), (37, .class_ 330), (0, u "java/util/RandomAccess"), (0, .class_ 332), (0, u "java/lang/Cloneable"), (0, .class_ 334), (0, u "java/io/Serializable"), (0, u "serialVersionUID"), (0, u "J"), (3, u "DEFAULT_CAPACITY"), (22, u "isEmpty"), (136, .class_ 501), (0, u "java/util/ArrayList$SubList$2"), (0, .class_ 503), (0, u "java/util/ArrayList$SubList$1")] 5

def k17c0 : Code := { maxStack := 2, maxLocals := 1, code := jdk_38_method_2_code, exceptionTable := #[], attributes := #[] }
def k17m0 : Method := { name := "<init>", desc := "()V", sig := { parameters := [], returnType := none }, accessFlags := 1, code := some k17c0 }
def k17c1 : Code := { maxStack := 1, maxLocals := 1, code := jdk_38_method_9_code, exceptionTable := #[], attributes := #[] }
def k17m1 : Method := { name := "isEmpty", desc := "()Z", sig := { parameters := [], returnType := some .boolean }, accessFlags := 1, code := some k17c1 }
def k17c2 : Code := { maxStack := 3, maxLocals := 1, code := jdk_38_method_55_code, exceptionTable := #[], attributes := #[] }
def k17m2 : Method := { name := "iterator", desc := "()Ljava/util/Iterator;", sig := { parameters := [], returnType := some (.object "java/util/Iterator") }, accessFlags := 1, code := some k17c2 }
/-- java/util/ArrayList -/
def k17 : Class := { plain "java/util/ArrayList" (some 14) with
  accessFlags := 33
  interfaces := #[13, 15, 16, 3]
  cf := some (fileOf pool17 10 #[.nestMembers #[290, 276, 500, 502, 262, 267]] #[{ accessFlags := 1, nameIndex := 5, descriptorIndex := 6, attributes := #[] }, { accessFlags := 1, nameIndex := 363, descriptorIndex := 173, attributes := #[] }, { accessFlags := 1, nameIndex := 166, descriptorIndex := 167, attributes := #[] }] 33 2 #[148, 329, 331, 333] #[{ accessFlags := 26, nameIndex := 335, descriptorIndex := 336, attributes := #[] }, { accessFlags := 26, nameIndex := 340, descriptorIndex := 51, attributes := #[] }, { accessFlags := 26, nameIndex := 17, descriptorIndex := 14, attributes := #[] }, { accessFlags := 26, nameIndex := 41, descriptorIndex := 14, attributes := #[] }, { accessFlags := 128, nameIndex := 13, descriptorIndex := 14, attributes := #[] }, { accessFlags := 2, nameIndex := 50, descriptorIndex := 51, attributes := #[] }])
  fields := #[{ name := "serialVersionUID", type := .long, accessFlags := 26, slot := 0, constantValue := 0 }, { name := "DEFAULT_CAPACITY", type := .int, accessFlags := 26, slot := 1, constantValue := 0 }, { name := "EMPTY_ELEMENTDATA", type := (.array (.object "java/lang/Object")), accessFlags := 26, slot := 2, constantValue := 0 }, { name := "DEFAULTCAPACITY_EMPTY_ELEMENTDATA", type := (.array (.object "java/lang/Object")), accessFlags := 26, slot := 3, constantValue := 0 }, { name := "elementData", type := (.array (.object "java/lang/Object")), accessFlags := 128, slot := 1, constantValue := 0 }, { name := "size", type := .int, accessFlags := 2, slot := 2, constantValue := 0 }]
  methods := #[k17m0, k17m1, k17m2]
  instanceTypes := #[.int, (.array (.object "java/lang/Object")), .int]
  staticTypes := #[.long, .int, (.array (.object "java/lang/Object")), (.array (.object "java/lang/Object"))]
  resolved := Array.replicate 509 none
  statics := some 0 }

def pool18 : Array CpInfo := pool [(2, .class_ 4), (1, u "java/lang/Object"), (0, u "<init>"), (0, u "()V"), (3, .class_ 11), (0, u "java/util/ImmutableCollections$List12"), (0, .class_ 13), (0, u "java/util/ImmutableCollections$ListN"), (0, .fieldref 12 15), (0, .nameAndType 16 17), (0, u "allowNulls"), (0, u "Z"), (0, .class_ 19), (0, u "java/util/List"), (0, .interfaceMethodref 21 22), (0, .class_ 23), (0, .nameAndType 24 25), (0, u "java/util/Collection"), (0, u "isEmpty"), (0, u "()Z"), (0, .interfaceMethodref 18 27), (0, .nameAndType 28 29), (0, u "of"), (0, u "()Ljava/util/List;"), (17, .class_ 49), (1, u "java/util/ImmutableCollections"), (0, u "$assertionsDisabled"), (5, u "[Ljava/lang/Object;"), (5, u "EMPTY_LIST"), (0, u "Ljava/util/ImmutableCollections$ListN;"), (8, u "EMPTY_LIST_NULLS"), (22, u "SALT32L"), (0, u "J"), (2, u "REVERSE"), (6, u "archivedObjects"), (2, u "EMPTY"), (0, u "Ljava/lang/Object;"), (0, .class_ 112), (0, u "java/util/ImmutableCollections$SetN"), (5, u "EMPTY_SET"), (0, u "Ljava/util/ImmutableCollections$SetN;"), (0, .class_ 121), (0, u "java/util/ImmutableCollections$MapN"), (3, u "EMPTY_MAP"), (0, u "Ljava/util/ImmutableCollections$MapN;"), (4, u "EXPAND_FACTOR"), (0, u "I"), (9, u "listCopy"), (0, u "(Ljava/util/Collection;)Ljava/util/List;"), (25, .class_ 170), (0, u "java/util/ImmutableCollections$MapN$MapNIterator"), (0, .class_ 172), (0, u "java/util/ImmutableCollections$MapN$1"), (0, .class_ 174), (0, u "java/util/ImmutableCollections$Map1"), (0, .class_ 176), (0, u "java/util/ImmutableCollections$AbstractImmutableMap"), (0, .class_ 178), (0, u "java/util/ImmutableCollections$SetN$SetNIterator"), (0, .class_ 180), (0, u "java/util/ImmutableCollections$Set12"), (0, .class_ 182), (0, u "java/util/ImmutableCollections$Set12$1"), (0, .class_ 184), (0, u "java/util/ImmutableCollections$AbstractImmutableSet"), (0, .class_ 186), (0, u "java/util/ImmutableCollections$SubList"), (0, .class_ 188), (0, u "java/util/ImmutableCollections$ListItr"), (0, .class_ 190), (0, u "java/util/ImmutableCollections$AbstractImmutableList"), (0, .class_ 192), (0, u "java/util/ImmutableCollections$AbstractImmutableCollection"), (0, .class_ 194), (0, u "java/util/ImmutableCollections$Access"), (0, .class_ 196), (0, u "java/util/ImmutableCollections$Access$1")] 16

def k18m0 : Method := { name := "<init>", desc := "()V", sig := { parameters := [], returnType := none }, accessFlags := 2, code := none }
def k18c1 : Code := { maxStack := 1, maxLocals := 2, code := jdk_56_method_3_code, exceptionTable := #[], attributes := #[] }
def k18m1 : Method := { name := "listCopy", desc := "(Ljava/util/Collection;)Ljava/util/List;", sig := { parameters := [(.object "java/util/Collection")], returnType := some (.object "java/util/List") }, accessFlags := 8, code := some k18c1 }
/-- java/util/ImmutableCollections -/
def k18 : Class := { plain "java/util/ImmutableCollections" (some 0) with
  accessFlags := 32
  interfaces := #[]
  cf := some (fileOf pool18 47 #[.nestMembers #[120, 169, 171, 173, 175, 111, 177, 179, 181, 183, 12, 10, 185, 187, 189, 191, 193, 195]] #[{ accessFlags := 2, nameIndex := 5, descriptorIndex := 6, attributes := #[] }, { accessFlags := 8, nameIndex := 142, descriptorIndex := 143, attributes := #[] }] 32 2 #[] #[{ accessFlags := 26, nameIndex := 95, descriptorIndex := 96, attributes := #[] }, { accessFlags := 26, nameIndex := 99, descriptorIndex := 17, attributes := #[] }, { accessFlags := 10, nameIndex := 106, descriptorIndex := 56, attributes := #[] }, { accessFlags := 26, nameIndex := 109, descriptorIndex := 110, attributes := #[] }, { accessFlags := 24, nameIndex := 62, descriptorIndex := 63, attributes := #[] }, { accessFlags := 24, nameIndex := 72, descriptorIndex := 63, attributes := #[] }, { accessFlags := 24, nameIndex := 118, descriptorIndex := 119, attributes := #[] }, { accessFlags := 24, nameIndex := 125, descriptorIndex := 126, attributes := #[] }, { accessFlags := 24, nameIndex := 131, descriptorIndex := 132, attributes := #[] }, { accessFlags := 4120, nameIndex := 50, descriptorIndex := 17, attributes := #[] }])
  fields := #[{ name := "SALT32L", type := .long, accessFlags := 26, slot := 0, constantValue := 0 }, { name := "REVERSE", type := .boolean, accessFlags := 26, slot := 1, constantValue := 0 }, { name := "archivedObjects", type := (.array (.object "java/lang/Object")), accessFlags := 10, slot := 2, constantValue := 0 }, { name := "EMPTY", type := (.object "java/lang/Object"), accessFlags := 26, slot := 3, constantValue := 0 }, { name := "EMPTY_LIST", type := (.object "java/util/ImmutableCollections$ListN"), accessFlags := 24, slot := 4, constantValue := 0 }, { name := "EMPTY_LIST_NULLS", type := (.object "java/util/ImmutableCollections$ListN"), accessFlags := 24, slot := 5, constantValue := 0 }, { name := "EMPTY_SET", type := (.object "java/util/ImmutableCollections$SetN"), accessFlags := 24, slot := 6, constantValue := 0 }, { name := "EMPTY_MAP", type := (.object "java/util/ImmutableCollections$MapN"), accessFlags := 24, slot := 7, constantValue := 0 }, { name := "EXPAND_FACTOR", type := .int, accessFlags := 24, slot := 8, constantValue := 0 }, { name := "$assertionsDisabled", type := .boolean, accessFlags := 4120, slot := 9, constantValue := 0 }]
  methods := #[k18m0, k18m1]
  instanceTypes := #[]
  staticTypes := #[.long, .boolean, (.array (.object "java/lang/Object")), (.object "java/lang/Object"), (.object "java/util/ImmutableCollections$ListN"), (.object "java/util/ImmutableCollections$ListN"), (.object "java/util/ImmutableCollections$SetN"), (.object "java/util/ImmutableCollections$MapN"), .int, .boolean]
  resolved := Array.replicate 213 none
  statics := some 1 }

def pool19 : Array CpInfo := pool [(2, .class_ 4), (1, u "java/util/AbstractCollection"), (0, u "<init>"), (0, u "()V"), (1, .class_ 10), (1, u "java/util/ImmutableCollections"), (2, .class_ 14), (0, u "java/util/ImmutableCollections$AbstractImmutableCollection")] 41

def k19m0 : Method := { name := "<init>", desc := "()V", sig := { parameters := [], returnType := none }, accessFlags := 0, code := none }
/-- java/util/ImmutableCollections$AbstractImmutableCollection -/
def k19 : Class := { plain "java/util/ImmutableCollections$AbstractImmutableCollection" (some 11) with
  accessFlags := 1056
  interfaces := #[]
  cf := some (fileOf pool19 13 #[.nestHost 8] #[{ accessFlags := 0, nameIndex := 5, descriptorIndex := 6, attributes := #[] }] 1056 2 #[] #[])
  fields := #[]
  methods := #[k19m0]
  instanceTypes := #[]
  staticTypes := #[]
  resolved := Array.replicate 56 none
  statics := none }

def pool20 : Array CpInfo := pool [(2, .class_ 4), (1, u "java/util/ImmutableCollections$AbstractImmutableCollection"), (0, u "<init>"), (0, u "()V"), (1, .class_ 10), (1, u "java/util/ImmutableCollections"), (2, .methodref 14 15), (0, .class_ 16), (0, .nameAndType 17 18), (0, u "java/util/ImmutableCollections$AbstractImmutableList"), (0, u "size"), (0, u "()I"), (42, .class_ 62), (0, u "java/util/ImmutableCollections$ListItr"), (0, .methodref 61 64), (0, .nameAndType 5 65), (0, u "(Ljava/util/List;I)V"), (11, .class_ 78), (0, u "java/util/List"), (2, u "iterator"), (0, u "()Ljava/util/Iterator;"), (41, .class_ 125), (0, u "java/util/RandomAccess")] 70

def k20m0 : Method := { name := "<init>", desc := "()V", sig := { parameters := [], returnType := none }, accessFlags := 0, code := none }
def k20c1 : Code := { maxStack := 4, maxLocals := 1, code := jdk_46_method_10_code, exceptionTable := #[], attributes := #[] }
def k20m1 : Method := { name := "iterator", desc := "()Ljava/util/Iterator;", sig := { parameters := [], returnType := some (.object "java/util/Iterator") }, accessFlags := 1, code := some k20c1 }
/-- java/util/ImmutableCollections$AbstractImmutableList -/
def k20 : Class := { plain "java/util/ImmutableCollections$AbstractImmutableList" (some 19) with
  accessFlags := 1056
  interfaces := #[13, 15]
  cf := some (fileOf pool20 14 #[.nestHost 8] #[{ accessFlags := 0, nameIndex := 5, descriptorIndex := 6, attributes := #[] }, { accessFlags := 1, nameIndex := 81, descriptorIndex := 82, attributes := #[] }] 1056 2 #[77, 124] #[])
  fields := #[]
  methods := #[k20m0, k20m1]
  instanceTypes := #[]
  staticTypes := #[]
  resolved := Array.replicate 196 none
  statics := none }

def pool21 : Array CpInfo := pool [(2, .class_ 4), (1, u "java/util/ImmutableCollections$AbstractImmutableList"), (9, .class_ 16), (1, u "java/util/ImmutableCollections$List12"), (0, u "e0"), (0, u "Ljava/lang/Object;"), (1, .class_ 22), (1, u "java/util/ImmutableCollections"), (3, u "e1"), (43, .class_ 71), (0, u "java/io/Serializable")] 53

/-- java/util/ImmutableCollections$List12 -/
def k21 : Class := { plain "java/util/ImmutableCollections$List12" (some 20) with
  accessFlags := 48
  interfaces := #[3]
  cf := some (fileOf pool21 14 #[.nestHost 20] #[] 48 2 #[70] #[{ accessFlags := 18, nameIndex := 17, descriptorIndex := 18, attributes := #[] }, { accessFlags := 18, nameIndex := 26, descriptorIndex := 18, attributes := #[] }])
  fields := #[{ name := "e0", type := (.object "java/lang/Object"), accessFlags := 18, slot := 0, constantValue := 0 }, { name := "e1", type := (.object "java/lang/Object"), accessFlags := 18, slot := 1, constantValue := 0 }]
  methods := #[]
  instanceTypes := #[(.object "java/lang/Object"), (.object "java/lang/Object")]
  staticTypes := #[]
  resolved := Array.replicate 125 none
  statics := none }

def pool22 : Array CpInfo := pool [(2, .class_ 4), (1, u "java/util/ImmutableCollections$AbstractImmutableList"), (2, .fieldref 8 9), (0, .class_ 10), (0, .nameAndType 11 12), (0, u "java/util/ImmutableCollections$ListN"), (0, u "elements"), (0, u "[Ljava/lang/Object;"), (2, u "allowNulls"), (0, u "Z"), (42, .class_ 60), (0, u "java/io/Serializable"), (16, u "size"), (0, u "()I"), (35, .class_ 115), (0, u "java/util/ImmutableCollections")] 3

def k22c0 : Code := { maxStack := 1, maxLocals := 1, code := jdk_45_method_3_code, exceptionTable := #[], attributes := #[] }
def k22m0 : Method := { name := "size", desc := "()I", sig := { parameters := [], returnType := some .int }, accessFlags := 1, code := some k22c0 }
/-- java/util/ImmutableCollections$ListN -/
def k22 : Class := { plain "java/util/ImmutableCollections$ListN" (some 20) with
  accessFlags := 48
  interfaces := #[3]
  cf := some (fileOf pool22 8 #[.nestHost 114] #[{ accessFlags := 1, nameIndex := 77, descriptorIndex := 78, attributes := #[] }] 48 2 #[59] #[{ accessFlags := 18, nameIndex := 11, descriptorIndex := 12, attributes := #[] }, { accessFlags := 18, nameIndex := 15, descriptorIndex := 16, attributes := #[] }])
  fields := #[{ name := "elements", type := (.array (.object "java/lang/Object")), accessFlags := 18, slot := 0, constantValue := 0 }, { name := "allowNulls", type := .boolean, accessFlags := 18, slot := 1, constantValue := 0 }]
  methods := #[k22m0]
  instanceTypes := #[(.array (.object "java/lang/Object")), .boolean]
  staticTypes := #[]
  resolved := Array.replicate 119 none
  statics := none }

def pool23 : Array CpInfo := pool [(1, .methodref 2 3), (0, .class_ 4), (0, .nameAndType 5 6), (0, u "java/lang/Object"), (0, u "<init>"), (0, u "()V"), (0, .fieldref 8 9), (0, .class_ 10), (0, .nameAndType 11 12), (0, u "com/example/cartouche/cartouche/checking/Verdict"), (0, u "position"), (0, u "Ljava/util/OptionalInt;"), (0, .interfaceMethodref 14 15), (0, .class_ 16), (0, .nameAndType 17 18), (0, u "java/util/List"), (0, u "copyOf"), (0, u "(Ljava/util/Collection;)Ljava/util/List;"), (0, .fieldref 8 20), (0, .nameAndType 21 22), (0, u "failures"), (0, u "Ljava/util/List;"), (0, .fieldref 24 25), (0, .class_ 26), (0, .nameAndType 27 28), (0, u "com/example/cartouche/cartouche/checking/Level"), (0, u "REQUIRED"), (0, u "Lcom/example/cartouche/cartouche/checking/Level;"), (0, .methodref 8 30), (0, .nameAndType 31 32), (0, u "broken"), (0, u "(Lcom/example/cartouche/cartouche/checking/Level;)Ljava/util/List;"), (0, .fieldref 24 34), (0, .nameAndType 35 28), (0, u "RECOMMENDED"), (0, .methodref 8 37), (0, .nameAndType 38 39), (0, u "failed"), (0, u "()Ljava/util/List;"), (0, .interfaceMethodref 14 41), (0, .nameAndType 42 43), (0, u "isEmpty"), (0, u "()Z"), (0, .class_ 45), (0, u "java/util/ArrayList"), (0, .methodref 44 3), (0, .interfaceMethodref 14 48), (0, .nameAndType 49 50), (0, u "iterator"), (0, u "()Ljava/util/Iterator;"), (0, .interfaceMethodref 52 53), (0, .class_ 54), (0, .nameAndType 55 43), (0, u "java/util/Iterator"), (0, u "hasNext"), (25, u "(Ljava/util/OptionalInt;Ljava/util/List;)V"), (6, u "warned"), (0, u "conforms")] 4

def k23c0 : Code := { maxStack := 2, maxLocals := 3, code := prog_34_method_1_code, exceptionTable := #[], attributes := #[] }
def k23m0 : Method := { name := "<init>", desc := "(Ljava/util/OptionalInt;Ljava/util/List;)V", sig := { parameters := [(.object "java/util/OptionalInt"), (.object "java/util/List")], returnType := none }, accessFlags := 0, code := some k23c0 }
def k23c1 : Code := { maxStack := 2, maxLocals := 1, code := prog_34_method_4_code, exceptionTable := #[], attributes := #[] }
def k23m1 : Method := { name := "failed", desc := "()Ljava/util/List;", sig := { parameters := [], returnType := some (.object "java/util/List") }, accessFlags := 1, code := some k23c1 }
def k23c2 : Code := { maxStack := 2, maxLocals := 1, code := prog_34_method_5_code, exceptionTable := #[], attributes := #[] }
def k23m2 : Method := { name := "warned", desc := "()Ljava/util/List;", sig := { parameters := [], returnType := some (.object "java/util/List") }, accessFlags := 1, code := some k23c2 }
def k23c3 : Code := { maxStack := 1, maxLocals := 1, code := prog_34_method_6_code, exceptionTable := #[], attributes := #[] }
def k23m3 : Method := { name := "conforms", desc := "()Z", sig := { parameters := [], returnType := some .boolean }, accessFlags := 1, code := some k23c3 }
def k23c4 : Code := { maxStack := 2, maxLocals := 6, code := prog_34_method_7_code, exceptionTable := #[], attributes := #[] }
def k23m4 : Method := { name := "broken", desc := "(Lcom/example/cartouche/cartouche/checking/Level;)Ljava/util/List;", sig := { parameters := [(.object "com/example/cartouche/cartouche/checking/Level")], returnType := some (.object "java/util/List") }, accessFlags := 2, code := some k23c4 }
/-- com/example/cartouche/cartouche/checking/Verdict -/
def k23 : Class := { plain "com/example/cartouche/cartouche/checking/Verdict" (some 0) with
  accessFlags := 49
  interfaces := #[]
  cf := some (fileOf pool23 8 #[] #[{ accessFlags := 0, nameIndex := 5, descriptorIndex := 81, attributes := #[] }, { accessFlags := 1, nameIndex := 38, descriptorIndex := 39, attributes := #[] }, { accessFlags := 1, nameIndex := 88, descriptorIndex := 39, attributes := #[] }, { accessFlags := 1, nameIndex := 89, descriptorIndex := 43, attributes := #[] }, { accessFlags := 2, nameIndex := 31, descriptorIndex := 32, attributes := #[] }] 49 2 #[] #[{ accessFlags := 18, nameIndex := 11, descriptorIndex := 12, attributes := #[] }, { accessFlags := 18, nameIndex := 21, descriptorIndex := 22, attributes := #[] }])
  fields := #[{ name := "position", type := (.object "java/util/OptionalInt"), accessFlags := 18, slot := 0, constantValue := 0 }, { name := "failures", type := (.object "java/util/List"), accessFlags := 18, slot := 1, constantValue := 0 }]
  methods := #[k23m0, k23m1, k23m2, k23m3, k23m4]
  instanceTypes := #[(.object "java/util/OptionalInt"), (.object "java/util/List")]
  staticTypes := #[]
  resolved := Array.replicate 94 none
  statics := none }

def pool24 : Array CpInfo := pool [(1, .methodref 2 3), (0, .class_ 4), (0, .nameAndType 5 6), (0, u "java/lang/Object"), (0, u "<init>"), (0, u "()V"), (0, .class_ 8), (0, u "java/util/LinkedHashMap"), (0, .methodref 7 3), (0, .fieldref 11 12), (0, .class_ 13), (0, .nameAndType 14 15), (0, u "com/example/cartouche/cartouche/checking/Summary"), (0, u "failingByRule"), (0, u "Ljava/util/Map;"), (0, .fieldref 11 17), (0, .nameAndType 18 15), (0, u "warningsByRule"), (0, .fieldref 20 21), (0, .class_ 22), (0, .nameAndType 23 24), (0, u "com/example/cartouche/cartouche/checking/Level"), (0, u "REQUIRED"), (0, u "Lcom/example/cartouche/cartouche/checking/Level;"), (0, .methodref 26 27), (0, .class_ 28), (0, .nameAndType 29 30), (0, u "com/example/cartouche/cartouche/checking/Profile"), (0, u "ruleIds"), (0, u "(Lcom/example/cartouche/cartouche/checking/Level;)Ljava/util/List;"), (0, .interfaceMethodref 32 33), (0, .class_ 34), (0, .nameAndType 35 36), (0, u "java/util/List"), (0, u "iterator"), (0, u "()Ljava/util/Iterator;"), (0, .interfaceMethodref 38 39), (0, .class_ 40), (0, .nameAndType 41 42), (0, u "java/util/Iterator"), (0, u "hasNext"), (0, u "()Z"), (18, .fieldref 20 62), (0, .nameAndType 63 24), (0, u "RECOMMENDED"), (0, .fieldref 11 65), (0, .nameAndType 66 67), (0, u "records"), (0, u "I"), (0, .methodref 69 70), (0, .class_ 71), (0, .nameAndType 72 42), (0, u "com/example/cartouche/cartouche/checking/Verdict"), (0, u "conforms"), (0, .fieldref 11 74), (0, .nameAndType 75 67), (0, u "conforming"), (0, .methodref 69 77), (0, .nameAndType 78 79), (0, u "failed"), (0, u "()Ljava/util/List;"), (8, .methodref 69 89), (0, .nameAndType 90 79), (0, u "warned"), (0, .fieldref 11 92), (0, .nameAndType 93 67), (0, u "unreadable"), (8, u "(Lcom/example/cartouche/cartouche/checking/Profile;)V"), (3, u "count"), (0, u "(Lcom/example/cartouche/cartouche/checking/Verdict;)V"), (0, u "countUnreadable"), (3, u "passed")] 24

def k24c0 : Code := { maxStack := 3, maxLocals := 4, code := prog_30_method_1_code, exceptionTable := #[], attributes := #[] }
def k24m0 : Method := { name := "<init>", desc := "(Lcom/example/cartouche/cartouche/checking/Profile;)V", sig := { parameters := [(.object "com/example/cartouche/cartouche/checking/Profile")], returnType := none }, accessFlags := 0, code := some k24c0 }
def k24c1 : Code := { maxStack := 4, maxLocals := 4, code := prog_30_method_2_code, exceptionTable := #[], attributes := #[] }
def k24m1 : Method := { name := "count", desc := "(Lcom/example/cartouche/cartouche/checking/Verdict;)V", sig := { parameters := [(.object "com/example/cartouche/cartouche/checking/Verdict")], returnType := none }, accessFlags := 0, code := some k24c1 }
def k24c2 : Code := { maxStack := 3, maxLocals := 1, code := prog_30_method_3_code, exceptionTable := #[], attributes := #[] }
def k24m2 : Method := { name := "countUnreadable", desc := "()V", sig := { parameters := [], returnType := none }, accessFlags := 0, code := some k24c2 }
def k24c3 : Code := { maxStack := 2, maxLocals := 1, code := prog_30_method_9_code, exceptionTable := #[], attributes := #[] }
def k24m3 : Method := { name := "passed", desc := "()Z", sig := { parameters := [], returnType := some .boolean }, accessFlags := 1, code := some k24c3 }
/-- com/example/cartouche/cartouche/checking/Summary -/
def k24 : Class := { plain "com/example/cartouche/cartouche/checking/Summary" (some 0) with
  accessFlags := 49
  interfaces := #[]
  cf := some (fileOf pool24 11 #[] #[{ accessFlags := 0, nameIndex := 5, descriptorIndex := 102, attributes := #[] }, { accessFlags := 0, nameIndex := 106, descriptorIndex := 107, attributes := #[] }, { accessFlags := 0, nameIndex := 108, descriptorIndex := 6, attributes := #[] }, { accessFlags := 1, nameIndex := 112, descriptorIndex := 42, attributes := #[] }] 49 2 #[] #[{ accessFlags := 18, nameIndex := 14, descriptorIndex := 15, attributes := #[] }, { accessFlags := 18, nameIndex := 18, descriptorIndex := 15, attributes := #[] }, { accessFlags := 2, nameIndex := 66, descriptorIndex := 67, attributes := #[] }, { accessFlags := 2, nameIndex := 93, descriptorIndex := 67, attributes := #[] }, { accessFlags := 2, nameIndex := 75, descriptorIndex := 67, attributes := #[] }])
  fields := #[{ name := "failingByRule", type := (.object "java/util/Map"), accessFlags := 18, slot := 0, constantValue := 0 }, { name := "warningsByRule", type := (.object "java/util/Map"), accessFlags := 18, slot := 1, constantValue := 0 }, { name := "records", type := .int, accessFlags := 2, slot := 2, constantValue := 0 }, { name := "unreadable", type := .int, accessFlags := 2, slot := 3, constantValue := 0 }, { name := "conforming", type := .int, accessFlags := 2, slot := 4, constantValue := 0 }]
  methods := #[k24m0, k24m1, k24m2, k24m3]
  instanceTypes := #[(.object "java/util/Map"), (.object "java/util/Map"), .int, .int, .int]
  staticTypes := #[]
  resolved := Array.replicate 137 none
  statics := none }

def pool25 : Array CpInfo := pool [(2, .class_ 4), (1, u "java/util/Map"), (31, .class_ 37), (0, u "java/util/Map$Entry"), (55, .class_ 94), (0, u "java/lang/Object")] 168

/-- java/util/Map -/
def k25 : Class := { plain "java/util/Map" (some 0) with
  accessFlags := 1537
  interfaces := #[]
  cf := some (fileOf pool25 2 #[.nestMembers #[36]] #[] 1537 93 #[] #[])
  fields := #[]
  methods := #[]
  instanceTypes := #[]
  staticTypes := #[]
  resolved := Array.replicate 263 none
  statics := none }

def pool26 : Array CpInfo := pool [(1, .methodref 2 3), (0, .class_ 4), (0, .nameAndType 5 6), (0, u "java/lang/Object"), (0, u "<init>"), (0, u "()V"), (1, .class_ 10), (1, u "java/util/AbstractMap"), (42, .class_ 54), (0, u "java/util/Map"), (9, u "keySet"), (0, u "Ljava/util/Set;"), (0, .class_ 67), (0, u "java/util/AbstractMap$1"), (5, u "values"), (0, u "Ljava/util/Collection;"), (0, .class_ 76), (0, u "java/util/AbstractMap$2"), (104, .class_ 182), (0, u "java/util/AbstractMap$ViewCollection"), (0, .class_ 184), (0, u "java/util/AbstractMap$SimpleImmutableEntry"), (0, .class_ 186), (0, u "java/util/AbstractMap$SimpleEntry"), (0, .class_ 188), (0, u "java/util/AbstractMap$2$1"), (0, .class_ 190), (0, u "java/util/AbstractMap$1$1")] 5

def k26c0 : Code := { maxStack := 1, maxLocals := 1, code := jdk_71_method_1_code, exceptionTable := #[], attributes := #[] }
def k26m0 : Method := { name := "<init>", desc := "()V", sig := { parameters := [], returnType := none }, accessFlags := 4, code := some k26c0 }
/-- java/util/AbstractMap -/
def k26 : Class := { plain "java/util/AbstractMap" (some 0) with
  accessFlags := 1057
  interfaces := #[25]
  cf := some (fileOf pool26 8 #[.nestMembers #[181, 183, 185, 75, 187, 66, 189]] #[{ accessFlags := 4, nameIndex := 5, descriptorIndex := 6, attributes := #[] }] 1057 2 #[53] #[{ accessFlags := 128, nameIndex := 64, descriptorIndex := 65, attributes := #[] }, { accessFlags := 128, nameIndex := 73, descriptorIndex := 74, attributes := #[] }])
  fields := #[{ name := "keySet", type := (.object "java/util/Set"), accessFlags := 128, slot := 0, constantValue := 0 }, { name := "values", type := (.object "java/util/Collection"), accessFlags := 128, slot := 1, constantValue := 0 }]
  methods := #[k26m0]
  instanceTypes := #[(.object "java/util/Set"), (.object "java/util/Collection")]
  staticTypes := #[]
  resolved := Array.replicate 196 none
  statics := none }

def pool27 : Array CpInfo := pool [(40, .class_ 41), (0, u "java/util/HashMap"), (1, .methodref 44 45), (0, .class_ 46), (0, .nameAndType 47 48), (0, u "java/util/AbstractMap"), (0, u "<init>"), (0, u "()V"), (32, .fieldref 40 82), (0, .nameAndType 83 84), (0, u "loadFactor"), (0, u "F"), (5, u "threshold"), (0, u "I"), (0, .float 1061158912), (8, .class_ 103), (1, u "java/util/Map"), (0, u "size"), (2, u "table"), (0, u "[Ljava/util/HashMap$Node;"), (14, u "entrySet"), (39, .class_ 165), (1, u "java/util/HashMap$Node"), (14, .class_ 181), (0, u "java/util/HashMap$TreeNode"), (22, u "modCount"), (37, u "Ljava/util/Set;"), (0, .class_ 244), (0, u "java/util/HashMap$KeySet"), (18, .class_ 264), (0, u "java/util/HashMap$Values"), (3, .class_ 269), (0, u "java/util/HashMap$EntrySet"), (76, .class_ 348), (1, u "java/util/HashMap$UnsafeHolder"), (43, .class_ 393), (0, u "java/lang/Cloneable"), (0, .class_ 395), (0, u "java/io/Serializable"), (0, u "serialVersionUID"), (0, u "J"), (3, u "DEFAULT_INITIAL_CAPACITY"), (1, u "MAXIMUM_CAPACITY"), (0, u "DEFAULT_LOAD_FACTOR"), (0, u "TREEIFY_THRESHOLD"), (1, u "UNTREEIFY_THRESHOLD"), (1, u "MIN_TREEIFY_CAPACITY"), (186, .class_ 597), (0, u "java/util/HashMap$EntrySpliterator"), (0, .class_ 599), (0, u "java/util/HashMap$ValueSpliterator"), (0, .class_ 601), (0, u "java/util/HashMap$KeySpliterator"), (0, .class_ 603), (0, u "java/util/HashMap$HashMapSpliterator"), (0, .class_ 605), (0, u "java/util/HashMap$EntryIterator"), (0, .class_ 607), (0, u "java/util/HashMap$ValueIterator"), (0, .class_ 609), (0, u "java/util/HashMap$KeyIterator"), (0, .class_ 611), (0, u "java/util/HashMap$HashIterator")] 17

def k27c0 : Code := { maxStack := 2, maxLocals := 1, code := jdk_69_method_7_code, exceptionTable := #[], attributes := #[] }
def k27m0 : Method := { name := "<init>", desc := "()V", sig := { parameters := [], returnType := none }, accessFlags := 1, code := some k27c0 }
/-- java/util/HashMap -/
def k27 : Class := { plain "java/util/HashMap" (some 26) with
  accessFlags := 33
  interfaces := #[25, 16, 3]
  cf := some (fileOf pool27 40 #[.nestMembers #[180, 596, 598, 600, 602, 604, 606, 608, 610, 346, 268, 263, 243, 163]] #[{ accessFlags := 1, nameIndex := 47, descriptorIndex := 48, attributes := #[] }] 33 44 #[101, 392, 394] #[{ accessFlags := 26, nameIndex := 396, descriptorIndex := 397, attributes := #[] }, { accessFlags := 24, nameIndex := 401, descriptorIndex := 91, attributes := #[] }, { accessFlags := 24, nameIndex := 403, descriptorIndex := 91, attributes := #[] }, { accessFlags := 24, nameIndex := 404, descriptorIndex := 84, attributes := #[] }, { accessFlags := 24, nameIndex := 405, descriptorIndex := 91, attributes := #[] }, { accessFlags := 24, nameIndex := 407, descriptorIndex := 91, attributes := #[] }, { accessFlags := 24, nameIndex := 409, descriptorIndex := 91, attributes := #[] }, { accessFlags := 128, nameIndex := 107, descriptorIndex := 108, attributes := #[] }, { accessFlags := 128, nameIndex := 123, descriptorIndex := 242, attributes := #[] }, { accessFlags := 128, nameIndex := 104, descriptorIndex := 91, attributes := #[] }, { accessFlags := 128, nameIndex := 204, descriptorIndex := 91, attributes := #[] }, { accessFlags := 0, nameIndex := 90, descriptorIndex := 91, attributes := #[] }, { accessFlags := 16, nameIndex := 83, descriptorIndex := 84, attributes := #[] }])
  fields := #[{ name := "serialVersionUID", type := .long, accessFlags := 26, slot := 0, constantValue := 0 }, { name := "DEFAULT_INITIAL_CAPACITY", type := .int, accessFlags := 24, slot := 1, constantValue := 0 }, { name := "MAXIMUM_CAPACITY", type := .int, accessFlags := 24, slot := 2, constantValue := 0 }, { name := "DEFAULT_LOAD_FACTOR", type := .float, accessFlags := 24, slot := 3, constantValue := 0 }, { name := "TREEIFY_THRESHOLD", type := .int, accessFlags := 24, slot := 4, constantValue := 0 }, { name := "UNTREEIFY_THRESHOLD", type := .int, accessFlags := 24, slot := 5, constantValue := 0 }, { name := "MIN_TREEIFY_CAPACITY", type := .int, accessFlags := 24, slot := 6, constantValue := 0 }, { name := "table", type := (.array (.object "java/util/HashMap$Node")), accessFlags := 128, slot := 2, constantValue := 0 }, { name := "entrySet", type := (.object "java/util/Set"), accessFlags := 128, slot := 3, constantValue := 0 }, { name := "size", type := .int, accessFlags := 128, slot := 4, constantValue := 0 }, { name := "modCount", type := .int, accessFlags := 128, slot := 5, constantValue := 0 }, { name := "threshold", type := .int, accessFlags := 0, slot := 6, constantValue := 0 }, { name := "loadFactor", type := .float, accessFlags := 16, slot := 7, constantValue := 0 }]
  methods := #[k27m0]
  instanceTypes := #[(.object "java/util/Set"), (.object "java/util/Collection"), (.array (.object "java/util/HashMap$Node")), (.object "java/util/Set"), .int, .int, .int, .float]
  staticTypes := #[.long, .int, .int, .float, .int, .int, .int]
  resolved := Array.replicate 629 none
  statics := none }

def pool28 : Array CpInfo := pool [(2, .class_ 4), (1, u "java/util/SequencedMap"), (38, .class_ 44), (0, u "java/util/SequencedMap$1SeqKeySet"), (3, .class_ 49), (0, u "java/util/SequencedMap$1SeqValues"), (1, .class_ 52), (0, u "java/util/SequencedMap$1SeqEntrySet"), (1, .class_ 55), (0, u "java/lang/Object"), (0, .class_ 57), (0, u "java/util/Map")] 48

/-- java/util/SequencedMap -/
def k28 : Class := { plain "java/util/SequencedMap" (some 0) with
  accessFlags := 1537
  interfaces := #[25]
  cf := some (fileOf pool28 2 #[.nestMembers #[51, 48, 43]] #[] 1537 54 #[56] #[])
  fields := #[]
  methods := #[]
  instanceTypes := #[]
  staticTypes := #[]
  resolved := Array.replicate 106 none
  statics := none }

def pool29 : Array CpInfo := pool [(1, .fieldref 2 3), (0, .class_ 4), (0, .nameAndType 5 6), (0, u "java/util/LinkedHashMap"), (0, u "putMode"), (0, u "I"), (2, u "head"), (0, u "Ljava/util/LinkedHashMap$Entry;"), (2, u "tail"), (1, .class_ 17), (1, u "java/util/LinkedHashMap$Entry"), (5, .class_ 25), (1, u "java/util/HashMap"), (1, u "()V"), (2, u "<init>"), (33, .fieldref 2 65), (0, .nameAndType 66 67), (0, u "accessOrder"), (0, u "Z"), (19, .methodref 23 88), (0, .nameAndType 30 27), (32, .class_ 122), (0, u "java/util/LinkedHashMap$LinkedKeySet"), (20, .class_ 144), (0, u "java/util/LinkedHashMap$LinkedValues"), (9, .class_ 155), (0, u "java/util/LinkedHashMap$LinkedEntrySet"), (44, .class_ 201), (0, u "java/util/LinkedHashMap$ReversedLinkedHashMapView"), (3, .class_ 206), (0, u "java/util/SequencedMap"), (0, u "serialVersionUID"), (0, u "J"), (5, u "PUT_NORM"), (1, u "PUT_FIRST"), (1, u "PUT_LAST"), (143, .class_ 363), (0, u "java/util/LinkedHashMap$LinkedEntryIterator"), (0, .class_ 365), (0, u "java/util/LinkedHashMap$LinkedValueIterator"), (0, .class_ 367), (0, u "java/util/LinkedHashMap$LinkedKeyIterator"), (0, .class_ 369), (0, u "java/util/LinkedHashMap$LinkedHashIterator")] 16

def k29c0 : Code := { maxStack := 2, maxLocals := 1, code := jdk_94_method_16_code, exceptionTable := #[], attributes := #[] }
def k29m0 : Method := { name := "<init>", desc := "()V", sig := { parameters := [], returnType := none }, accessFlags := 1, code := some k29c0 }
/-- java/util/LinkedHashMap -/
def k29 : Class := { plain "java/util/LinkedHashMap" (some 27) with
  accessFlags := 33
  interfaces := #[28]
  cf := some (fileOf pool29 2 #[.nestMembers #[200, 362, 364, 366, 368, 154, 143, 121, 15]] #[{ accessFlags := 1, nameIndex := 30, descriptorIndex := 27, attributes := #[] }] 33 23 #[205] #[{ accessFlags := 26, nameIndex := 207, descriptorIndex := 208, attributes := #[] }, { accessFlags := 128, nameIndex := 9, descriptorIndex := 10, attributes := #[] }, { accessFlags := 128, nameIndex := 13, descriptorIndex := 10, attributes := #[] }, { accessFlags := 16, nameIndex := 66, descriptorIndex := 67, attributes := #[] }, { accessFlags := 24, nameIndex := 214, descriptorIndex := 6, attributes := #[] }, { accessFlags := 24, nameIndex := 216, descriptorIndex := 6, attributes := #[] }, { accessFlags := 24, nameIndex := 218, descriptorIndex := 6, attributes := #[] }, { accessFlags := 128, nameIndex := 5, descriptorIndex := 6, attributes := #[] }])
  fields := #[{ name := "serialVersionUID", type := .long, accessFlags := 26, slot := 0, constantValue := 0 }, { name := "head", type := (.object "java/util/LinkedHashMap$Entry"), accessFlags := 128, slot := 8, constantValue := 0 }, { name := "tail", type := (.object "java/util/LinkedHashMap$Entry"), accessFlags := 128, slot := 9, constantValue := 0 }, { name := "accessOrder", type := .boolean, accessFlags := 16, slot := 10, constantValue := 0 }, { name := "PUT_NORM", type := .int, accessFlags := 24, slot := 1, constantValue := 0 }, { name := "PUT_FIRST", type := .int, accessFlags := 24, slot := 2, constantValue := 0 }, { name := "PUT_LAST", type := .int, accessFlags := 24, slot := 3, constantValue := 0 }, { name := "putMode", type := .int, accessFlags := 128, slot := 11, constantValue := 0 }]
  methods := #[k29m0]
  instanceTypes := #[(.object "java/util/Set"), (.object "java/util/Collection"), (.array (.object "java/util/HashMap$Node")), (.object "java/util/Set"), .int, .int, .int, .float, (.object "java/util/LinkedHashMap$Entry"), (.object "java/util/LinkedHashMap$Entry"), .boolean, .int]
  staticTypes := #[.long, .int, .int, .int]
  resolved := Array.replicate 386 none
  statics := none }

def pool30 : Array CpInfo := pool [(2, .class_ 4), (1, u "java/lang/Enum"), (0, u "name"), (0, u "Ljava/lang/String;"), (2, u "ordinal"), (0, u "I"), (1, .class_ 14), (1, u "java/lang/Object"), (4, u "hash"), (86, .class_ 108), (1, u "java/lang/Enum$EnumDesc"), (2, .class_ 112), (0, u "java/lang/constant/Constable"), (0, .class_ 114), (0, u "java/lang/Comparable"), (0, .class_ 116), (0, u "java/io/Serializable")] 87

/-- java/lang/Enum -/
def k30 : Class := { plain "java/lang/Enum" (some 0) with
  accessFlags := 1057
  interfaces := #[6, 4, 3]
  cf := some (fileOf pool30 2 #[.nestMembers #[106]] #[] 1057 12 #[111, 113, 115] #[{ accessFlags := 18, nameIndex := 5, descriptorIndex := 6, attributes := #[] }, { accessFlags := 18, nameIndex := 9, descriptorIndex := 10, attributes := #[] }, { accessFlags := 2, nameIndex := 19, descriptorIndex := 10, attributes := #[] }])
  fields := #[{ name := "name", type := (.object "java/lang/String"), accessFlags := 18, slot := 0, constantValue := 0 }, { name := "ordinal", type := .int, accessFlags := 18, slot := 1, constantValue := 0 }, { name := "hash", type := .int, accessFlags := 2, slot := 2, constantValue := 0 }]
  methods := #[]
  instanceTypes := #[(.object "java/lang/String"), .int, .int]
  staticTypes := #[]
  resolved := Array.replicate 204 none
  statics := none }

def pool31 : Array CpInfo := pool [(1, .class_ 2), (0, u "com/example/cartouche/cartouche/checking/Level"), (2, u "REQUIRED"), (0, u "Lcom/example/cartouche/cartouche/checking/Level;"), (2, u "RECOMMENDED"), (2, u "$VALUES"), (0, u "[Lcom/example/cartouche/cartouche/checking/Level;"), (6, .class_ 22), (1, u "java/lang/Enum"), (8, u "word"), (0, u "Ljava/lang/String;")] 48

/-- com/example/cartouche/cartouche/checking/Level -/
def k31 : Class := { plain "com/example/cartouche/cartouche/checking/Level" (some 30) with
  accessFlags := 16433
  interfaces := #[]
  cf := some (fileOf pool31 1 #[] #[] 16433 20 #[] #[{ accessFlags := 16409, nameIndex := 5, descriptorIndex := 6, attributes := #[] }, { accessFlags := 16409, nameIndex := 9, descriptorIndex := 6, attributes := #[] }, { accessFlags := 18, nameIndex := 31, descriptorIndex := 32, attributes := #[] }, { accessFlags := 4122, nameIndex := 12, descriptorIndex := 13, attributes := #[] }])
  fields := #[{ name := "REQUIRED", type := (.object "com/example/cartouche/cartouche/checking/Level"), accessFlags := 16409, slot := 0, constantValue := 0 }, { name := "RECOMMENDED", type := (.object "com/example/cartouche/cartouche/checking/Level"), accessFlags := 16409, slot := 1, constantValue := 0 }, { name := "word", type := (.object "java/lang/String"), accessFlags := 18, slot := 3, constantValue := 0 }, { name := "$VALUES", type := (.array (.object "com/example/cartouche/cartouche/checking/Level")), accessFlags := 4122, slot := 2, constantValue := 0 }]
  methods := #[]
  instanceTypes := #[(.object "java/lang/String"), .int, .int, (.object "java/lang/String")]
  staticTypes := #[(.object "com/example/cartouche/cartouche/checking/Level"), (.object "com/example/cartouche/cartouche/checking/Level"), (.array (.object "com/example/cartouche/cartouche/checking/Level"))]
  resolved := Array.replicate 81 none
  statics := some 2 }

def pool32 : Array CpInfo := pool [(16, .class_ 18), (1, u "java/util/Iterator"), (0, u "hasNext"), (0, u "()Z"), (10, .class_ 32), (0, u "java/lang/Object")] 20

def k32m0 : Method := { name := "hasNext", desc := "()Z", sig := { parameters := [], returnType := some .boolean }, accessFlags := 1025, code := none }
/-- java/util/Iterator -/
def k32 : Class := { plain "java/util/Iterator" (some 0) with
  accessFlags := 1537
  interfaces := #[]
  cf := some (fileOf pool32 16 #[] #[{ accessFlags := 1025, nameIndex := 19, descriptorIndex := 20, attributes := #[] }] 1537 31 #[] #[])
  fields := #[]
  methods := #[k32m0]
  instanceTypes := #[]
  staticTypes := #[]
  resolved := Array.replicate 53 none
  statics := none }

def pool33 : Array CpInfo := pool [(1, .class_ 2), (0, u "java/util/ListIterator"), (0, .class_ 4), (0, u "java/lang/Object"), (0, .class_ 6), (0, u "java/util/Iterator")] 20

/-- java/util/ListIterator -/
def k33 : Class := { plain "java/util/ListIterator" (some 0) with
  accessFlags := 1537
  interfaces := #[32]
  cf := some (fileOf pool33 1 #[] #[] 1537 3 #[5] #[])
  fields := #[]
  methods := #[]
  instanceTypes := #[]
  staticTypes := #[]
  resolved := Array.replicate 27 none
  statics := none }

def pool34 : Array CpInfo := pool [(1, .methodref 2 3), (0, .class_ 4), (0, .nameAndType 5 6), (0, u "java/lang/Object"), (0, u "<init>"), (0, u "()V"), (0, .fieldref 8 9), (0, .class_ 10), (0, .nameAndType 11 12), (0, u "java/util/ImmutableCollections$ListItr"), (0, u "list"), (0, u "Ljava/util/List;"), (0, .fieldref 8 14), (0, .nameAndType 15 16), (0, u "size"), (0, u "I"), (0, .fieldref 8 18), (0, .nameAndType 19 16), (0, u "cursor"), (0, .fieldref 8 21), (0, .nameAndType 22 23), (0, u "isListIterator"), (0, u "Z"), (12, .class_ 38), (1, u "java/util/ImmutableCollections"), (2, .class_ 42), (0, u "java/util/ListIterator"), (4, u "(Ljava/util/List;I)V"), (11, u "hasNext"), (0, u "()Z")] 25

def k34c0 : Code := { maxStack := 2, maxLocals := 3, code := jdk_53_method_1_code, exceptionTable := #[], attributes := #[] }
def k34m0 : Method := { name := "<init>", desc := "(Ljava/util/List;I)V", sig := { parameters := [(.object "java/util/List"), .int], returnType := none }, accessFlags := 0, code := some k34c0 }
def k34c1 : Code := { maxStack := 2, maxLocals := 1, code := jdk_53_method_3_code, exceptionTable := #[], attributes := #[] }
def k34m1 : Method := { name := "hasNext", desc := "()Z", sig := { parameters := [], returnType := some .boolean }, accessFlags := 1, code := some k34c1 }
/-- java/util/ImmutableCollections$ListItr -/
def k34 : Class := { plain "java/util/ImmutableCollections$ListItr" (some 0) with
  accessFlags := 48
  interfaces := #[33]
  cf := some (fileOf pool34 8 #[.nestHost 36] #[{ accessFlags := 0, nameIndex := 5, descriptorIndex := 47, attributes := #[] }, { accessFlags := 1, nameIndex := 59, descriptorIndex := 60, attributes := #[] }] 48 2 #[41] #[{ accessFlags := 18, nameIndex := 11, descriptorIndex := 12, attributes := #[] }, { accessFlags := 18, nameIndex := 15, descriptorIndex := 16, attributes := #[] }, { accessFlags := 18, nameIndex := 22, descriptorIndex := 23, attributes := #[] }, { accessFlags := 2, nameIndex := 19, descriptorIndex := 16, attributes := #[] }])
  fields := #[{ name := "list", type := (.object "java/util/List"), accessFlags := 18, slot := 0, constantValue := 0 }, { name := "size", type := .int, accessFlags := 18, slot := 1, constantValue := 0 }, { name := "isListIterator", type := .boolean, accessFlags := 18, slot := 2, constantValue := 0 }, { name := "cursor", type := .int, accessFlags := 2, slot := 3, constantValue := 0 }]
  methods := #[k34m0, k34m1]
  instanceTypes := #[(.object "java/util/List"), .int, .boolean, .int]
  staticTypes := #[]
  resolved := Array.replicate 86 none
  statics := none }

def pool35 : Array CpInfo := pool [(1, .fieldref 2 3), (0, .class_ 4), (0, .nameAndType 5 6), (0, u "java/util/ArrayList$Itr"), (0, u "this$0"), (0, u "Ljava/util/ArrayList;"), (0, .methodref 8 9), (0, .class_ 10), (0, .nameAndType 11 12), (0, u "java/lang/Object"), (0, u "<init>"), (0, u "()V"), (0, .fieldref 2 14), (0, .nameAndType 15 16), (0, u "lastRet"), (0, u "I"), (0, .fieldref 18 19), (0, .class_ 20), (0, .nameAndType 21 16), (0, u "java/util/ArrayList"), (0, u "modCount"), (0, .fieldref 2 23), (0, .nameAndType 24 16), (0, u "expectedModCount"), (0, .fieldref 2 26), (0, .nameAndType 27 16), (0, u "cursor"), (0, .fieldref 18 29), (0, .nameAndType 30 16), (0, u "size"), (38, .class_ 70), (0, u "java/util/Iterator"), (0, u "(Ljava/util/ArrayList;)V"), (8, u "hasNext"), (0, u "()Z")] 22

def k35c0 : Code := { maxStack := 2, maxLocals := 2, code := jdk_49_method_1_code, exceptionTable := #[], attributes := #[] }
def k35m0 : Method := { name := "<init>", desc := "(Ljava/util/ArrayList;)V", sig := { parameters := [(.object "java/util/ArrayList")], returnType := none }, accessFlags := 0, code := some k35c0 }
def k35c1 : Code := { maxStack := 2, maxLocals := 1, code := jdk_49_method_2_code, exceptionTable := #[], attributes := #[] }
def k35m1 : Method := { name := "hasNext", desc := "()Z", sig := { parameters := [], returnType := some .boolean }, accessFlags := 1, code := some k35c1 }
/-- java/util/ArrayList$Itr -/
def k35 : Class := { plain "java/util/ArrayList$Itr" (some 0) with
  accessFlags := 32
  interfaces := #[32]
  cf := some (fileOf pool35 2 #[.nestHost 18] #[{ accessFlags := 0, nameIndex := 11, descriptorIndex := 71, attributes := #[] }, { accessFlags := 1, nameIndex := 80, descriptorIndex := 81, attributes := #[] }] 32 8 #[69] #[{ accessFlags := 0, nameIndex := 27, descriptorIndex := 16, attributes := #[] }, { accessFlags := 0, nameIndex := 15, descriptorIndex := 16, attributes := #[] }, { accessFlags := 0, nameIndex := 24, descriptorIndex := 16, attributes := #[] }, { accessFlags := 4112, nameIndex := 5, descriptorIndex := 6, attributes := #[] }])
  fields := #[{ name := "cursor", type := .int, accessFlags := 0, slot := 0, constantValue := 0 }, { name := "lastRet", type := .int, accessFlags := 0, slot := 1, constantValue := 0 }, { name := "expectedModCount", type := .int, accessFlags := 0, slot := 2, constantValue := 0 }, { name := "this$0", type := (.object "java/util/ArrayList"), accessFlags := 4112, slot := 3, constantValue := 0 }]
  methods := #[k35m0, k35m1]
  instanceTypes := #[.int, .int, .int, (.object "java/util/ArrayList")]
  staticTypes := #[]
  resolved := Array.replicate 104 none
  statics := none }

/-- the primitive byte -/
def k36 : Class := { plain "byte" none with kind := .primitive 'B', accessFlags := 0x411 }
/-- [B -/
def k37 : Class := { plain "[B" (some 0) with kind := .array 36 .byte, interfaces := #[16, 3], accessFlags := 1041 }

/-- the primitive int -/
def k38 : Class := { plain "int" none with kind := .primitive 'I', accessFlags := 0x411 }
/-- [I -/
def k39 : Class := { plain "[I" (some 0) with kind := .array 38 .int, interfaces := #[16, 3], accessFlags := 1041 }

/-- [Ljava/lang/Object; -/
def k40 : Class := { plain "[Ljava/lang/Object;" (some 0) with kind := .array 0 (.object "java/lang/Object"), interfaces := #[16, 3], accessFlags := 1041 }

def heap : Heap := #[{ cls := 17, slots := #[.long 0, .int 0, .ref 7, .ref 8], vm := .statics 17 },
  { cls := 18, slots := #[.long 0, .int 0, .null, .null, .ref 4, .null, .null, .null, .int 0, .int 0], vm := .statics 18 },
  { cls := 31, slots := #[.ref 5, .ref 6, .null], vm := .statics 31 },
  { cls := 40, slots := #[], vm := .none },
  { cls := 22, slots := #[.ref 3, .int 0], vm := .none },
  { cls := 31, slots := #[.null, .int 0, .int 0, .null], vm := .none },
  { cls := 31, slots := #[.null, .int 1, .int 0, .null], vm := .none },
  { cls := 40, slots := #[], vm := .none },
  { cls := 40, slots := #[], vm := .none }]
def classes : Array Class := #[k0, k1, k2, k3, k4, k5, k6, k7, k8, k9, k10, k11, k12, k13, k14, k15, k16, k17, k18, k19, k20, k21, k22, k23, k24, k25, k26, k27, k28, k29, k30, k31, k32, k33, k34, k35, k36, k37, k38, k39, k40]
def interned : List (Array UInt16 × Addr) := []
def slotsUsed : Nat := 27
def theMethod : MethodId := ⟨1, 1⟩
def args0 : Array Value := #[.int 5, .int 1]
def aboutOver (below : List Frame) : State where
  vm := { classes := classes, interned := interned.toArray }
  heap := heap
  slotsUsed := slotsUsed
  threads := #[{ frames := .invoking theMethod args0 :: below }]
def below0 : List Frame := [.native { method := ⟨0, 0⟩, args := #[] }]
def about1 : State := aboutOver below0
def p0 : Program := .bare "" "" ""
def e0 : Env := launch0.env 0 0 0
theorem w_frames : about1.frames = Frame.invoking theMethod args0 :: below0 := rfl
set_option maxRecDepth 65536 in
theorem w_args : argsFit about1.vm theMethod args0 = true := by decide +kernel
set_option maxRecDepth 65536 in
theorem w_heap : heapFits about1 = true := by decide +kernel
set_option maxRecDepth 65536 in
theorem w_runnable : about1.curStatus? = some .runnable := by decide +kernel
set_option maxRecDepth 65536 in
theorem w_alone : about1.alone = true := by decide +kernel
set_option maxRecDepth 65536 in
theorem w_named : about1.methodNamed? x = some theMethod := by decide +kernel
set_option maxRecDepth 65536 in
theorem w_hears : about1.hears theMethod below0 = true := by decide +kernel
set_option maxRecDepth 65536 in
theorem w_ripe : about1.ripe theMethod args0 below0 = true := by decide +kernel
theorem w_running : about1.status = .running := rfl
set_option maxRecDepth 65536 in
theorem w_room : about1.hasRoom e0.platform room_1 = true :=
  launch0.hasRoom_least _ room_1 (by decide +kernel) (by decide +kernel) (by decide +kernel) (by decide +kernel) (by decide +kernel) (by decide +kernel)
theorem allAtoms_all (ts : List Jvm.Cond) (a : Array Jvm.Value) (st : Jvm.State) : (allAtoms ts).before a st = ts.all (fun c => c.before a st) := by
  induction ts with
  | nil => rfl
  | cons c t ih =>
    show (Jvm.Cond.and c (allAtoms t)).before a st = _
    rw [Jvm.Cond.before_and, ih, List.all_cons]
def words1 : List Jvm.Cond := Jvm.Cond.code x code maxLocals ret :: tables_1
/-- a 'code' word, met by the world's own term for the bytes: nothing is compared byte by byte -/
theorem code_word {y : MethodName} {bytes : ByteArray} {mx : Nat} {rt : Option FieldType} {a : Array Value} {s : State} {m : MethodId} {meth : Method} {c : Code} (h1 : s.methodNamed? y = some m) (h2 : s.vm.method? m = some meth) (h3 : meth.code = some c) (h4 : c.code = bytes)
    (h5 : (c.maxLocals == mx && c.exceptionTable.isEmpty && decide (c.maxStack ≤ mostOperands) && decide (meth.sig.returnType = rt) && !meth.locks && decide (parseMethodDescriptor y.desc = some meth.sig)) = true) : (Jvm.Cond.code y bytes mx rt).before a s = true := by
  simp only [Bool.and_eq_true, beq_iff_eq, Bool.not_eq_true', decide_eq_true_eq] at h5
  obtain ⟨⟨⟨⟨⟨g1, g2⟩, g3⟩, g4⟩, g5⟩, g6⟩ := h5
  simp [Cond.before, Cond.holds, Cond.value, h1, h2, h3, h4, g1, g2, g3, g4, g5, g6]
def isCode : Jvm.Cond → Bool
  | .code _ _ _ _ => true
  | _ => false
theorem all_split {L : List Jvm.Cond} {P : Jvm.Cond → Bool} (h1 : L.all (fun c => isCode c || P c) = true) (h2 : ∀ c ∈ L.filter isCode, P c = true) : L.all P = true := by
  refine List.all_eq_true.mpr fun c hc => ?_
  have h := List.all_eq_true.mp h1 c hc
  rcases Bool.eq_false_or_eq_true (isCode c) with hi | hi
  · exact h2 c (List.mem_filter.mpr ⟨hc, hi⟩)
  · simpa [hi] using h
set_option maxRecDepth 65536 in
theorem w_c0 : (Jvm.Cond.code x code maxLocals ret).before args0 about1 = true := code_word (m := ⟨1, 1⟩) (meth := k1m1) (c := k1c1) (by decide +kernel) rfl rfl rfl (by decide +kernel)
set_option maxRecDepth 65536 in
theorem w_c1 : (Jvm.Cond.code ({ cls := "java/util/ArrayList", name := "<init>", desc := "()V" } : Jvm.MethodName) jdk_38_method_2_code (1 : Nat) (Option.none : Option Jvm.ClassFile.FieldType)).before args0 about1 = true := code_word (m := ⟨17, 0⟩) (meth := k17m0) (c := k17c0) (by decide +kernel) rfl rfl rfl (by decide +kernel)
set_option maxRecDepth 65536 in
theorem w_c2 : (Jvm.Cond.code ({ cls := "java/util/AbstractList", name := "<init>", desc := "()V" } : Jvm.MethodName) jdk_39_method_1_code (1 : Nat) (Option.none : Option Jvm.ClassFile.FieldType)).before args0 about1 = true := code_word (m := ⟨14, 0⟩) (meth := k14m0) (c := k14c0) (by decide +kernel) rfl rfl rfl (by decide +kernel)
set_option maxRecDepth 65536 in
theorem w_c3 : (Jvm.Cond.code ({ cls := "java/util/AbstractCollection", name := "<init>", desc := "()V" } : Jvm.MethodName) jdk_22_method_1_code (1 : Nat) (Option.none : Option Jvm.ClassFile.FieldType)).before args0 about1 = true := code_word (m := ⟨11, 0⟩) (meth := k11m0) (c := k11c0) (by decide +kernel) rfl rfl rfl (by decide +kernel)
set_option maxRecDepth 65536 in
theorem w_c4 : (Jvm.Cond.code ({ cls := "java/lang/Object", name := "<init>", desc := "()V" } : Jvm.MethodName) object_method_1_code (1 : Nat) (Option.none : Option Jvm.ClassFile.FieldType)).before args0 about1 = true := code_word (m := ⟨0, 0⟩) (meth := k0m0) (c := k0c0) (by decide +kernel) rfl rfl rfl (by decide +kernel)
set_option maxRecDepth 65536 in
theorem w_c5 : (Jvm.Cond.code ({ cls := "com/example/cartouche/cartouche/checking/Profile", name := "<init>", desc := "(Ljava/lang/String;Ljava/util/List;)V" } : Jvm.MethodName) prog_19_method_1_code (3 : Nat) (Option.none : Option Jvm.ClassFile.FieldType)).before args0 about1 = true := code_word (m := ⟨2, 0⟩) (meth := k2m0) (c := k2c0) (by decide +kernel) rfl rfl rfl (by decide +kernel)
set_option maxRecDepth 65536 in
theorem w_c6 : (Jvm.Cond.code ({ cls := "java/util/List", name := "of", desc := "()Ljava/util/List;" } : Jvm.MethodName) jdk_40_method_36_code (0 : Nat) (Option.some (Jvm.ClassFile.FieldType.object "java/util/List"))).before args0 about1 = true := code_word (m := ⟨13, 2⟩) (meth := k13m2) (c := k13c2) (by decide +kernel) rfl rfl rfl (by decide +kernel)
set_option maxRecDepth 65536 in
theorem w_c7 : (Jvm.Cond.code ({ cls := "com/example/cartouche/cartouche/checking/Profile", name := "<init>", desc := "(Ljava/lang/String;Ljava/util/List;Ljava/util/List;)V" } : Jvm.MethodName) prog_19_method_2_code (4 : Nat) (Option.none : Option Jvm.ClassFile.FieldType)).before args0 about1 = true := code_word (m := ⟨2, 1⟩) (meth := k2m1) (c := k2c1) (by decide +kernel) rfl rfl rfl (by decide +kernel)
set_option maxRecDepth 65536 in
theorem w_c8 : (Jvm.Cond.code ({ cls := "java/util/List", name := "copyOf", desc := "(Ljava/util/Collection;)Ljava/util/List;" } : Jvm.MethodName) jdk_40_method_48_code (1 : Nat) (Option.some (Jvm.ClassFile.FieldType.object "java/util/List"))).before args0 about1 = true := code_word (m := ⟨13, 3⟩) (meth := k13m3) (c := k13c3) (by decide +kernel) rfl rfl rfl (by decide +kernel)
set_option maxRecDepth 65536 in
theorem w_c9 : (Jvm.Cond.code ({ cls := "java/util/ImmutableCollections", name := "listCopy", desc := "(Ljava/util/Collection;)Ljava/util/List;" } : Jvm.MethodName) jdk_56_method_3_code (2 : Nat) (Option.some (Jvm.ClassFile.FieldType.object "java/util/List"))).before args0 about1 = true := code_word (m := ⟨18, 1⟩) (meth := k18m1) (c := k18c1) (by decide +kernel) rfl rfl rfl (by decide +kernel)
set_option maxRecDepth 65536 in
theorem w_c10 : (Jvm.Cond.code ({ cls := "java/util/ArrayList", name := "isEmpty", desc := "()Z" } : Jvm.MethodName) jdk_38_method_9_code (1 : Nat) (Option.some Jvm.ClassFile.FieldType.boolean)).before args0 about1 = true := code_word (m := ⟨17, 1⟩) (meth := k17m1) (c := k17c1) (by decide +kernel) rfl rfl rfl (by decide +kernel)
set_option maxRecDepth 65536 in
theorem w_c11 : (Jvm.Cond.code ({ cls := "com/example/cartouche/cartouche/checking/Verdict", name := "<init>", desc := "(Ljava/util/OptionalInt;Ljava/util/List;)V" } : Jvm.MethodName) prog_34_method_1_code (3 : Nat) (Option.none : Option Jvm.ClassFile.FieldType)).before args0 about1 = true := code_word (m := ⟨23, 0⟩) (meth := k23m0) (c := k23c0) (by decide +kernel) rfl rfl rfl (by decide +kernel)
set_option maxRecDepth 65536 in
theorem w_c12 : (Jvm.Cond.code ({ cls := "com/example/cartouche/cartouche/checking/Summary", name := "<init>", desc := "(Lcom/example/cartouche/cartouche/checking/Profile;)V" } : Jvm.MethodName) prog_30_method_1_code (4 : Nat) (Option.none : Option Jvm.ClassFile.FieldType)).before args0 about1 = true := code_word (m := ⟨24, 0⟩) (meth := k24m0) (c := k24c0) (by decide +kernel) rfl rfl rfl (by decide +kernel)
set_option maxRecDepth 65536 in
theorem w_c13 : (Jvm.Cond.code ({ cls := "java/util/LinkedHashMap", name := "<init>", desc := "()V" } : Jvm.MethodName) jdk_94_method_16_code (1 : Nat) (Option.none : Option Jvm.ClassFile.FieldType)).before args0 about1 = true := code_word (m := ⟨29, 0⟩) (meth := k29m0) (c := k29c0) (by decide +kernel) rfl rfl rfl (by decide +kernel)
set_option maxRecDepth 65536 in
theorem w_c14 : (Jvm.Cond.code ({ cls := "java/util/HashMap", name := "<init>", desc := "()V" } : Jvm.MethodName) jdk_69_method_7_code (1 : Nat) (Option.none : Option Jvm.ClassFile.FieldType)).before args0 about1 = true := code_word (m := ⟨27, 0⟩) (meth := k27m0) (c := k27c0) (by decide +kernel) rfl rfl rfl (by decide +kernel)
set_option maxRecDepth 65536 in
theorem w_c15 : (Jvm.Cond.code ({ cls := "java/util/AbstractMap", name := "<init>", desc := "()V" } : Jvm.MethodName) jdk_71_method_1_code (1 : Nat) (Option.none : Option Jvm.ClassFile.FieldType)).before args0 about1 = true := code_word (m := ⟨26, 0⟩) (meth := k26m0) (c := k26c0) (by decide +kernel) rfl rfl rfl (by decide +kernel)
set_option maxRecDepth 65536 in
theorem w_c16 : (Jvm.Cond.code ({ cls := "com/example/cartouche/cartouche/checking/Profile", name := "ruleIds", desc := "(Lcom/example/cartouche/cartouche/checking/Level;)Ljava/util/List;" } : Jvm.MethodName) prog_19_method_8_code (5 : Nat) (Option.some (Jvm.ClassFile.FieldType.object "java/util/List"))).before args0 about1 = true := code_word (m := ⟨2, 2⟩) (meth := k2m2) (c := k2c2) (by decide +kernel) rfl rfl rfl (by decide +kernel)
set_option maxRecDepth 65536 in
theorem w_c17 : (Jvm.Cond.code ({ cls := "java/util/ImmutableCollections$AbstractImmutableList", name := "iterator", desc := "()Ljava/util/Iterator;" } : Jvm.MethodName) jdk_46_method_10_code (1 : Nat) (Option.some (Jvm.ClassFile.FieldType.object "java/util/Iterator"))).before args0 about1 = true := code_word (m := ⟨20, 1⟩) (meth := k20m1) (c := k20c1) (by decide +kernel) rfl rfl rfl (by decide +kernel)
set_option maxRecDepth 65536 in
theorem w_c18 : (Jvm.Cond.code ({ cls := "java/util/ImmutableCollections$ListN", name := "size", desc := "()I" } : Jvm.MethodName) jdk_45_method_3_code (1 : Nat) (Option.some Jvm.ClassFile.FieldType.int)).before args0 about1 = true := code_word (m := ⟨22, 0⟩) (meth := k22m0) (c := k22c0) (by decide +kernel) rfl rfl rfl (by decide +kernel)
set_option maxRecDepth 65536 in
theorem w_c19 : (Jvm.Cond.code ({ cls := "java/util/ImmutableCollections$ListItr", name := "<init>", desc := "(Ljava/util/List;I)V" } : Jvm.MethodName) jdk_53_method_1_code (3 : Nat) (Option.none : Option Jvm.ClassFile.FieldType)).before args0 about1 = true := code_word (m := ⟨34, 0⟩) (meth := k34m0) (c := k34c0) (by decide +kernel) rfl rfl rfl (by decide +kernel)
set_option maxRecDepth 65536 in
theorem w_c20 : (Jvm.Cond.code ({ cls := "java/util/ImmutableCollections$ListItr", name := "hasNext", desc := "()Z" } : Jvm.MethodName) jdk_53_method_3_code (1 : Nat) (Option.some Jvm.ClassFile.FieldType.boolean)).before args0 about1 = true := code_word (m := ⟨34, 1⟩) (meth := k34m1) (c := k34c1) (by decide +kernel) rfl rfl rfl (by decide +kernel)
set_option maxRecDepth 65536 in
theorem w_c21 : (Jvm.Cond.code ({ cls := "java/util/ArrayList", name := "iterator", desc := "()Ljava/util/Iterator;" } : Jvm.MethodName) jdk_38_method_55_code (1 : Nat) (Option.some (Jvm.ClassFile.FieldType.object "java/util/Iterator"))).before args0 about1 = true := code_word (m := ⟨17, 2⟩) (meth := k17m2) (c := k17c2) (by decide +kernel) rfl rfl rfl (by decide +kernel)
set_option maxRecDepth 65536 in
theorem w_c22 : (Jvm.Cond.code ({ cls := "java/util/ArrayList$Itr", name := "<init>", desc := "(Ljava/util/ArrayList;)V" } : Jvm.MethodName) jdk_49_method_1_code (2 : Nat) (Option.none : Option Jvm.ClassFile.FieldType)).before args0 about1 = true := code_word (m := ⟨35, 0⟩) (meth := k35m0) (c := k35c0) (by decide +kernel) rfl rfl rfl (by decide +kernel)
set_option maxRecDepth 65536 in
theorem w_c23 : (Jvm.Cond.code ({ cls := "java/util/ArrayList$Itr", name := "hasNext", desc := "()Z" } : Jvm.MethodName) jdk_49_method_2_code (1 : Nat) (Option.some Jvm.ClassFile.FieldType.boolean)).before args0 about1 = true := code_word (m := ⟨35, 1⟩) (meth := k35m1) (c := k35c1) (by decide +kernel) rfl rfl rfl (by decide +kernel)
set_option maxRecDepth 65536 in
theorem w_c24 : (Jvm.Cond.code ({ cls := "com/example/cartouche/cartouche/checking/Summary", name := "passed", desc := "()Z" } : Jvm.MethodName) prog_30_method_9_code (1 : Nat) (Option.some Jvm.ClassFile.FieldType.boolean)).before args0 about1 = true := code_word (m := ⟨24, 3⟩) (meth := k24m3) (c := k24c3) (by decide +kernel) rfl rfl rfl (by decide +kernel)
set_option maxRecDepth 65536 in
theorem w_c25 : (Jvm.Cond.code ({ cls := "com/example/cartouche/cartouche/checking/Summary", name := "count", desc := "(Lcom/example/cartouche/cartouche/checking/Verdict;)V" } : Jvm.MethodName) prog_30_method_2_code (4 : Nat) (Option.none : Option Jvm.ClassFile.FieldType)).before args0 about1 = true := code_word (m := ⟨24, 1⟩) (meth := k24m1) (c := k24c1) (by decide +kernel) rfl rfl rfl (by decide +kernel)
set_option maxRecDepth 65536 in
theorem w_c26 : (Jvm.Cond.code ({ cls := "com/example/cartouche/cartouche/checking/Verdict", name := "conforms", desc := "()Z" } : Jvm.MethodName) prog_34_method_6_code (1 : Nat) (Option.some Jvm.ClassFile.FieldType.boolean)).before args0 about1 = true := code_word (m := ⟨23, 3⟩) (meth := k23m3) (c := k23c3) (by decide +kernel) rfl rfl rfl (by decide +kernel)
set_option maxRecDepth 65536 in
theorem w_c27 : (Jvm.Cond.code ({ cls := "com/example/cartouche/cartouche/checking/Verdict", name := "failed", desc := "()Ljava/util/List;" } : Jvm.MethodName) prog_34_method_4_code (1 : Nat) (Option.some (Jvm.ClassFile.FieldType.object "java/util/List"))).before args0 about1 = true := code_word (m := ⟨23, 1⟩) (meth := k23m1) (c := k23c1) (by decide +kernel) rfl rfl rfl (by decide +kernel)
set_option maxRecDepth 65536 in
theorem w_c28 : (Jvm.Cond.code ({ cls := "com/example/cartouche/cartouche/checking/Verdict", name := "broken", desc := "(Lcom/example/cartouche/cartouche/checking/Level;)Ljava/util/List;" } : Jvm.MethodName) prog_34_method_7_code (6 : Nat) (Option.some (Jvm.ClassFile.FieldType.object "java/util/List"))).before args0 about1 = true := code_word (m := ⟨23, 4⟩) (meth := k23m4) (c := k23c4) (by decide +kernel) rfl rfl rfl (by decide +kernel)
set_option maxRecDepth 65536 in
theorem w_c29 : (Jvm.Cond.code ({ cls := "com/example/cartouche/cartouche/checking/Verdict", name := "warned", desc := "()Ljava/util/List;" } : Jvm.MethodName) prog_34_method_5_code (1 : Nat) (Option.some (Jvm.ClassFile.FieldType.object "java/util/List"))).before args0 about1 = true := code_word (m := ⟨23, 2⟩) (meth := k23m2) (c := k23c2) (by decide +kernel) rfl rfl rfl (by decide +kernel)
set_option maxRecDepth 65536 in
theorem w_c30 : (Jvm.Cond.code ({ cls := "com/example/cartouche/cartouche/checking/Summary", name := "countUnreadable", desc := "()V" } : Jvm.MethodName) prog_30_method_3_code (1 : Nat) (Option.none : Option Jvm.ClassFile.FieldType)).before args0 about1 = true := code_word (m := ⟨24, 2⟩) (meth := k24m2) (c := k24c2) (by decide +kernel) rfl rfl rfl (by decide +kernel)
def codes1 : List Jvm.Cond := [Jvm.Cond.code x code maxLocals ret, Jvm.Cond.code ({ cls := "java/util/ArrayList", name := "<init>", desc := "()V" } : Jvm.MethodName) jdk_38_method_2_code (1 : Nat) (Option.none : Option Jvm.ClassFile.FieldType), Jvm.Cond.code ({ cls := "java/util/AbstractList", name := "<init>", desc := "()V" } : Jvm.MethodName) jdk_39_method_1_code (1 : Nat) (Option.none : Option Jvm.ClassFile.FieldType), Jvm.Cond.code ({ cls := "java/util/AbstractCollection", name := "<init>", desc := "()V" } : Jvm.MethodName) jdk_22_method_1_code (1 : Nat) (Option.none : Option Jvm.ClassFile.FieldType), Jvm.Cond.code ({ cls := "java/lang/Object", name := "<init>", desc := "()V" } : Jvm.MethodName) object_method_1_code (1 : Nat) (Option.none : Option Jvm.ClassFile.FieldType), Jvm.Cond.code ({ cls := "com/example/cartouche/cartouche/checking/Profile", name := "<init>", desc := "(Ljava/lang/String;Ljava/util/List;)V" } : Jvm.MethodName) prog_19_method_1_code (3 : Nat) (Option.none : Option Jvm.ClassFile.FieldType), Jvm.Cond.code ({ cls := "java/util/List", name := "of", desc := "()Ljava/util/List;" } : Jvm.MethodName) jdk_40_method_36_code (0 : Nat) (Option.some (Jvm.ClassFile.FieldType.object "java/util/List")), Jvm.Cond.code ({ cls := "com/example/cartouche/cartouche/checking/Profile", name := "<init>", desc := "(Ljava/lang/String;Ljava/util/List;Ljava/util/List;)V" } : Jvm.MethodName) prog_19_method_2_code (4 : Nat) (Option.none : Option Jvm.ClassFile.FieldType), Jvm.Cond.code ({ cls := "java/util/List", name := "copyOf", desc := "(Ljava/util/Collection;)Ljava/util/List;" } : Jvm.MethodName) jdk_40_method_48_code (1 : Nat) (Option.some (Jvm.ClassFile.FieldType.object "java/util/List")), Jvm.Cond.code ({ cls := "java/util/ImmutableCollections", name := "listCopy", desc := "(Ljava/util/Collection;)Ljava/util/List;" } : Jvm.MethodName) jdk_56_method_3_code (2 : Nat) (Option.some (Jvm.ClassFile.FieldType.object "java/util/List")), Jvm.Cond.code ({ cls := "java/util/ArrayList", name := "isEmpty", desc := "()Z" } : Jvm.MethodName) jdk_38_method_9_code (1 : Nat) (Option.some Jvm.ClassFile.FieldType.boolean), Jvm.Cond.code ({ cls := "com/example/cartouche/cartouche/checking/Verdict", name := "<init>", desc := "(Ljava/util/OptionalInt;Ljava/util/List;)V" } : Jvm.MethodName) prog_34_method_1_code (3 : Nat) (Option.none : Option Jvm.ClassFile.FieldType), Jvm.Cond.code ({ cls := "com/example/cartouche/cartouche/checking/Summary", name := "<init>", desc := "(Lcom/example/cartouche/cartouche/checking/Profile;)V" } : Jvm.MethodName) prog_30_method_1_code (4 : Nat) (Option.none : Option Jvm.ClassFile.FieldType), Jvm.Cond.code ({ cls := "java/util/LinkedHashMap", name := "<init>", desc := "()V" } : Jvm.MethodName) jdk_94_method_16_code (1 : Nat) (Option.none : Option Jvm.ClassFile.FieldType), Jvm.Cond.code ({ cls := "java/util/HashMap", name := "<init>", desc := "()V" } : Jvm.MethodName) jdk_69_method_7_code (1 : Nat) (Option.none : Option Jvm.ClassFile.FieldType), Jvm.Cond.code ({ cls := "java/util/AbstractMap", name := "<init>", desc := "()V" } : Jvm.MethodName) jdk_71_method_1_code (1 : Nat) (Option.none : Option Jvm.ClassFile.FieldType), Jvm.Cond.code ({ cls := "com/example/cartouche/cartouche/checking/Profile", name := "ruleIds", desc := "(Lcom/example/cartouche/cartouche/checking/Level;)Ljava/util/List;" } : Jvm.MethodName) prog_19_method_8_code (5 : Nat) (Option.some (Jvm.ClassFile.FieldType.object "java/util/List")), Jvm.Cond.code ({ cls := "java/util/ImmutableCollections$AbstractImmutableList", name := "iterator", desc := "()Ljava/util/Iterator;" } : Jvm.MethodName) jdk_46_method_10_code (1 : Nat) (Option.some (Jvm.ClassFile.FieldType.object "java/util/Iterator")), Jvm.Cond.code ({ cls := "java/util/ImmutableCollections$ListN", name := "size", desc := "()I" } : Jvm.MethodName) jdk_45_method_3_code (1 : Nat) (Option.some Jvm.ClassFile.FieldType.int), Jvm.Cond.code ({ cls := "java/util/ImmutableCollections$ListItr", name := "<init>", desc := "(Ljava/util/List;I)V" } : Jvm.MethodName) jdk_53_method_1_code (3 : Nat) (Option.none : Option Jvm.ClassFile.FieldType), Jvm.Cond.code ({ cls := "java/util/ImmutableCollections$ListItr", name := "hasNext", desc := "()Z" } : Jvm.MethodName) jdk_53_method_3_code (1 : Nat) (Option.some Jvm.ClassFile.FieldType.boolean), Jvm.Cond.code ({ cls := "java/util/ArrayList", name := "iterator", desc := "()Ljava/util/Iterator;" } : Jvm.MethodName) jdk_38_method_55_code (1 : Nat) (Option.some (Jvm.ClassFile.FieldType.object "java/util/Iterator")), Jvm.Cond.code ({ cls := "java/util/ArrayList$Itr", name := "<init>", desc := "(Ljava/util/ArrayList;)V" } : Jvm.MethodName) jdk_49_method_1_code (2 : Nat) (Option.none : Option Jvm.ClassFile.FieldType), Jvm.Cond.code ({ cls := "java/util/ArrayList$Itr", name := "hasNext", desc := "()Z" } : Jvm.MethodName) jdk_49_method_2_code (1 : Nat) (Option.some Jvm.ClassFile.FieldType.boolean), Jvm.Cond.code ({ cls := "com/example/cartouche/cartouche/checking/Summary", name := "passed", desc := "()Z" } : Jvm.MethodName) prog_30_method_9_code (1 : Nat) (Option.some Jvm.ClassFile.FieldType.boolean), Jvm.Cond.code ({ cls := "com/example/cartouche/cartouche/checking/Summary", name := "count", desc := "(Lcom/example/cartouche/cartouche/checking/Verdict;)V" } : Jvm.MethodName) prog_30_method_2_code (4 : Nat) (Option.none : Option Jvm.ClassFile.FieldType), Jvm.Cond.code ({ cls := "com/example/cartouche/cartouche/checking/Verdict", name := "conforms", desc := "()Z" } : Jvm.MethodName) prog_34_method_6_code (1 : Nat) (Option.some Jvm.ClassFile.FieldType.boolean), Jvm.Cond.code ({ cls := "com/example/cartouche/cartouche/checking/Verdict", name := "failed", desc := "()Ljava/util/List;" } : Jvm.MethodName) prog_34_method_4_code (1 : Nat) (Option.some (Jvm.ClassFile.FieldType.object "java/util/List")), Jvm.Cond.code ({ cls := "com/example/cartouche/cartouche/checking/Verdict", name := "broken", desc := "(Lcom/example/cartouche/cartouche/checking/Level;)Ljava/util/List;" } : Jvm.MethodName) prog_34_method_7_code (6 : Nat) (Option.some (Jvm.ClassFile.FieldType.object "java/util/List")), Jvm.Cond.code ({ cls := "com/example/cartouche/cartouche/checking/Verdict", name := "warned", desc := "()Ljava/util/List;" } : Jvm.MethodName) prog_34_method_5_code (1 : Nat) (Option.some (Jvm.ClassFile.FieldType.object "java/util/List")), Jvm.Cond.code ({ cls := "com/example/cartouche/cartouche/checking/Summary", name := "countUnreadable", desc := "()V" } : Jvm.MethodName) prog_30_method_3_code (1 : Nat) (Option.none : Option Jvm.ClassFile.FieldType)]
set_option maxRecDepth 65536 in
theorem codes_eq : words1.filter isCode = codes1 := rfl
theorem w_codes : ∀ c ∈ words1.filter isCode, c.before args0 about1 = true := by
  rw [codes_eq]
  intro c hc
  simp only [codes1, List.mem_cons, List.not_mem_nil, or_false] at hc
  rcases hc with rfl | rfl | rfl | rfl | rfl | rfl | rfl | rfl | rfl | rfl | rfl | rfl | rfl | rfl | rfl | rfl | rfl | rfl | rfl | rfl | rfl | rfl | rfl | rfl | rfl | rfl | rfl | rfl | rfl | rfl | rfl
  · exact w_c0
  · exact w_c1
  · exact w_c2
  · exact w_c3
  · exact w_c4
  · exact w_c5
  · exact w_c6
  · exact w_c7
  · exact w_c8
  · exact w_c9
  · exact w_c10
  · exact w_c11
  · exact w_c12
  · exact w_c13
  · exact w_c14
  · exact w_c15
  · exact w_c16
  · exact w_c17
  · exact w_c18
  · exact w_c19
  · exact w_c20
  · exact w_c21
  · exact w_c22
  · exact w_c23
  · exact w_c24
  · exact w_c25
  · exact w_c26
  · exact w_c27
  · exact w_c28
  · exact w_c29
  · exact w_c30
set_option maxRecDepth 65536 in
theorem w_t1 : (words1.take 24).all (fun c => isCode c || c.before args0 about1) = true := by decide +kernel
set_option maxRecDepth 65536 in
theorem w_t2 : ((words1.drop 24).take 24).all (fun c => isCode c || c.before args0 about1) = true := by decide +kernel
set_option maxRecDepth 65536 in
theorem w_t3 : (((words1.drop 24).drop 24).take 24).all (fun c => isCode c || c.before args0 about1) = true := by decide +kernel
set_option maxRecDepth 65536 in
theorem w_t4 : ((((words1.drop 24).drop 24).drop 24).take 24).all (fun c => isCode c || c.before args0 about1) = true := by decide +kernel
set_option maxRecDepth 65536 in
theorem w_t5 : (((((words1.drop 24).drop 24).drop 24).drop 24).take 24).all (fun c => isCode c || c.before args0 about1) = true := by decide +kernel
set_option maxRecDepth 65536 in
theorem w_t6 : ((((((words1.drop 24).drop 24).drop 24).drop 24).drop 24).take 24).all (fun c => isCode c || c.before args0 about1) = true := by decide +kernel
set_option maxRecDepth 65536 in
theorem w_t7 : (((((((words1.drop 24).drop 24).drop 24).drop 24).drop 24).drop 24).take 24).all (fun c => isCode c || c.before args0 about1) = true := by decide +kernel
set_option maxRecDepth 65536 in
theorem w_t8 : ((((((((words1.drop 24).drop 24).drop 24).drop 24).drop 24).drop 24).drop 24).take 24).all (fun c => isCode c || c.before args0 about1) = true := by decide +kernel
set_option maxRecDepth 65536 in
theorem w_t9 : (((((((((words1.drop 24).drop 24).drop 24).drop 24).drop 24).drop 24).drop 24).drop 24).take 24).all (fun c => isCode c || c.before args0 about1) = true := by decide +kernel
set_option maxRecDepth 65536 in
theorem w_t10 : ((((((((((words1.drop 24).drop 24).drop 24).drop 24).drop 24).drop 24).drop 24).drop 24).drop 24).take 24).all (fun c => isCode c || c.before args0 about1) = true := by decide +kernel
set_option maxRecDepth 65536 in
theorem w_t11 : (((((((((((words1.drop 24).drop 24).drop 24).drop 24).drop 24).drop 24).drop 24).drop 24).drop 24).drop 24).take 24).all (fun c => isCode c || c.before args0 about1) = true := by decide +kernel
set_option maxRecDepth 65536 in
theorem w_t12 : (((((((((((words1.drop 24).drop 24).drop 24).drop 24).drop 24).drop 24).drop 24).drop 24).drop 24).drop 24).drop 24).all (fun c => isCode c || c.before args0 about1) = true := by decide +kernel
theorem w_tables : (allAtoms (Jvm.Cond.code x code maxLocals ret :: tables_1)).before args0 about1 = true := by
  rw [allAtoms_all]
  show words1.all (fun c => c.before args0 about1) = true
  refine all_split ?_ w_codes
  rw [← List.take_append_drop 24 words1, List.all_append, w_t1, ← List.take_append_drop 24 (words1.drop 24), List.all_append, w_t2, ← List.take_append_drop 24 ((words1.drop 24).drop 24), List.all_append, w_t3, ← List.take_append_drop 24 (((words1.drop 24).drop 24).drop 24), List.all_append, w_t4, ← List.take_append_drop 24 ((((words1.drop 24).drop 24).drop 24).drop 24), List.all_append, w_t5, ← List.take_append_drop 24 (((((words1.drop 24).drop 24).drop 24).drop 24).drop 24), List.all_append, w_t6, ← List.take_append_drop 24 ((((((words1.drop 24).drop 24).drop 24).drop 24).drop 24).drop 24), List.all_append, w_t7, ← List.take_append_drop 24 (((((((words1.drop 24).drop 24).drop 24).drop 24).drop 24).drop 24).drop 24), List.all_append, w_t8, ← List.take_append_drop 24 ((((((((words1.drop 24).drop 24).drop 24).drop 24).drop 24).drop 24).drop 24).drop 24), List.all_append, w_t9, ← List.take_append_drop 24 (((((((((words1.drop 24).drop 24).drop 24).drop 24).drop 24).drop 24).drop 24).drop 24).drop 24), List.all_append, w_t10, ← List.take_append_drop 24 ((((((((((words1.drop 24).drop 24).drop 24).drop 24).drop 24).drop 24).drop 24).drop 24).drop 24).drop 24), List.all_append, w_t11, w_t12]
  rfl
set_option maxRecDepth 65536 in
theorem w_rest : rest_1_c.before args0 about1 = true := by decide +kernel
set_option maxRecDepth 65536 in
theorem w_case : (Jvm.Cond.and given_1 narrow_1).before args0 about1 = true := by decide +kernel
theorem w_applies : (headSpec (Jvm.Cond.code x code maxLocals ret :: tables_1) room_1).applies x e0.platform about1 = true :=
  (Spec.applies_iff w_frames).mpr ⟨w_running, w_runnable, w_alone, w_named, w_hears, w_ripe, w_room, w_tables⟩
theorem atStart : AtStart classFile x code maxLocals ret World_1 tables_1 room_1 Calls_1 rest_1 Pre_1 launch0 p0 e0 about1 theMethod args0 below0 :=
  ⟨lists_1, trivial, launch0.admits_env _ _ _, launch0.least_env, fairChoices_fair.cas, fairChoices_fair.clock, w_frames, w_args, w_heap, w_applies, trivial, w_rest, w_case⟩
end start1
theorem witness_1 : WitnessClaimed_1 := ⟨start1.p0, start1.e0, start1.about1, start1.theMethod, start1.args0, start1.below0, start1.atStart⟩
end Jvm.Pilot.@@N@@
