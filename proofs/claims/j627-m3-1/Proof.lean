import JvmDerived
import JvmDerived.Pilot.@@N@@Statement
import JvmDerived.Pilot.@@N@@Code
set_option linter.unusedVariables false
set_option linter.unusedSimpArgs false
namespace Jvm.Pilot.@@N@@
open Jvm Jvm.ClassFile Sem Op Lib Jvm.Free Jvm.Stand Jvm.LawKit Jvm.RoadKit Bundle Jvm.Pilot.@@N@@.Jvm.D
section OwnKit
variable {p : Program} {l : Launch} {e : Env} {R : Room} {s : State} {m : MethodId} {args : Array Value} {below : List Frame} {meth : Method} {c : Code} {T : State} {locs : List Loc} {cells slots : Nat}
/-- from S the run comes to an end that Φ takes -/
def own_G (tb : Tables) (e : Env) (below : List Frame) (Φ : State → Outcome → Prop) (S : State) : Prop := ∃ t o, Steps tb e below S t ∧ t.status = .running ∧ Ended t below o ∧ Φ t o
def own_E (s : State) (Q : Option Value → Heap → List Loc → Prop) (kc ks : Nat) : State → Outcome → Prop := fun t o => ∃ v L, o = .returned v ∧ Q v t.heap L ∧ FrameEnd s o t L kc ks
theorem own_st {tb : Tables} {Φ : State → Outcome → Prop} {S S' : State} (h : ∀ t, Steps tb e below S' t → Steps tb e below S t) (g : own_G tb e below Φ S') : own_G tb e below Φ S := by
  obtain ⟨t, o, a, b⟩ := g
  exact ⟨t, o, h t a, b⟩
theorem own_tr {tb : Tables} {Φ : State → Outcome → Prop} {S S' : State} (h : Steps tb e below S S') (g : own_G tb e below Φ S') : own_G tb e below Φ S := by
  obtain ⟨t, o, a, b⟩ := g
  exact ⟨t, o, h.trans a, b⟩
theorem own_in {s₁ : State} (kc ks : Nat) (Q : Option Value → Heap → List Loc → Prop) {mL : Nat} {g : JFrame} (ef : entryFrame m args mL = g) (k : own_G p.tables e below (own_E s Q kc ks) (s₁.setTop g)) :
    ∃ s₂ o, Steps p.tables e below (s₁.setTop (entryFrame m args mL)) s₂ ∧ s₂.status = .running ∧ Ended s₂ below o ∧ ∃ v L, o = .returned v ∧ Q v s₂.heap L ∧ FrameEnd s o s₂ L kc ks := by
  rw [ef]
  exact k
theorem own_retI0 (X : Stand p l e R s m args below meth c T locs cells slots) (hx : p.tables.exec = Jvm.exec) {pc : Nat} {Ls : Array Slot} {z : Int32} {rest : List Value} (hret : meth.sig.returnType = some .int) (hd : decode c.code pc = .ok (.ireturn, 1)) {fs : List Frame}
    (hl : ∀ (f : JFrame) (acts : List Action), f.method = m → f.locked = none → f.entered = [] → (doReturn e (T.setTop f) acts (some (.int z))).1 = T.setFrames fs) : Steps p.tables e below (T.setTop (mkF m pc Ls (.int z :: rest))) (T.setFrames fs) :=
  retOut X hx hret rfl (Or.inl ⟨rfl, Or.inl rfl, z, rfl⟩) hd hl
theorem own_retI (X : Stand p l e R s m args below meth c T locs cells slots) (hx : p.tables.exec = Jvm.exec) (hlk : meth.locks = false) {pc : Nat} {Ls : Array Slot} {z : Int32} {rest : List Value} (hret : meth.sig.returnType = some .int) (hd : decode c.code pc = .ok (.ireturn, 1))
    {Q : Option Value → Heap → List Loc → Prop} {kc ks : Nat} (hc : cells ≤ kc) (hs : slots ≤ ks) (q : Q (some (.int z)) T.heap locs) : own_G p.tables e below (own_E s Q kc ks) (T.setTop (mkF m pc Ls (.int z :: rest))) := by
  obtain ⟨fs, hr, hrun, hended, hW, hsame⟩ := X.leave (v := some (.int z)) (fun h => by rw [hret] at h; cases h)
  exact ⟨_, _, own_retI0 X hx hret hd hr, hrun, hended, _, _, rfl, q, ⟨_, rfl⟩, hW, hsame.mono hc hs⟩
theorem own_retN (X : Stand p l e R s m args below meth c T locs cells slots) (hx : p.tables.exec = Jvm.exec) (hlk : meth.locks = false) {pc : Nat} {Ls : Array Slot} {z : Int32} {t : FieldType} {rest : List Value} (hret : meth.sig.returnType = some t) (ht : t = .boolean ∨ t = .byte ∨ t = .char ∨ t = .short) (hd : decode c.code pc = .ok (.ireturn, 1))
    {Q : Option Value → Heap → List Loc → Prop} {kc ks : Nat} (hc : cells ≤ kc) (hs : slots ≤ ks) {v' : Int32} (hv : nar t z = v') (q : Q (some (.int v')) T.heap locs) : own_G p.tables e below (own_E s Q kc ks) (T.setTop (mkF m pc Ls (.int z :: rest))) := by
  subst hv
  obtain ⟨fs, hr, hrun, hended, hW, hsame⟩ := X.leave (v := some (.int (nar t z))) (fun h => by rw [hret] at h; cases h)
  exact ⟨_, _, retN X hx hret ht hd hr, hrun, hended, _, _, rfl, q, ⟨_, rfl⟩, hW, hsame.mono hc hs⟩
theorem own_retA (X : Stand p l e R s m args below meth c T locs cells slots) (hx : p.tables.exec = Jvm.exec) (hlk : meth.locks = false) {pc : Nat} {Ls : Array Slot} {w : Value} {t : FieldType} {rest : List Value} (hret : meth.sig.returnType = some t) (ht : t.isReference = true) (hw : w.isRef = true) (hd : decode c.code pc = .ok (.areturn, 1))
    {Q : Option Value → Heap → List Loc → Prop} {kc ks : Nat} (hc : cells ≤ kc) (hs : slots ≤ ks) (q : Q (some w) T.heap locs) : own_G p.tables e below (own_E s Q kc ks) (T.setTop (mkF m pc Ls (w :: rest))) := by
  obtain ⟨fs, hr, hrun, hended, hW, hsame⟩ := X.leave (v := some w) (fun h => by rw [hret] at h; cases h)
  have hn : narrow t w = w := by rcases ref_cases hw with rfl | ⟨a, rfl⟩ <;> cases t <;> rfl
  exact ⟨_, _, retOut X hx hret hn (Or.inr (Or.inr (Or.inr (Or.inr ⟨rfl, ht, hw⟩)))) hd hr, hrun, hended, _, _, rfl, q, ⟨_, rfl⟩, hW, hsame.mono hc hs⟩
theorem own_retJ (X : Stand p l e R s m args below meth c T locs cells slots) (hx : p.tables.exec = Jvm.exec) (hlk : meth.locks = false) {pc : Nat} {Ls : Array Slot} {z : Int64} {rest : List Value} (hret : meth.sig.returnType = some .long) (hd : decode c.code pc = .ok (.lreturn, 1))
    {Q : Option Value → Heap → List Loc → Prop} {kc ks : Nat} (hc : cells ≤ kc) (hs : slots ≤ ks) (q : Q (some (.long z)) T.heap locs) : own_G p.tables e below (own_E s Q kc ks) (T.setTop (mkF m pc Ls (.long z :: rest))) := by
  obtain ⟨fs, hr, hrun, hended, hW, hsame⟩ := X.leave (v := some (.long z)) (fun h => by rw [hret] at h; cases h)
  exact ⟨_, _, retOut X hx hret rfl (Or.inr (Or.inl ⟨rfl, rfl, z, rfl⟩)) hd hr, hrun, hended, _, _, rfl, q, ⟨_, rfl⟩, hW, hsame.mono hc hs⟩
theorem own_retV (X : Stand p l e R s m args below meth c T locs cells slots) (hx : p.tables.exec = Jvm.exec) (hlk : meth.locks = false) {pc : Nat} {Ls : Array Slot} (hret : meth.sig.returnType = none) (hd : decode c.code pc = .ok (.return_, 1))
    {Q : Option Value → Heap → List Loc → Prop} {kc ks : Nat} (hc : cells ≤ kc) (hs : slots ≤ ks) (q : Q none T.heap locs) : own_G p.tables e below (own_E s Q kc ks) (T.setTop (mkF m pc Ls [])) := by
  obtain ⟨fs, hr, hrun, hended, hW, hsame⟩ := X.leave (v := none) (fun _ => rfl)
  exact ⟨_, _, X.returnOut hx hret hd hr, hrun, hended, _, _, rfl, q, ⟨_, rfl⟩, hW, hsame.mono hc hs⟩
-- @WIDE
def own_EW (s : State) (Q : Option Value → Heap → List Loc → Prop) (kc ks : Nat) : State → Outcome → Prop := fun t o => ∃ v L, o = .returned v ∧ Q v t.heap L ∧ ReturnedEndW s o t L kc ks
theorem own_le {h : Heap} (e : T.heap = h) {k : Nat} (q : k ≤ h.size) : k ≤ T.heap.size := by rw [e]; exact q
theorem own_inW {s₁ : State} (kc ks : Nat) (Q : Option Value → Heap → List Loc → Prop) {mL : Nat} {g : JFrame} (ef : entryFrame m args mL = g) (k : own_G p.tables e below (own_EW s Q kc ks) (s₁.setTop g)) :
    ∃ s₂ o, Steps p.tables e below (s₁.setTop (entryFrame m args mL)) s₂ ∧ s₂.status = .running ∧ Ended s₂ below o ∧ ∃ v L, o = .returned v ∧ Q v s₂.heap L ∧ ReturnedEndW s o s₂ L kc ks := by
  rw [ef]
  exact k
theorem own_wide {s t : State} {o : Outcome} {L : List Loc} {k n k' n' : Nat} (h : ReturnedEndW s o t L k n) (hk : k ≤ k') (hn : n ≤ n') : ReturnedEndW s o t L k' n' := ⟨h.1, h.2.1, h.2.2.1, h.2.2.2.mono hk hn⟩
theorem own_retIW {vm0 : Vm} {k0 : Nat} (hS : s.Since vm0 k0) (hk : k0 ≤ T.heap.size) (X : Stand p l e R (s.setVm vm0) m args below meth c T locs cells slots) (hx : p.tables.exec = Jvm.exec) (hlk : meth.locks = false) {pc : Nat} {Ls : Array Slot} {z : Int32} {rest : List Value} (hret : meth.sig.returnType = some .int) (hd : decode c.code pc = .ok (.ireturn, 1))
    {Q : Option Value → Heap → List Loc → Prop} {kc ks : Nat} (hc : cells ≤ kc) (hs : slots ≤ ks) (q : Q (some (.int z)) T.heap locs) : own_G p.tables e below (own_EW s Q kc ks) (T.setTop (mkF m pc Ls (.int z :: rest))) := by
  obtain ⟨fs, hr, hrun, hended, hW⟩ := X.leaveW hS hk (v := some (.int z)) (fun h => by rw [hret] at h; cases h)
  exact ⟨_, _, own_retI0 X hx hret hd hr, hrun, hended, _, _, rfl, q, own_wide hW hc hs⟩
theorem own_retNW {vm0 : Vm} {k0 : Nat} (hS : s.Since vm0 k0) (hk : k0 ≤ T.heap.size) (X : Stand p l e R (s.setVm vm0) m args below meth c T locs cells slots) (hx : p.tables.exec = Jvm.exec) (hlk : meth.locks = false) {pc : Nat} {Ls : Array Slot} {z : Int32} {t : FieldType} {rest : List Value} (hret : meth.sig.returnType = some t) (ht : t = .boolean ∨ t = .byte ∨ t = .char ∨ t = .short) (hd : decode c.code pc = .ok (.ireturn, 1))
    {Q : Option Value → Heap → List Loc → Prop} {kc ks : Nat} (hc : cells ≤ kc) (hs : slots ≤ ks) {v' : Int32} (hv : nar t z = v') (q : Q (some (.int v')) T.heap locs) : own_G p.tables e below (own_EW s Q kc ks) (T.setTop (mkF m pc Ls (.int z :: rest))) := by
  subst hv
  obtain ⟨fs, hr, hrun, hended, hW⟩ := X.leaveW hS hk (v := some (.int (nar t z))) (fun h => by rw [hret] at h; cases h)
  exact ⟨_, _, retN X hx hret ht hd hr, hrun, hended, _, _, rfl, q, own_wide hW hc hs⟩
theorem own_retAW {vm0 : Vm} {k0 : Nat} (hS : s.Since vm0 k0) (hk : k0 ≤ T.heap.size) (X : Stand p l e R (s.setVm vm0) m args below meth c T locs cells slots) (hx : p.tables.exec = Jvm.exec) (hlk : meth.locks = false) {pc : Nat} {Ls : Array Slot} {w : Value} {t : FieldType} {rest : List Value} (hret : meth.sig.returnType = some t) (ht : t.isReference = true) (hw : w.isRef = true) (hd : decode c.code pc = .ok (.areturn, 1))
    {Q : Option Value → Heap → List Loc → Prop} {kc ks : Nat} (hc : cells ≤ kc) (hs : slots ≤ ks) (q : Q (some w) T.heap locs) : own_G p.tables e below (own_EW s Q kc ks) (T.setTop (mkF m pc Ls (w :: rest))) := by
  obtain ⟨fs, hr, hrun, hended, hW⟩ := X.leaveW hS hk (v := some w) (fun h => by rw [hret] at h; cases h)
  have hn : narrow t w = w := by rcases ref_cases hw with rfl | ⟨a, rfl⟩ <;> cases t <;> rfl
  exact ⟨_, _, retOut X hx hret hn (Or.inr (Or.inr (Or.inr (Or.inr ⟨rfl, ht, hw⟩)))) hd hr, hrun, hended, _, _, rfl, q, own_wide hW hc hs⟩
theorem own_retVW {vm0 : Vm} {k0 : Nat} (hS : s.Since vm0 k0) (hk : k0 ≤ T.heap.size) (X : Stand p l e R (s.setVm vm0) m args below meth c T locs cells slots) (hx : p.tables.exec = Jvm.exec) (hlk : meth.locks = false) {pc : Nat} {Ls : Array Slot}  (hret : meth.sig.returnType = none) (hd : decode c.code pc = .ok (.return_, 1))
    {Q : Option Value → Heap → List Loc → Prop} {kc ks : Nat} (hc : cells ≤ kc) (hs : slots ≤ ks) (q : Q none T.heap locs) : own_G p.tables e below (own_EW s Q kc ks) (T.setTop (mkF m pc Ls [])) := by
  obtain ⟨fs, hr, hrun, hended, hW⟩ := X.leaveW hS hk (v := none) (fun _ => rfl)
  exact ⟨_, _, X.returnOut hx hret hd hr, hrun, hended, _, _, rfl, q, own_wide hW hc hs⟩
-- @END
end OwnKit
theorem own_w {a0 : Array Value} {Z : State} (hw : ∀ d ∈ tables_1, d.before a0 Z = true) (i : Nat) {d : Jvm.Cond} (h : tables_1[i]? = some d) : d.before a0 Z = true := hw d (List.mem_of_getElem? h)
theorem own_cat {v : Value} (h : v.isRef = true) : v.category = 1 := by cases v <;> first | rfl | (simp [Value.isRef] at h)
theorem own_i32 {a b : Int32} (h : a.toInt = b.toInt) : a = b := Int32.toInt_inj.mp h
theorem own_i64 {a b : Int64} (h : a.toInt = b.toInt) : a = b := Int64.toInt_inj.mp h
/-- (x & 0x7fffffff) % d lies from 0 to d - 1 -/
theorem own_mod (x y : Int32) (d : Int) (hy : y.toInt = d) (hd : 0 < d) : 0 ≤ ((x &&& 2147483647) % y).toInt ∧ ((x &&& 2147483647) % y).toInt < d ∧ ((x &&& 2147483647) % y).toInt = (x.toInt % 2147483648) % d := by
  have h1 := c_mask x 2147483647 31 (by decide) (by decide)
  have h2 := (c_irem (x &&& 2147483647) y d hy).1 (by rw [h1]; omega)
  rw [h2, h1]
  refine ⟨Int.emod_nonneg _ (by omega), Int.emod_lt_of_pos _ hd, rfl⟩
abbrev vi (x : Int32) : Slot := .val (.int x)
abbrev vr (x : Addr) : Slot := .val (.ref x)
abbrev gs {tb : Tables} {e : Env} {below : List Frame} {Φ : State → Outcome → Prop} (T : State) (m : MethodId) (pc : Nat) (L : Array Slot) (S : List Value) : Prop := own_G tb e below Φ (T.setTop (mkF m pc L S))
abbrev own_M (l : Launch) (y : MethodName) (code : ByteArray) (ml : Nat) (rt : Option FieldType) (ws : List Jvm.Cond) (R : Room) (Z : State) (A : Array Value) (h0 : Heap) (Q : Option Value → Heap → List Loc → Prop) : Prop :=
  MetFree l y (head1 (Jvm.Cond.code y code ml rt :: ws) R) (fun a U => a = A ∧ Z.Warmed39 U.vm ∧ U.heap = h0) (fun _ _ _ _ _ => True) (fun _ U o U' => ∃ v L, o = .returned v ∧ Q v U'.heap L ∧ FrameEnd U o U' L R.cells R.slots)
theorem own_go {l : Launch} {y : MethodName} {code : ByteArray} {ml : Nat} {rt : Option FieldType} {ws : List Jvm.Cond} {R : Room} {Z : State} {A : Array Value} {h0 : Heap} {Q : Option Value → Heap → List Loc → Prop} (own : String) (ho : y.cls = own) (hp : plainFor y = true) {L : Array Slot} (hef : ∀ m, entryFrame m A ml = mkF m 0 L [])
    (H : ∀ (p : Program) (e : Env) (s : State) (m : MethodId) (below : List Frame) (meth : Method) (c : Code) (s₁ : State), p.tables.exec = Jvm.exec → c.code = code → c.maxLocals = ml → s.vm.findClass own = some m.cls → meth.name = y.name → meth.locks = false → meth.sig.returnType = rt → Z.Warmed39 s.vm → Stand p l e R s m A below meth c s₁ [] 0 0 → s₁.heap = h0 → own_G p.tables e below (own_E s Q R.cells R.slots) (s₁.setTop (mkF m 0 L []))) :
    own_M l y code ml rt ws R Z A h0 Q := by
  refine MetFree.of_bodySF hp hisR ?_
  intro p e s m args below meth c s₁ Bd hml0 hP hK
  obtain ⟨rfl, hZ, hh⟩ := hP
  subst ho
  exact own_in _ _ _ (hef m) (H p e s m below meth c s₁ Bd.exec Bd.bytes hml0 (findClass_of_methodNamed Bd.named) (name_of_methodNamed Bd.named Bd.method).1 Bd.notSynchronized Bd.returns hZ (Stand.of_body Bd) (by rw [← hh, Bd.state]; rfl))
section OwnOps
variable {p : Program} {l : Launch} {e : Env} {R : Room} {s : State} {m : MethodId} {args : Array Value} {below : List Frame} {meth : Method} {c : Code} {T : State} {locs : List Loc} {cells slots : Nat} {Φ : State → Outcome → Prop} {B : ByteArray} {pc : Nat} {L : Array Slot} {S : List Value}
theorem oaloadN (X : Stand p l e R s m args below meth c T locs cells slots) (hx : p.tables.exec = Jvm.exec) (hby : c.code = B) {k : Fin 4} {v : Value} (hd : decode B pc = .ok (.aload_n k, 1)) (hl : L[k.val]? = some (.val v)) (hv : v.isRef = true) (G : gs (tb := p.tables) (e := e) (below := below) (Φ := Φ) T m (pc + 1) L (v :: S)) : gs (tb := p.tables) (e := e) (below := below) (Φ := Φ) T m pc L S := own_st (fun _ kS => XS.aloadN X.here hx rfl (hb hby hd) hl hv kS) G
theorem oiloadN (X : Stand p l e R s m args below meth c T locs cells slots) (hx : p.tables.exec = Jvm.exec) (hby : c.code = B) {k : Fin 4} {v : Int32} (hd : decode B pc = .ok (.iload_n k, 1)) (hl : L[k.val]? = some (.val (.int v))) (G : gs (tb := p.tables) (e := e) (below := below) (Φ := Φ) T m (pc + 1) L (.int v :: S)) : gs (tb := p.tables) (e := e) (below := below) (Φ := Φ) T m pc L S := own_st (fun _ kS => XS.iloadN X.here hx rfl (hb hby hd) hl kS) G
theorem oaload (X : Stand p l e R s m args below meth c T locs cells slots) (hx : p.tables.exec = Jvm.exec) (hby : c.code = B) {k : Nat} {v : Value} (hd : decode B pc = .ok (.aload k, 2)) (hl : L[k]? = some (.val v)) (hv : v.isRef = true) (G : gs (tb := p.tables) (e := e) (below := below) (Φ := Φ) T m (pc + 2) L (v :: S)) : gs (tb := p.tables) (e := e) (below := below) (Φ := Φ) T m pc L S := own_st (fun _ kS => XS.aload X.here hx rfl (hb hby hd) hl hv kS) G
theorem oiload (X : Stand p l e R s m args below meth c T locs cells slots) (hx : p.tables.exec = Jvm.exec) (hby : c.code = B) {k : Nat} {v : Int32} (hd : decode B pc = .ok (.iload k, 2)) (hl : L[k]? = some (.val (.int v))) (G : gs (tb := p.tables) (e := e) (below := below) (Φ := Φ) T m (pc + 2) L (.int v :: S)) : gs (tb := p.tables) (e := e) (below := below) (Φ := Φ) T m pc L S := own_st (fun _ kS => XS.iload X.here hx rfl (hb hby hd) hl kS) G
theorem oiconst (X : Stand p l e R s m args below meth c T locs cells slots) (hx : p.tables.exec = Jvm.exec) (hby : c.code = B) {i : Int} (hd : decode B pc = .ok (.iconst i, 1))  (G : gs (tb := p.tables) (e := e) (below := below) (Φ := Φ) T m (pc + 1) L (.int (Int32.ofInt i) :: S)) : gs (tb := p.tables) (e := e) (below := below) (Φ := Φ) T m pc L S := own_st (fun _ kS => XS.iconst X.here hx rfl (hb hby hd)  kS) G
theorem oV {y : MethodName} {own C : String} {index : Nat} (W : Nat) {bytes : ByteArray} {maxL : Nat} {ret : Option FieldType} {rm : Room} {b : Addr} {argsL rest : List Value} {h : Heap} {Q : Option Value → Heap → List Loc → Prop} {ps : List FieldType} {r : Option FieldType} {Z : State} {a0 : Array Value}
    (X : Stand p l e R s m args below meth c T locs cells slots) (hx : p.tables.exec = Jvm.exec) (hZ : Z.Warmed39 s.vm) (hby : c.code = B) (hml : c.maxLocals = L.size) (hown : s.vm.findClass own = some m.cls)
    (w1 : (Cond.methodLink own index y).before a0 Z = true) (w2 : (Cond.declares y).before a0 Z = true) (w3 : (Cond.selects C y y).before a0 Z = true) (w4 : (Cond.instanceMethod y).before a0 Z = true)
    (hM : own_M l y bytes maxL ret [] rm Z (.ref b :: argsL).toArray h Q) (wc : (Cond.code y bytes maxL ret).before a0 Z = true) (wz : (Cond.initialized y.cls).before a0 Z = true) (eT : T.heap = h) (hE : Exa Z h b C)
    (hn : (y.cls ≠ "java/lang/invoke/MethodHandle" ∧ y.cls ≠ "java/lang/invoke/VarHandle") ∧ rm.frames + 1 ≤ R.frames ∧ W + (maxL + 11) + rm.locals ≤ R.locals ∧ cells + rm.cells ≤ R.cells ∧ slots + rm.slots ≤ R.slots)
    (pd : parseMethodDescriptor y.desc = some ⟨ps, r⟩) (hd : decode B pc = .ok (.invokevirtual index, 3)) (hl : argsL.length = ps.length) (hs : S = argsL.reverse ++ .ref b :: rest) (hW : (rest.map fun v => v.category).sum = W)
    (K : ∀ (T' : State) (L' : List Loc) (v : Option Value), Stand p l e R s m args below meth c T' (locs ++ L') (cells + rm.cells) (slots + rm.slots) → Q v T'.heap L' → own_G p.tables e below Φ (T'.setTop (mkF m (pc + 3) L (v.toList ++ rest)))) :
    gs (tb := p.tables) (e := e) (below := below) (Φ := Φ) T m pc L S := by
  subst hs
  obtain ⟨cq, kq, qa, qb, qc⟩ := isOf hZ eT hE
  obtain ⟨v, _, ⟨T', L', k', n'⟩, -, X', ⟨Lc, hQ, hl', hy', hz'⟩, st⟩ := X.virtualBack hx hown (mvT hZ w1) (mvT hZ w2) (notFace_of_selects (args := #[]) (mvT hZ w3)) (mvT hZ w3) (mvT hZ w4) hn.1 (backOf (W := W) hM hZ wc wz hn.2.1 hn.2.2.1) qa qc (g := mkF m pc L (argsL.reverse ++ .ref b :: rest)) rfl hml.symm (Steps.refl _) (argsL := argsL) (rest := rest) (lenOf pd hl) rfl (by show 2 * 0 + _ ≤ _; omega) (hb hby hd) (fun _ _ => ⟨rfl, eT, hn.2.2.2.1, hn.2.2.2.2⟩)
  dsimp only [Pt.U, Pt.locs, Pt.cells, Pt.slots] at X' hl' hy' hz' st hQ
  subst hl' hy' hz'
  exact own_tr st (K T' Lc v X' hQ)
theorem oN {y : MethodName} {own : String} {index : Nat} (W : Nat) {bytes : ByteArray} {maxL : Nat} {rm : Room} {b : Addr} {argsL rest : List Value} {h : Heap} {Q : Option Value → Heap → List Loc → Prop} {ps : List FieldType} {r : Option FieldType} {Z : State} {a0 : Array Value}
    (X : Stand p l e R s m args below meth c T locs cells slots) (hx : p.tables.exec = Jvm.exec) (hZ : Z.Warmed39 s.vm) (hby : c.code = B) (hml : c.maxLocals = L.size) (hown : s.vm.findClass own = some m.cls)
    (w1 : (Cond.methodLink own index y).before a0 Z = true) (w4 : (Cond.instanceMethod y).before a0 Z = true) (wz : (Cond.initialized y.cls).before a0 Z = true) (wc : (Cond.code y bytes maxL none).before a0 Z = true)
    (hM : own_M l y bytes maxL none [] rm Z (.ref b :: argsL).toArray h Q) (eT : T.heap = h) (hy1 : y.name = "<init>")
    (hn : (y.cls ≠ "java/lang/invoke/MethodHandle" ∧ y.cls ≠ "java/lang/invoke/VarHandle") ∧ rm.frames + 1 ≤ R.frames ∧ W + (maxL + 11) + rm.locals ≤ R.locals ∧ cells + rm.cells ≤ R.cells ∧ slots + rm.slots ≤ R.slots)
    (pd : parseMethodDescriptor y.desc = some ⟨ps, r⟩) (hd : decode B pc = .ok (.invokespecial index, 3)) (hl : argsL.length = ps.length) (hs : S = argsL.reverse ++ .ref b :: rest) (hW : (rest.map fun v => v.category).sum = W)
    (K : ∀ (T' : State) (L' : List Loc) (v : Option Value), Stand p l e R s m args below meth c T' (locs ++ L') (cells + rm.cells) (slots + rm.slots) → Q v T'.heap L' → own_G p.tables e below Φ (T'.setTop (mkF m (pc + 3) L (v.toList ++ rest)))) :
    gs (tb := p.tables) (e := e) (below := below) (Φ := Φ) T m pc L S := by
  subst hs
  obtain ⟨v, _, ⟨T', L', k', n'⟩, -, X', ⟨Lc, hQ, hl', hy', hz'⟩, st⟩ := X.specialBack hx hy1 hown (mvT hZ w1) (mvT hZ w4) (mvT hZ wc) hn.1 (backOf (W := W) hM hZ wc wz hn.2.1 hn.2.2.1) (g := mkF m pc L (argsL.reverse ++ .ref b :: rest)) rfl hml.symm (Steps.refl _) (a := b) (argsL := argsL) (rest := rest) (lenOf pd hl) rfl (by show 2 * 0 + _ ≤ _; omega) (hb hby hd) (fun _ _ => ⟨rfl, eT, hn.2.2.2.1, hn.2.2.2.2⟩)
  dsimp only [Pt.U, Pt.locs, Pt.cells, Pt.slots] at X' hl' hy' hz' st hQ
  subst hl' hy' hz'
  exact own_tr st (K T' Lc v X' hQ)
theorem oS {y : MethodName} {own : String} {index : Nat} (W : Nat) {bytes : ByteArray} {maxL : Nat} {ret : Option FieldType} {rm : Room} {argsL rest : List Value} {h : Heap} {Q : Option Value → Heap → List Loc → Prop} {ps : List FieldType} {r : Option FieldType} {Z : State} {a0 : Array Value}
    (X : Stand p l e R s m args below meth c T locs cells slots) (hx : p.tables.exec = Jvm.exec) (hZ : Z.Warmed39 s.vm) (hby : c.code = B) (hml : c.maxLocals = L.size) (hown : s.vm.findClass own = some m.cls)
    (w1 : (Cond.methodLink own index y).before a0 Z = true) (w2 : (Cond.static y).before a0 Z = true) (wz : (Cond.initialized y.cls).before a0 Z = true) (wc : (Cond.code y bytes maxL ret).before a0 Z = true)
    (hM : own_M l y bytes maxL ret [] rm Z argsL.toArray h Q) (eT : T.heap = h)
    (hn : (y.cls ≠ "java/lang/invoke/MethodHandle" ∧ y.cls ≠ "java/lang/invoke/VarHandle") ∧ rm.frames + 1 ≤ R.frames ∧ W + (maxL + 11) + rm.locals ≤ R.locals ∧ cells + rm.cells ≤ R.cells ∧ slots + rm.slots ≤ R.slots)
    (pd : parseMethodDescriptor y.desc = some ⟨ps, r⟩) (hd : decode B pc = .ok (.invokestatic index, 3)) (hl : argsL.length = ps.length) (hs : S = argsL.reverse ++ rest) (hW : (rest.map fun v => v.category).sum = W)
    (K : ∀ (T' : State) (L' : List Loc) (v : Option Value), Stand p l e R s m args below meth c T' (locs ++ L') (cells + rm.cells) (slots + rm.slots) → Q v T'.heap L' → own_G p.tables e below Φ (T'.setTop (mkF m (pc + 3) L (v.toList ++ rest)))) :
    gs (tb := p.tables) (e := e) (below := below) (Φ := Φ) T m pc L S := by
  subst hs
  obtain ⟨v, _, ⟨T', L', k', n'⟩, -, X', ⟨Lc, hQ, hl', hy', hz'⟩, st⟩ := Jvm.LawKit.callS X hx hown (mvT hZ w1) (mvT hZ w2) (mvT hZ wz) (mvT hZ wc) hn.1 (backOf (W := W) hM hZ wc wz hn.2.1 hn.2.2.1) (g := mkF m pc L (argsL.reverse ++ rest)) rfl hml.symm (argsL := argsL) (rest := rest) (lenOf pd hl) rfl (by show 2 * 0 + _ ≤ _; omega) (hb hby hd) (fun _ _ => ⟨rfl, eT, hn.2.2.2.1, hn.2.2.2.2⟩)
  dsimp only [Pt.U, Pt.locs, Pt.cells, Pt.slots] at X' hl' hy' hz' st hQ
  subst hl' hy' hz'
  exact own_st st (K T' Lc v X' hQ)
end OwnOps
abbrev EL0 : List (String × Nat) := [("java/lang/String", 7)]
theorem own_mem : ("java/lang/String", 7) ∈ EL0 := List.mem_cons_self
theorem own_ELw {a0 : Array Value} {Z : State} (hw : ∀ d ∈ tables_1, d.before a0 Z = true) : EW Z a0 EL0 := EW.cons (text := "") (own_w hw 97 rfl) (by simp) EW.nil
section OwnHeld
open Bundle Jvm.Free.SB Jvm.Free.SBG
/-- a String whose value field is null is no booked String, nor one's array -/
theorem own_safe0 {Z : State} {EL : List (String × Nat)} {vm : Vm} {h : Heap} {x : Addr} (hal : Z.vm.Alike vm) (E : Exa Z h x "java/lang/String") (F : Fld Z h x "java/lang/String" "value" "[B" .null) : Safe Z EL vm h x := fun B => by
  obtain ⟨cell, k, e1, e2, e3, -, -⟩ := E
  obtain ⟨cellF, cf, kF, i, f, f1, f2, -, -, -, -, f7⟩ := F
  cases f1.symm.trans e1
  obtain ⟨p, -, u, a, -, q, -, S, rfl | rfl⟩ := B
  · cases (show h[q.sa]? = some q.sC from S.ha).symm.trans e1
    obtain ⟨cS, ⟨⟨-, -, -, ⟨c1, k1, i1, g1, -⟩, -, -, -, v1, -⟩, -⟩, -⟩ := S
    obtain ⟨k3, g3, -⟩ := State.fieldFound?_setVm (s := ({ Z with heap := h } : State)) hal f2
    have e4 := (show (Wst Z vm h).fieldFound? _ _ _ = _ from g3).symm.trans g1
    simp only [Option.some.injEq, Prod.mk.injEq] at e4
    rw [e4.2.2.2, v1] at f7
    simp at f7
  · cases (show h[q.sd]? = some q.SA from S.hd).symm.trans e1
    obtain ⟨cS, -, -, g, -⟩ := S
    have g' : vm.findClass "[B" = some q.SA.cls := g
    rw [hal.findClass] at g'
    obtain ⟨k1, q1, q2⟩ := Vm.findClass_spec g'
    obtain ⟨k2, q3, q4⟩ := Vm.findClass_spec e2
    cases q1.symm.trans q3
    exact absurd (q2.symm.trans q4) (by decide)
/-- an array is no object of a class that can be made -/
theorem own_arne {Z : State} {h : Heap} {a b : Addr} {k : ClassId} {ty : FieldType} {z : Int32} {vs : List Value} {d : Value} {C : String} {n : Nat} {a0 : Array Value} (F : Arv Z h a k ty z vs d) (E : Exa Z h b C) (w : (Cond.instantiable C n).before a0 Z = true) : a ≠ b := (Exa.neArv E F w).symm
theorem own_ht0 : (∀ c ∈ "".toList, c.toNat < 256) ∧ "".toList.map (fun c => Value.int (Jvm.Lit.byteI c.toNat.toUInt16)) = [] := ⟨by simp, by simp⟩
variable {p : Program} {l : Launch} {e : Env} {R : Room} {s : State} {m : MethodId} {args : Array Value} {below : List Frame} {meth : Method} {c : Code} {T : State} {locs : List Loc} {cells slots : Nat} {Z : State} {EL : List (String × Nat)} {a0 : Array Value}
def own_EH (Z : State) (EL : List (String × Nat)) (s : State) (Q : Option Value → Heap → List Loc → Prop) (kc ks : Nat) : State → Outcome → Prop := fun t o => ∃ v L, o = .returned v ∧ Q v t.heap L ∧ CHr Z EL s.vm s.heap t.vm t.heap ∧ ReturnedEndW s o t L kc ks
theorem own_inH {s₁ : State} (kc ks : Nat) (Q : Option Value → Heap → List Loc → Prop) {mL : Nat} {g : JFrame} (ef : entryFrame m args mL = g) (k : own_G p.tables e below (own_EH Z EL s Q kc ks) (s₁.setTop g)) :
    ∃ s₂ o, Steps p.tables e below (s₁.setTop (entryFrame m args mL)) s₂ ∧ s₂.status = .running ∧ Ended s₂ below o ∧ ∃ v L, o = .returned v ∧ Q v s₂.heap L ∧ CHr Z EL s.vm s.heap s₂.vm s₂.heap ∧ ReturnedEndW s o s₂ L kc ks := by
  rw [ef]
  exact k
theorem own_retVH {vm0 : Vm} {k0 : Nat} (hZ : Z.Warmed39 (s.setVm vm0).vm) (hEL : EW Z a0 EL) (CR : CHr Z EL s.vm s.heap vm0 T.heap) (hS : s.Since vm0 k0) (hk : k0 ≤ T.heap.size) (X : Stand p l e R (s.setVm vm0) m args below meth c T locs cells slots) (hx : p.tables.exec = Jvm.exec) (hlk : meth.locks = false) {pc : Nat} {Ls : Array Slot} (hret : meth.sig.returnType = none) (hd : decode c.code pc = .ok (.return_, 1))
    {Q : Option Value → Heap → List Loc → Prop} {kc ks : Nat} (hc : cells ≤ kc) (hs : slots ≤ ks) (q : Q none T.heap locs) : own_G p.tables e below (own_EH Z EL s Q kc ks) (T.setTop (mkF m pc Ls [])) := by
  obtain ⟨fs, hr, hrun, hended, hW⟩ := X.leaveW hS hk (v := none) (fun _ => rfl)
  exact ⟨_, _, X.returnOut hx hret hd hr, hrun, hended, _, _, rfl, q, (show CHr Z EL s.vm s.heap T.vm T.heap from CR.trans (CHv.at X hZ hEL CR.1)), own_wide hW hc hs⟩
theorem own_retAH {vm0 : Vm} {k0 : Nat} (hZ : Z.Warmed39 (s.setVm vm0).vm) (hEL : EW Z a0 EL) (CR : CHr Z EL s.vm s.heap vm0 T.heap) (hS : s.Since vm0 k0) (hk : k0 ≤ T.heap.size) (X : Stand p l e R (s.setVm vm0) m args below meth c T locs cells slots) (hx : p.tables.exec = Jvm.exec) (hlk : meth.locks = false) {pc : Nat} {Ls : Array Slot} {w : Value} {t : FieldType} {rest : List Value} (hret : meth.sig.returnType = some t) (ht : t.isReference = true) (hw : w.isRef = true) (hd : decode c.code pc = .ok (.areturn, 1))
    {Q : Option Value → Heap → List Loc → Prop} {kc ks : Nat} (hc : cells ≤ kc) (hs : slots ≤ ks) (q : Q (some w) T.heap locs) : own_G p.tables e below (own_EH Z EL s Q kc ks) (T.setTop (mkF m pc Ls (w :: rest))) := by
  obtain ⟨fs, hr, hrun, hended, hW⟩ := X.leaveW hS hk (v := some w) (fun h => by rw [hret] at h; cases h)
  have hn : narrow t w = w := by rcases ref_cases hw with rfl | ⟨a, rfl⟩ <;> cases t <;> rfl
  exact ⟨_, _, retOut X hx hret hn (Or.inr (Or.inr (Or.inr (Or.inr ⟨rfl, ht, hw⟩)))) hd hr, hrun, hended, _, _, rfl, q, (show CHr Z EL s.vm s.heap T.vm T.heap from CR.trans (CHv.at X hZ hEL CR.1)), own_wide hW hc hs⟩
end OwnHeld
theorem own_noDc {Z : State} {a0 : Array Value} {C O K : String} {n : Nat} (w : (Cond.superclass C O).before a0 Z = true) (w0 : (Cond.noSuperclass O).before a0 Z = true) (wi : (Cond.instantiable K n).before a0 Z = true) (h1 : C ≠ K) (h2 : O ≠ K) : ∃ c t, Z.vm.findClass C = some c ∧ Z.vm.findClass K = some t ∧ Z.vm.assignable c t = false := by
  obtain ⟨t, kT, hT, hkT, hkind, hfl, -⟩ := Cond.instantiable_spec wi
  obtain ⟨o, kO, ho, hkO, hsO, -, -⟩ := Cond.noSuperclass_spec w0
  obtain ⟨c, h0⟩ := found_sup w
  obtain ⟨p, k, kp, e1, e2, e3, e4, e5, -, e7⟩ := Cond.superclass_spec h0 w
  cases ho.symm.trans e1
  have ne1 := ids_ne h0 hT h1
  have ne2 := ids_ne ho hT h2
  have n3 : ∀ fuel, Z.vm.isSubclassAux fuel c t = false := fun fuel => by
    cases fuel with
    | zero => rfl
    | succ f =>
      have : Z.vm.isSubclassAux f o t = false := by
        cases f with
        | zero => rfl
        | succ f => simp [Vm.isSubclassAux, ne2, hkO, hsO]
      simp [Vm.isSubclassAux, ne1, e2, e4, this]
  have hi : kT.isInterface = false := by
    simp [Class.isInterface] at hfl ⊢
    first | exact hfl.1 | exact hfl.2 | (simp_all)
  refine ⟨c, t, h0, hT, ?_⟩
  show Z.vm.assignableAux (255 + 1) c t = false
  simp [Vm.assignableAux, ne1, e2, hkT, e5, hkind, hi, Vm.isSubclass, n3]
def own_ch (q : Int64) (i : Int32) : Int32 := nar .char (((XT.ushrL q ((8 : Int32) * i)) &&& (255 : Int64)).toInt32.toUInt32.toUInt16.toUInt32.toInt32)
theorem own_nn (x : Int32) : nar .char (nar .char x) = nar .char x := by
  have h1 := c_i2c x
  have h2 := c_i2c (x.toUInt32.toUInt16.toUInt32.toInt32)
  refine own_i32 ?_
  show ((x.toUInt32.toUInt16.toUInt32.toInt32).toUInt32.toUInt16.toUInt32.toInt32).toInt = (x.toUInt32.toUInt16.toUInt32.toInt32).toInt
  omega
theorem own_nch (q : Int64) (i : Int32) : nar .char (own_ch q i) = own_ch q i := own_nn _
theorem own_chb (q : Int64) (i : Int32) : ¬ ((255 : Int32) < own_ch q i) := by
  obtain ⟨z, hz⟩ : ∃ z, z = XT.ushrL q ((8 : Int32) * i) := ⟨_, rfl⟩
  have h1 := c_maskL z 255 8 (by decide) (by decide)
  have h2 : (z &&& (255 : Int64)).toInt = z.toInt % 256 := h1
  have h3 := c_l2i (z &&& (255 : Int64))
  have r3 := rng32 (z &&& (255 : Int64)).toInt32
  have h4 := c_i2c (z &&& (255 : Int64)).toInt32
  have h5 := c_i2c ((z &&& (255 : Int64)).toInt32.toUInt32.toUInt16.toUInt32.toInt32)
  have e2 : (255 : Int32).toInt = 255 := by decide
  unfold own_ch
  rw [← hz]
  show ¬ (255 : Int32) < ((z &&& (255 : Int64)).toInt32.toUInt32.toUInt16.toUInt32.toInt32).toUInt32.toUInt16.toUInt32.toInt32
  rw [Int32.lt_iff_toInt_lt, e2]
  omega
def own_el (k : Int32) (v : Addr) (w_TITLE : Addr) (w_CREATOR : Addr) (w_SUBJECT : Addr) (w_DESCRIPTION : Addr) (w_PUBLISHER : Addr) (w_CONTRIBUTOR : Addr) (w_DATE : Addr) (w_TYPE : Addr) (w_FORMAT : Addr) (w_IDENTIFIER : Addr) (w_SOURCE : Addr) (w_LANGUAGE : Addr) (w_RELATION : Addr) (w_COVERAGE : Addr) (w_RIGHTS : Addr) : Prop := (k = 0 ∧ v = w_TITLE) ∨ (k = 1 ∧ v = w_CREATOR) ∨ (k = 2 ∧ v = w_SUBJECT) ∨ (k = 3 ∧ v = w_DESCRIPTION) ∨ (k = 4 ∧ v = w_PUBLISHER) ∨ (k = 5 ∧ v = w_CONTRIBUTOR) ∨ (k = 6 ∧ v = w_DATE) ∨ (k = 7 ∧ v = w_TYPE) ∨ (k = 8 ∧ v = w_FORMAT) ∨ (k = 9 ∧ v = w_IDENTIFIER) ∨ (k = 10 ∧ v = w_SOURCE) ∨ (k = 11 ∧ v = w_LANGUAGE) ∨ (k = 12 ∧ v = w_RELATION) ∨ (k = 13 ∧ v = w_COVERAGE) ∨ (k = 14 ∧ v = w_RIGHTS)
def own_elF (k : Int32) (w_TITLE : Addr) (w_CREATOR : Addr) (w_SUBJECT : Addr) (w_DESCRIPTION : Addr) (w_PUBLISHER : Addr) (w_CONTRIBUTOR : Addr) (w_DATE : Addr) (w_TYPE : Addr) (w_FORMAT : Addr) (w_IDENTIFIER : Addr) (w_SOURCE : Addr) (w_LANGUAGE : Addr) (w_RELATION : Addr) (w_COVERAGE : Addr) (w_RIGHTS : Addr) : Addr := if k = 0 then w_TITLE else if k = 1 then w_CREATOR else if k = 2 then w_SUBJECT else if k = 3 then w_DESCRIPTION else if k = 4 then w_PUBLISHER else if k = 5 then w_CONTRIBUTOR else if k = 6 then w_DATE else if k = 7 then w_TYPE else if k = 8 then w_FORMAT else if k = 9 then w_IDENTIFIER else if k = 10 then w_SOURCE else if k = 11 then w_LANGUAGE else if k = 12 then w_RELATION else if k = 13 then w_COVERAGE else w_RIGHTS
theorem own_elx (k : Int32) (w_TITLE : Addr) (w_CREATOR : Addr) (w_SUBJECT : Addr) (w_DESCRIPTION : Addr) (w_PUBLISHER : Addr) (w_CONTRIBUTOR : Addr) (w_DATE : Addr) (w_TYPE : Addr) (w_FORMAT : Addr) (w_IDENTIFIER : Addr) (w_SOURCE : Addr) (w_LANGUAGE : Addr) (w_RELATION : Addr) (w_COVERAGE : Addr) (w_RIGHTS : Addr) (h : k = 0 ∨ k = 1 ∨ k = 2 ∨ k = 3 ∨ k = 4 ∨ k = 5 ∨ k = 6 ∨ k = 7 ∨ k = 8 ∨ k = 9 ∨ k = 10 ∨ k = 11 ∨ k = 12 ∨ k = 13 ∨ k = 14) : own_el k (own_elF k w_TITLE w_CREATOR w_SUBJECT w_DESCRIPTION w_PUBLISHER w_CONTRIBUTOR w_DATE w_TYPE w_FORMAT w_IDENTIFIER w_SOURCE w_LANGUAGE w_RELATION w_COVERAGE w_RIGHTS) w_TITLE w_CREATOR w_SUBJECT w_DESCRIPTION w_PUBLISHER w_CONTRIBUTOR w_DATE w_TYPE w_FORMAT w_IDENTIFIER w_SOURCE w_LANGUAGE w_RELATION w_COVERAGE w_RIGHTS := by
  rcases h with rfl | rfl | rfl | rfl | rfl | rfl | rfl | rfl | rfl | rfl | rfl | rfl | rfl | rfl | rfl <;> simp [own_el, own_elF]
theorem own_beq {a b : Int64} {i : Int32} (h : own_ch a i = own_ch b i) : nar .byte ((own_ch a i).toInt8.toInt32) = nar .byte ((own_ch b i).toInt8.toInt32) := by rw [h]
theorem own_chn (q : Int64) (i : Int32) : 0 ≤ (own_ch q i).toInt := by
  have h := c_i2c ((((XT.ushrL q ((8 : Int32) * i)) &&& (255 : Int64)).toInt32).toUInt32.toUInt16.toUInt32.toInt32)
  exact h.2.1
theorem own_bne {a b : Int64} {i : Int32} (h : ¬ (own_ch a i = own_ch b i)) : ¬ (nar .byte ((own_ch a i).toInt8.toInt32) = nar .byte ((own_ch b i).toInt8.toInt32)) := fun e => h (by
  have h1 := own_chb a i
  have h2 := own_chb b i
  have n1 := own_chn a i
  have n2 := own_chn b i
  have e2 : (255 : Int32).toInt = 255 := by decide
  rw [Int32.lt_iff_toInt_lt, e2] at h1 h2
  have a1 := c_i2b (own_ch a i)
  have a2 := c_i2b ((own_ch a i).toInt8.toInt32)
  have b1 := c_i2b (own_ch b i)
  have b2 := c_i2b ((own_ch b i).toInt8.toInt32)
  have e3 : (((own_ch a i).toInt8.toInt32).toInt8.toInt32).toInt = (((own_ch b i).toInt8.toInt32).toInt8.toInt32).toInt := congrArg Int32.toInt e
  refine own_i32 ?_
  omega)
theorem own_elp {k : Int32} {v : Addr} {w_TITLE w_CREATOR w_SUBJECT w_DESCRIPTION w_PUBLISHER w_CONTRIBUTOR w_DATE w_TYPE w_FORMAT w_IDENTIFIER w_SOURCE w_LANGUAGE w_RELATION w_COVERAGE w_RIGHTS : Addr} {P : Int32 → Addr → Prop} (h : own_el k v w_TITLE w_CREATOR w_SUBJECT w_DESCRIPTION w_PUBLISHER w_CONTRIBUTOR w_DATE w_TYPE w_FORMAT w_IDENTIFIER w_SOURCE w_LANGUAGE w_RELATION w_COVERAGE w_RIGHTS) (p_0 : P 0 w_TITLE) (p_1 : P 1 w_CREATOR) (p_2 : P 2 w_SUBJECT) (p_3 : P 3 w_DESCRIPTION) (p_4 : P 4 w_PUBLISHER) (p_5 : P 5 w_CONTRIBUTOR) (p_6 : P 6 w_DATE) (p_7 : P 7 w_TYPE) (p_8 : P 8 w_FORMAT) (p_9 : P 9 w_IDENTIFIER) (p_10 : P 10 w_SOURCE) (p_11 : P 11 w_LANGUAGE) (p_12 : P 12 w_RELATION) (p_13 : P 13 w_COVERAGE) (p_14 : P 14 w_RIGHTS) : P k v := by
  rcases h with ⟨e1, e2⟩ | ⟨e1, e2⟩ | ⟨e1, e2⟩ | ⟨e1, e2⟩ | ⟨e1, e2⟩ | ⟨e1, e2⟩ | ⟨e1, e2⟩ | ⟨e1, e2⟩ | ⟨e1, e2⟩ | ⟨e1, e2⟩ | ⟨e1, e2⟩ | ⟨e1, e2⟩ | ⟨e1, e2⟩ | ⟨e1, e2⟩ | ⟨e1, e2⟩
  · rw [e1, e2]; exact p_0
  · rw [e1, e2]; exact p_1
  · rw [e1, e2]; exact p_2
  · rw [e1, e2]; exact p_3
  · rw [e1, e2]; exact p_4
  · rw [e1, e2]; exact p_5
  · rw [e1, e2]; exact p_6
  · rw [e1, e2]; exact p_7
  · rw [e1, e2]; exact p_8
  · rw [e1, e2]; exact p_9
  · rw [e1, e2]; exact p_10
  · rw [e1, e2]; exact p_11
  · rw [e1, e2]; exact p_12
  · rw [e1, e2]; exact p_13
  · rw [e1, e2]; exact p_14
theorem own_mod15 (x : Int32) : (x &&& 2147483647) % 15 = (0 : Int32) ∨ (x &&& 2147483647) % 15 = (1 : Int32) ∨ (x &&& 2147483647) % 15 = (2 : Int32) ∨ (x &&& 2147483647) % 15 = (3 : Int32) ∨ (x &&& 2147483647) % 15 = (4 : Int32) ∨ (x &&& 2147483647) % 15 = (5 : Int32) ∨ (x &&& 2147483647) % 15 = (6 : Int32) ∨ (x &&& 2147483647) % 15 = (7 : Int32) ∨ (x &&& 2147483647) % 15 = (8 : Int32) ∨ (x &&& 2147483647) % 15 = (9 : Int32) ∨ (x &&& 2147483647) % 15 = (10 : Int32) ∨ (x &&& 2147483647) % 15 = (11 : Int32) ∨ (x &&& 2147483647) % 15 = (12 : Int32) ∨ (x &&& 2147483647) % 15 = (13 : Int32) ∨ (x &&& 2147483647) % 15 = (14 : Int32) := by
  have h := own_mod x 15 15 (by decide) (by decide)
  have : ((x &&& 2147483647) % 15).toInt = 0 ∨ ((x &&& 2147483647) % 15).toInt = 1 ∨ ((x &&& 2147483647) % 15).toInt = 2 ∨ ((x &&& 2147483647) % 15).toInt = 3 ∨ ((x &&& 2147483647) % 15).toInt = 4 ∨ ((x &&& 2147483647) % 15).toInt = 5 ∨ ((x &&& 2147483647) % 15).toInt = 6 ∨ ((x &&& 2147483647) % 15).toInt = 7 ∨ ((x &&& 2147483647) % 15).toInt = 8 ∨ ((x &&& 2147483647) % 15).toInt = 9 ∨ ((x &&& 2147483647) % 15).toInt = 10 ∨ ((x &&& 2147483647) % 15).toInt = 11 ∨ ((x &&& 2147483647) % 15).toInt = 12 ∨ ((x &&& 2147483647) % 15).toInt = 13 ∨ ((x &&& 2147483647) % 15).toInt = 14 := by omega
  rcases this with h | h | h | h | h | h | h | h | h | h | h | h | h | h | h
  · exact Or.inl (own_i32 (h.trans (by decide)))
  · exact Or.inr (Or.inl (own_i32 (h.trans (by decide))))
  · exact Or.inr (Or.inr (Or.inl (own_i32 (h.trans (by decide)))))
  · exact Or.inr (Or.inr (Or.inr (Or.inl (own_i32 (h.trans (by decide))))))
  · exact Or.inr (Or.inr (Or.inr (Or.inr (Or.inl (own_i32 (h.trans (by decide)))))))
  · exact Or.inr (Or.inr (Or.inr (Or.inr (Or.inr (Or.inl (own_i32 (h.trans (by decide))))))))
  · exact Or.inr (Or.inr (Or.inr (Or.inr (Or.inr (Or.inr (Or.inl (own_i32 (h.trans (by decide)))))))))
  · exact Or.inr (Or.inr (Or.inr (Or.inr (Or.inr (Or.inr (Or.inr (Or.inl (own_i32 (h.trans (by decide))))))))))
  · exact Or.inr (Or.inr (Or.inr (Or.inr (Or.inr (Or.inr (Or.inr (Or.inr (Or.inl (own_i32 (h.trans (by decide)))))))))))
  · exact Or.inr (Or.inr (Or.inr (Or.inr (Or.inr (Or.inr (Or.inr (Or.inr (Or.inr (Or.inl (own_i32 (h.trans (by decide))))))))))))
  · exact Or.inr (Or.inr (Or.inr (Or.inr (Or.inr (Or.inr (Or.inr (Or.inr (Or.inr (Or.inr (Or.inl (own_i32 (h.trans (by decide)))))))))))))
  · exact Or.inr (Or.inr (Or.inr (Or.inr (Or.inr (Or.inr (Or.inr (Or.inr (Or.inr (Or.inr (Or.inr (Or.inl (own_i32 (h.trans (by decide))))))))))))))
  · exact Or.inr (Or.inr (Or.inr (Or.inr (Or.inr (Or.inr (Or.inr (Or.inr (Or.inr (Or.inr (Or.inr (Or.inr (Or.inl (own_i32 (h.trans (by decide)))))))))))))))
  · exact Or.inr (Or.inr (Or.inr (Or.inr (Or.inr (Or.inr (Or.inr (Or.inr (Or.inr (Or.inr (Or.inr (Or.inr (Or.inr (Or.inl (own_i32 (h.trans (by decide))))))))))))))))
  · exact Or.inr (Or.inr (Or.inr (Or.inr (Or.inr (Or.inr (Or.inr (Or.inr (Or.inr (Or.inr (Or.inr (Or.inr (Or.inr (Or.inr (own_i32 (h.trans (by decide))))))))))))))))
theorem own_and3 (x : Int32) : x &&& 3 = (0 : Int32) ∨ x &&& 3 = (1 : Int32) ∨ x &&& 3 = (2 : Int32) ∨ x &&& 3 = (3 : Int32) := by
  have h := c_mask x 3 2 (by decide) (by decide)
  have h2 : (x &&& 3).toInt = x.toInt % 4 := h
  have : (x &&& 3).toInt = 0 ∨ (x &&& 3).toInt = 1 ∨ (x &&& 3).toInt = 2 ∨ (x &&& 3).toInt = 3 := by omega
  rcases this with h | h | h | h
  · exact Or.inl (own_i32 (h.trans (by decide)))
  · exact Or.inr (Or.inl (own_i32 (h.trans (by decide))))
  · exact Or.inr (Or.inr (Or.inl (own_i32 (h.trans (by decide)))))
  · exact Or.inr (Or.inr (Or.inr (own_i32 (h.trans (by decide)))))
set_option maxRecDepth 65536
set_option maxHeartbeats 40000000
abbrev rmk (f c s l : Nat) : Room := { frames := f, cells := c, slots := s, locals := l }
abbrev HW (a0 : Array Value) (Z : State) : Prop := ∀ d ∈ tables_1, d.before a0 Z = true
abbrev sk0 (Z : State) (h : Heap) (v : Value) : Prop := Sta Z h "java/lang/String" "COMPACT_STRINGS" "Z" v
abbrev sk1 (Z : State) (h : Heap) (v : Value) : Prop := Sta Z h "com/example/cartouche/cartouche/crosswalks/DcElement" "TITLE" "Lcom/example/cartouche/cartouche/crosswalks/DcElement;" v
abbrev sk2 (Z : State) (h : Heap) (v : Value) : Prop := Sta Z h "com/example/cartouche/cartouche/crosswalks/DcElement" "CREATOR" "Lcom/example/cartouche/cartouche/crosswalks/DcElement;" v
abbrev sk3 (Z : State) (h : Heap) (v : Value) : Prop := Sta Z h "com/example/cartouche/cartouche/crosswalks/DcElement" "SUBJECT" "Lcom/example/cartouche/cartouche/crosswalks/DcElement;" v
abbrev sk4 (Z : State) (h : Heap) (v : Value) : Prop := Sta Z h "com/example/cartouche/cartouche/crosswalks/DcElement" "DESCRIPTION" "Lcom/example/cartouche/cartouche/crosswalks/DcElement;" v
abbrev sk5 (Z : State) (h : Heap) (v : Value) : Prop := Sta Z h "com/example/cartouche/cartouche/crosswalks/DcElement" "PUBLISHER" "Lcom/example/cartouche/cartouche/crosswalks/DcElement;" v
abbrev sk6 (Z : State) (h : Heap) (v : Value) : Prop := Sta Z h "com/example/cartouche/cartouche/crosswalks/DcElement" "CONTRIBUTOR" "Lcom/example/cartouche/cartouche/crosswalks/DcElement;" v
abbrev sk7 (Z : State) (h : Heap) (v : Value) : Prop := Sta Z h "com/example/cartouche/cartouche/crosswalks/DcElement" "DATE" "Lcom/example/cartouche/cartouche/crosswalks/DcElement;" v
abbrev sk8 (Z : State) (h : Heap) (v : Value) : Prop := Sta Z h "com/example/cartouche/cartouche/crosswalks/DcElement" "TYPE" "Lcom/example/cartouche/cartouche/crosswalks/DcElement;" v
abbrev sk9 (Z : State) (h : Heap) (v : Value) : Prop := Sta Z h "com/example/cartouche/cartouche/crosswalks/DcElement" "FORMAT" "Lcom/example/cartouche/cartouche/crosswalks/DcElement;" v
abbrev sk10 (Z : State) (h : Heap) (v : Value) : Prop := Sta Z h "com/example/cartouche/cartouche/crosswalks/DcElement" "IDENTIFIER" "Lcom/example/cartouche/cartouche/crosswalks/DcElement;" v
abbrev sk11 (Z : State) (h : Heap) (v : Value) : Prop := Sta Z h "com/example/cartouche/cartouche/crosswalks/DcElement" "SOURCE" "Lcom/example/cartouche/cartouche/crosswalks/DcElement;" v
abbrev sk12 (Z : State) (h : Heap) (v : Value) : Prop := Sta Z h "com/example/cartouche/cartouche/crosswalks/DcElement" "LANGUAGE" "Lcom/example/cartouche/cartouche/crosswalks/DcElement;" v
abbrev sk13 (Z : State) (h : Heap) (v : Value) : Prop := Sta Z h "com/example/cartouche/cartouche/crosswalks/DcElement" "RELATION" "Lcom/example/cartouche/cartouche/crosswalks/DcElement;" v
abbrev sk14 (Z : State) (h : Heap) (v : Value) : Prop := Sta Z h "com/example/cartouche/cartouche/crosswalks/DcElement" "COVERAGE" "Lcom/example/cartouche/cartouche/crosswalks/DcElement;" v
abbrev sk15 (Z : State) (h : Heap) (v : Value) : Prop := Sta Z h "com/example/cartouche/cartouche/crosswalks/DcElement" "RIGHTS" "Lcom/example/cartouche/cartouche/crosswalks/DcElement;" v
abbrev fk16 (Z : State) (h : Heap) (a : Addr) (v : Value) : Prop := Fld Z h a "java/lang/String" "coder" "B" v
abbrev fk17 (Z : State) (h : Heap) (a : Addr) (v : Value) : Prop := Fld Z h a "java/lang/String" "value" "[B" v
abbrev fk18 (Z : State) (h : Heap) (a : Addr) (v : Value) : Prop := Fld Z h a "com/example/cartouche/cartouche/crosswalks/DcValue" "element" "Lcom/example/cartouche/cartouche/crosswalks/DcElement;" v
abbrev fk19 (Z : State) (h : Heap) (a : Addr) (v : Value) : Prop := Fld Z h a "com/example/cartouche/cartouche/crosswalks/DcValue" "text" "Ljava/lang/String;" v
abbrev fk20 (Z : State) (h : Heap) (a : Addr) (v : Value) : Prop := Fld Z h a "java/lang/Enum" "ordinal" "I" v
abbrev ek21 (Z : State) (h : Heap) (a : Addr) : Prop := Exa Z h a "java/lang/String"
abbrev ek22 (Z : State) (h : Heap) (a : Addr) : Prop := Exa Z h a "com/example/cartouche/cartouche/crosswalks/DcValue"
abbrev ek23 (Z : State) (h : Heap) (a : Addr) : Prop := Exa Z h a "com/example/cartouche/cartouche/crosswalks/DcElement"
abbrev dk (B : ByteArray) (pc : Nat) (i : Instr) (n : Nat) : Prop := decode B pc = .ok (i, n)
abbrev B0 : ByteArray := jdk_42_method_149_code
abbrev B1 : ByteArray := jdk_42_method_3_code
abbrev B2 : ByteArray := jdk_52_method_21_code
abbrev B3 : ByteArray := jdk_52_method_16_code
abbrev B4 : ByteArray := jdk_52_method_15_code
abbrev B5 : ByteArray := method_3_code
abbrev B6 : ByteArray := method_4_code
abbrev B7 : ByteArray := jdk_31_method_11_code
abbrev B8 : ByteArray := prog_44_method_1_code
abbrev B9 : ByteArray := method_2_code
abbrev B10 : ByteArray := jdk_43_method_13_code
abbrev B11 : ByteArray := jdk_42_method_66_code
abbrev B12 : ByteArray := prog_44_method_4_code
abbrev B13 : ByteArray := method_5_code
abbrev B14 : ByteArray := prog_44_method_3_code
abbrev M0 (l : Launch) (ws : List Jvm.Cond) (R : Room) (Z : State) (A : Array Value) (h0 : Heap) (Q : Option Value → Heap → List Loc → Prop) : Prop := own_M l (⟨"java/lang/StringUTF16", "compress", "([CI[BII)I"⟩ : MethodName) jdk_52_method_21_code 7 (some .int) ws R Z A h0 Q
abbrev M1 (l : Launch) (ws : List Jvm.Cond) (R : Room) (Z : State) (A : Array Value) (h0 : Heap) (Q : Option Value → Heap → List Loc → Prop) : Prop := own_M l (⟨"java/lang/StringUTF16", "compress", "([CII)[B"⟩ : MethodName) jdk_52_method_16_code 6 (some (.array .byte)) ws R Z A h0 Q
abbrev M2 (l : Launch) (ws : List Jvm.Cond) (R : Room) (Z : State) (A : Array Value) (h0 : Heap) (Q : Option Value → Heap → List Loc → Prop) : Prop := own_M l (⟨"java/lang/StringUTF16", "coderFromArrayLen", "([BI)B"⟩ : MethodName) jdk_52_method_15_code 2 (some .byte) ws R Z A h0 Q
abbrev M3 (l : Launch) (ws : List Jvm.Cond) (R : Room) (Z : State) (A : Array Value) (h0 : Heap) (Q : Option Value → Heap → List Loc → Prop) : Prop := own_M l (⟨"java/lang/String", "<init>", "([CIILjava/lang/Void;)V"⟩ : MethodName) jdk_42_method_149_code 6 none ws R Z A h0 Q
abbrev M4 (l : Launch) (ws : List Jvm.Cond) (R : Room) (Z : State) (A : Array Value) (h0 : Heap) (Q : Option Value → Heap → List Loc → Prop) : Prop := own_M l (⟨"java/lang/String", "<init>", "([C)V"⟩ : MethodName) jdk_42_method_3_code 2 none ws R Z A h0 Q
abbrev M5 (l : Launch) (ws : List Jvm.Cond) (R : Room) (Z : State) (A : Array Value) (h0 : Heap) (Q : Option Value → Heap → List Loc → Prop) : Prop := own_M l (⟨"com/example/cartouche/cartouche/crosswalks/DcValueEqualsPinLaw", "ch", "(JI)C"⟩ : MethodName) method_3_code 3 (some .char) ws R Z A h0 Q
abbrev M6 (l : Launch) (ws : List Jvm.Cond) (R : Room) (Z : State) (A : Array Value) (h0 : Heap) (Q : Option Value → Heap → List Loc → Prop) : Prop := own_M l (⟨"com/example/cartouche/cartouche/crosswalks/DcValueEqualsPinLaw", "make", "(IJ)Ljava/lang/String;"⟩ : MethodName) method_4_code 3 (some (.object "java/lang/String")) ws R Z A h0 Q
abbrev M7 (l : Launch) (ws : List Jvm.Cond) (R : Room) (Z : State) (A : Array Value) (h0 : Heap) (Q : Option Value → Heap → List Loc → Prop) : Prop := own_M l (⟨"java/util/Objects", "requireNonNull", "(Ljava/lang/Object;Ljava/lang/String;)Ljava/lang/Object;"⟩ : MethodName) jdk_31_method_11_code 2 (some (.object "java/lang/Object")) ws R Z A h0 Q
abbrev M8 (l : Launch) (ws : List Jvm.Cond) (R : Room) (Z : State) (A : Array Value) (h0 : Heap) (Q : Option Value → Heap → List Loc → Prop) : Prop := own_M l (⟨"com/example/cartouche/cartouche/crosswalks/DcValueEqualsPinLaw", "el", "(I)Lcom/example/cartouche/cartouche/crosswalks/DcElement;"⟩ : MethodName) method_2_code 2 (some (.object "com/example/cartouche/cartouche/crosswalks/DcElement")) ws R Z A h0 Q
abbrev M9 (l : Launch) (ws : List Jvm.Cond) (R : Room) (Z : State) (A : Array Value) (h0 : Heap) (Q : Option Value → Heap → List Loc → Prop) : Prop := own_M l (⟨"java/lang/StringLatin1", "equals", "([B[B)Z"⟩ : MethodName) jdk_43_method_13_code 3 (some .boolean) ws R Z A h0 Q
abbrev M10 (l : Launch) (ws : List Jvm.Cond) (R : Room) (Z : State) (A : Array Value) (h0 : Heap) (Q : Option Value → Heap → List Loc → Prop) : Prop := own_M l (⟨"java/lang/String", "equals", "(Ljava/lang/Object;)Z"⟩ : MethodName) jdk_42_method_66_code 3 (some .boolean) ws R Z A h0 Q
abbrev M11 (l : Launch) (ws : List Jvm.Cond) (R : Room) (Z : State) (A : Array Value) (h0 : Heap) (Q : Option Value → Heap → List Loc → Prop) : Prop := own_M l (⟨"com/example/cartouche/cartouche/crosswalks/DcValue", "equals", "(Ljava/lang/Object;)Z"⟩ : MethodName) prog_44_method_4_code 3 (some .boolean) ws R Z A h0 Q
abbrev M12 (l : Launch) (ws : List Jvm.Cond) (R : Room) (Z : State) (A : Array Value) (h0 : Heap) (Q : Option Value → Heap → List Loc → Prop) : Prop := own_M l (⟨"com/example/cartouche/cartouche/crosswalks/DcValueEqualsPinLaw", "sameText", "(IJIJ)Z"⟩ : MethodName) method_5_code 9 (some .boolean) ws R Z A h0 Q
abbrev M13 (l : Launch) (ws : List Jvm.Cond) (R : Room) (Z : State) (A : Array Value) (h0 : Heap) (Q : Option Value → Heap → List Loc → Prop) : Prop := own_M l (⟨"com/example/cartouche/cartouche/crosswalks/DcValue", "text", "()Ljava/lang/String;"⟩ : MethodName) prog_44_method_3_code 1 (some (.object "java/lang/String")) ws R Z A h0 Q
theorem d5_0 : dk B0 0 (.aload_n 0) 1 := by decide +kernel
theorem d5_1 : dk B0 1 (.invokespecial 1) 3 := by decide +kernel
theorem d5_4 : dk B0 4 (.iload_n 3) 1 := by decide +kernel
theorem d5_5 : dk B0 5 (.ifCond .ne 22) 3 := by decide +kernel
theorem d5_8 : dk B0 8 (.aload_n 0) 1 := by decide +kernel
theorem d5_9 : dk B0 9 (.ldc 7) 2 := by decide +kernel
theorem d5_11 : dk B0 11 (.getfield 9) 3 := by decide +kernel
theorem d5_14 : dk B0 14 (.putfield 9) 3 := by decide +kernel
theorem d5_17 : dk B0 17 (.aload_n 0) 1 := by decide +kernel
theorem d5_18 : dk B0 18 (.ldc 7) 2 := by decide +kernel
theorem d5_20 : dk B0 20 (.getfield 15) 3 := by decide +kernel
theorem d5_23 : dk B0 23 (.putfield 15) 3 := by decide +kernel
theorem d5_26 : dk B0 26 (.return_) 1 := by decide +kernel
theorem d5_27 : dk B0 27 (.getstatic 38) 3 := by decide +kernel
theorem d5_30 : dk B0 30 (.ifCond .eq 28) 3 := by decide +kernel
theorem d5_33 : dk B0 33 (.aload_n 1) 1 := by decide +kernel
theorem d5_34 : dk B0 34 (.iload_n 2) 1 := by decide +kernel
theorem d5_35 : dk B0 35 (.iload_n 3) 1 := by decide +kernel
theorem d5_36 : dk B0 36 (.invokestatic 177) 3 := by decide +kernel
theorem d5_39 : dk B0 39 (.astore 5) 2 := by decide +kernel
theorem d5_41 : dk B0 41 (.aload_n 0) 1 := by decide +kernel
theorem d5_42 : dk B0 42 (.aload 5) 2 := by decide +kernel
theorem d5_44 : dk B0 44 (.iload_n 3) 1 := by decide +kernel
theorem d5_45 : dk B0 45 (.invokestatic 47) 3 := by decide +kernel
theorem d5_48 : dk B0 48 (.putfield 15) 3 := by decide +kernel
theorem d5_51 : dk B0 51 (.aload_n 0) 1 := by decide +kernel
theorem d5_52 : dk B0 52 (.aload 5) 2 := by decide +kernel
theorem d5_54 : dk B0 54 (.putfield 9) 3 := by decide +kernel
theorem d5_57 : dk B0 57 (.return_) 1 := by decide +kernel
theorem d5_58 : dk B0 58 (.aload_n 0) 1 := by decide +kernel
theorem d5_59 : dk B0 59 (.iconst 1) 1 := by decide +kernel
theorem d5_60 : dk B0 60 (.putfield 15) 3 := by decide +kernel
theorem d5_63 : dk B0 63 (.aload_n 0) 1 := by decide +kernel
theorem d5_64 : dk B0 64 (.aload_n 1) 1 := by decide +kernel
theorem d5_65 : dk B0 65 (.iload_n 2) 1 := by decide +kernel
theorem d5_66 : dk B0 66 (.iload_n 3) 1 := by decide +kernel
theorem d5_67 : dk B0 67 (.invokestatic 180) 3 := by decide +kernel
theorem d5_70 : dk B0 70 (.putfield 9) 3 := by decide +kernel
theorem d5_73 : dk B0 73 (.return_) 1 := by decide +kernel
theorem pn_5 : plainName "java/lang/String" = true := by first | (simp [plainName, overriddenIn]; done) | decide +kernel
theorem ef_init4_0 (m : MethodId) (x0 : Addr) (x1 : Addr) : entryFrame m #[(.ref x0), (.ref x1), (.int 0), (.int 0), .null] 6 = mkF m 0 #[.val (.ref x0), .val (.ref x1), .val (.int 0), .val (.int 0), .val .null, .unset] [] := by first | (simp [entryFrame, mkF, argsToLocals, Value.category]; done) | rfl
def Q_init4_0 (Z : State) (aS : Addr) (a2 : Addr) (h0 : Heap) (n0 : Nat) (v : Option Value) (h : Heap) (L : List Loc) : Prop := ∃ tN : Addr, ∃ kN : ClassId, v = none ∧ Fr n0 L ∧ Keep h0 h [aS] ∧ ek21 Z h aS ∧ fk16 Z h aS (.int 0) ∧ fk17 Z h aS (.ref tN) ∧ Arv Z h tN kN .byte (0 : Int32) [] (.int 0)
theorem rm_init4_0 (l : Launch) (Z : State) (a0 : Array Value) (hw : HW a0 Z) (ws : List Jvm.Cond) (aS : Addr) (a2 : Addr) (h0 : Heap) (n0 : Nat) (Z0 : n0 ≤ h0.size) (E_0 : ek21 Z h0 aS) (g_0 : n0 ≤ aS) (F0v : fk17 Z h0 aS .null) (F0c : fk16 Z h0 aS (.int 0)) :
    MetFree l (⟨"java/lang/String", "<init>", "([CIILjava/lang/Void;)V"⟩ : MethodName) (head1 (Jvm.Cond.code (⟨"java/lang/String", "<init>", "([CIILjava/lang/Void;)V"⟩ : MethodName) jdk_42_method_149_code 6 none :: ws) (rmk 1 2 4 12)) (fun a U => a = #[(.ref aS), (.ref a2), (.int 0), (.int 0), .null] ∧ Z.Warmed39 U.vm ∧ U.heap = h0 ∧ CHv Z EL0 U.vm h0) (fun _ _ _ _ _ => True) (fun _ U o U' => ∃ v L, o = .returned v ∧ Q_init4_0 Z aS a2 h0 n0 v U'.heap L ∧ CHr Z EL0 U.vm U.heap U'.vm U'.heap ∧ ReturnedEndW U o U' L (rmk 1 2 4 12).cells (rmk 1 2 4 12).slots) := by
  refine MetFree.of_bodySF (plainFor_of_name pn_5) hisR ?_
  intro p e s m args below meth c s₁ Bd hml0 hP hK
  obtain ⟨rfl, hZ, hh, hCH⟩ := hP
  have hx := Bd.exec
  have hby := Bd.bytes
  have hml : c.maxLocals = 6 := hml0
  have hown : s.vm.findClass "java/lang/String" = some m.cls := findClass_of_methodNamed Bd.named
  have hnm := (name_of_methodNamed Bd.named Bd.method).1
  have hlk := Bd.notSynchronized
  have hret := Bd.returns
  have X0 : Stand p l e (rmk 1 2 4 12) (s.setVm s.vm) m #[(.ref aS), (.ref a2), (.int 0), (.int 0), .null] below meth c s₁ [] 0 0 := Stand.of_body Bd
  have hS : s.Since s.vm 0 := (State.WarmedH.refl s).since 0
  have e0 : s₁.heap = h0 := by rw [← hh, Bd.state]; rfl
  have N0 := Fr.nil n0
  have K0 := Keep.refl h0 [aS]
  have hEL : EW Z a0 EL0 := own_ELw hw
  have CR0 : CHr Z EL0 s.vm s.heap s.vm h0 := by rw [hh]; exact CHr.refl hCH
  have Sf_aS : Safe Z EL0 s.vm h0 aS := own_safe0 hZ.alike E_0 F0v
  refine own_inH (rmk 1 2 4 12).cells (rmk 1 2 4 12).slots (Q_init4_0 Z aS a2 h0 n0) (ef_init4_0 m aS a2) ?_
  show gs s₁ m 0 #[vr aS, vr a2, vi 0, vi 0, .val .null, .unset] []
  refine oaloadN X0 hx hby d5_0 rfl rfl ?_
  obtain ⟨T1, X1, e1, st1⟩ := initO X0 hx hZ hown (own_w hw 60 rfl) (own_w hw 61 rfl) (own_w hw 62 rfl) e0 (g := (mkF m 1 #[vr aS, vr a2, vi 0, vi 0, .val .null, .unset] [(.ref aS)])) rfl (by rw [hml]; rfl) rfl (hb hby d5_1) (by decide) (W := 0) (by show 2 * 0 + _ ≤ _; exact Nat.le_of_eq rfl) (by decide)
  refine own_st st1 ?_
  show gs T1 m 4 #[vr aS, vr a2, vi 0, vi 0, .val .null, .unset] []
  refine oiloadN X1 hx hby d5_4 rfl ?_
  refine own_st (fun _ kS => XS.ifNo X1.here hx rfl (hb hby d5_5) rfl ((if0 _ _).trans (teq (by decide : (0 : Int32) = (0 : Int32))).2) kS) ?_
  show gs T1 m 8 #[vr aS, vr a2, vi 0, vi 0, .val .null, .unset] []
  refine oaloadN X1 hx hby d5_8 rfl rfl ?_
  show gs T1 m 9 #[vr aS, vr a2, vi 0, vi 0, .val .null, .unset] [(.ref aS)]
  have wS : ∀ a ∈ Bundle.stringAtoms, a.before a0 Z = true := fun d hd => hw d ((by decide +kernel : ∀ d ∈ Bundle.stringAtoms, d ∈ tables_1) d hd)
  obtain ⟨lit3, T3, h3, k3, b3, kb3, X3, e3, E3, hS, hk3, hZ, hown, Ax3, Fc3, Fv3, Av3, lta3, ltb3, C3, Lt3, sf3, st3⟩ := ldcCH X1 hx hZ hown (own_w hw 97 rfl) wS e1 hS (Nat.zero_le _) hEL own_mem hCH own_ht0 (z := 0) (by decide) rfl (g := (mkF m 9 #[vr aS, vr a2, vi 0, vi 0, .val .null, .unset] [(.ref aS)])) rfl (hb hby d5_9) (n := 0) (by decide) (by decide) (by decide) (by decide)
  have Sf3_aS := C3.safe E_0.lt Sf_aS
  have K3 := K0.ext E3
  have CR3 := CR0.trans C3
  have CH3 := C3.1
  have ne_aS_lit3 := (sf3 _ Sf3_aS).1
  have ne_aS_b3 := (sf3 _ Sf3_aS).2
  refine own_st st3 ?_
  show gs T3 m 11 #[vr aS, vr a2, vi 0, vi 0, .val .null, .unset] [(.ref lit3), (.ref aS)]
  obtain ⟨T4, X4, e4, st4⟩ := getF X3 hx hZ hown (host := "") (Or.inl (own_w hw 77 rfl)) Via.refl e3 Fv3 (g := (mkF m 11 #[vr aS, vr a2, vi 0, vi 0, .val .null, .unset] [(.ref lit3), (.ref aS)])) rfl rfl (hb hby d5_11)
  refine own_st st4 ?_
  show gs T4 m 14 #[vr aS, vr a2, vi 0, vi 0, .val .null, .unset] [(.ref b3), (.ref aS)]
  obtain ⟨T5, h5, X5, e5, W5, st5⟩ := putF X4 hx hZ hown (host := "") (Or.inl (own_w hw 77 rfl)) Via.refl e4 (Fld.ext E3 F0v) (Exa.ext E3 E_0) (Or.inr ⟨(own_w hw 78 rfl), rfl, hnm⟩) (own_w hw 46 rfl) (ty := (.array .byte)) (by decide) rfl rfl (g := (mkF m 14 #[vr aS, vr a2, vi 0, vi 0, .val .null, .unset] [(.ref b3), (.ref aS)])) rfl rfl (hb hby d5_14)
  refine own_st st5 ?_
  have Sw5 : Safe Z EL0 _ _ aS := Sf3_aS
  have N5 := Fr.snoc X5 N0 g_0
  have K5 := K3.wr W5 (Or.inl (List.mem_of_getElem? (i := 0) rfl))
  have Sf5_aS := Safe.wr W5 Sw5 CH3 Sf3_aS
  have CR5 := CR3.trans (CHr.wr W5 Sw5 CH3)
  have CH5 := CHv.wr W5 Sw5 CH3
  have Fw5 := Fld.same W5 (Fld.ext E3 F0v)
  show gs T5 m 17 #[vr aS, vr a2, vi 0, vi 0, .val .null, .unset] []
  refine oaloadN X5 hx hby d5_17 rfl rfl ?_
  show gs T5 m 18 #[vr aS, vr a2, vi 0, vi 0, .val .null, .unset] [(.ref aS)]
  refine own_st (ldcAgain X5 hx hZ hown (own_w hw 97 rfl) Lt3 (g := (mkF m 18 #[vr aS, vr a2, vi 0, vi 0, .val .null, .unset] [(.ref aS)])) rfl (hb hby d5_18)) ?_
  show gs T5 m 20 #[vr aS, vr a2, vi 0, vi 0, .val .null, .unset] [(.ref lit3), (.ref aS)]
  obtain ⟨T7, X7, e7, st7⟩ := getF X5 hx hZ hown (host := "") (Or.inl (own_w hw 75 rfl)) Via.refl e5 (Fld.other W5 Fc3 (Or.inl (Ne.symm ne_aS_lit3))) (g := (mkF m 20 #[vr aS, vr a2, vi 0, vi 0, .val .null, .unset] [(.ref lit3), (.ref aS)])) rfl rfl (hb hby d5_20)
  refine own_st st7 ?_
  show gs T7 m 23 #[vr aS, vr a2, vi 0, vi 0, .val .null, .unset] [(.int 0), (.ref aS)]
  obtain ⟨T8, h8, X8, e8, W8, st8⟩ := putFN X7 hx hZ hown (own_w hw 75 rfl) Via.refl e7 (Fld.other W5 (Fld.ext E3 F0c) (Or.inr (slot_ne (Or.inr (own_w hw 76 rfl)) (Or.inr (own_w hw 78 rfl)) (by decide) (t := .byte) (t' := (.array .byte)) (by decide) (by decide)))) (Exa.wr W5 (Exa.ext E3 E_0)) (Or.inr ⟨(own_w hw 76 rfl), rfl, hnm⟩) (own_w hw 46 rfl) (ty := .byte) (v' := (.int 0)) (by decide) rfl (by decide) (g := (mkF m 23 #[vr aS, vr a2, vi 0, vi 0, .val .null, .unset] [(.int 0), (.ref aS)])) rfl rfl (hb hby d5_23)
  refine own_st st8 ?_
  have Sw8 : Safe Z EL0 _ _ aS := Sf5_aS
  have N8 := Fr.snoc X8 N5 g_0
  have K8 := K5.wr W8 (Or.inl (List.mem_of_getElem? (i := 0) rfl))
  have Sf8_aS := Safe.wr W8 Sw8 CH5 Sf5_aS
  have CR8 := CR5.trans (CHr.wr W8 Sw8 CH5)
  have CH8 := CHv.wr W8 Sw8 CH5
  have Fw8 := Fld.same W8 (Fld.other W5 (Fld.ext E3 F0c) (Or.inr (slot_ne (Or.inr (own_w hw 76 rfl)) (Or.inr (own_w hw 78 rfl)) (by decide) (t := .byte) (t' := (.array .byte)) (by decide) (by decide))))
  show gs T8 m 26 #[vr aS, vr a2, vi 0, vi 0, .val .null, .unset] []
  exact own_retVH hZ hEL (by rw [e8]; exact CR8) hS (own_le e8 (Nat.le_trans (Nat.le_trans hk3 (Keep.of_wr W5).1) (Keep.of_wr W8).1)) X8 hx hlk hret (hb hby d5_26) (by decide) (by decide) (by rw [e8]; exact ⟨b3, kb3, ⟨rfl, N8, K8, (Exa.wr W8 (Exa.wr W5 (Exa.ext E3 E_0))), Fw8, (Fld.other W8 Fw5 (Or.inr (slot_ne (Or.inr (own_w hw 78 rfl)) (Or.inr (own_w hw 76 rfl)) (by decide) (t := (.array .byte)) (t' := .byte) (by decide) (by decide)))), ((Av3.other W5 (Ne.symm ne_aS_b3)).other W8 (Ne.symm ne_aS_b3))⟩⟩)
theorem d4_0 : dk B1 0 (.aload_n 0) 1 := by decide +kernel
theorem d4_1 : dk B1 1 (.aload_n 1) 1 := by decide +kernel
theorem d4_2 : dk B1 2 (.iconst 0) 1 := by decide +kernel
theorem d4_3 : dk B1 3 (.aload_n 1) 1 := by decide +kernel
theorem d4_4 : dk B1 4 (.arraylength) 1 := by decide +kernel
theorem d4_5 : dk B1 5 (.aconst_null) 1 := by decide +kernel
theorem d4_6 : dk B1 6 (.invokespecial 27) 3 := by decide +kernel
theorem d4_9 : dk B1 9 (.return_) 1 := by decide +kernel
theorem pn_4 : plainName "java/lang/String" = true := by first | (simp [plainName, overriddenIn]; done) | decide +kernel
theorem own_pd0 : parseMethodDescriptor "([CIILjava/lang/Void;)V" = some ⟨[(.array .char), .int, .int, (.object "java/lang/Void")], none⟩ := by decide +kernel
theorem ef_init1_0 (m : MethodId) (x0 : Addr) (x1 : Addr) : entryFrame m #[(.ref x0), (.ref x1)] 2 = mkF m 0 #[.val (.ref x0), .val (.ref x1)] [] := by first | (simp [entryFrame, mkF, argsToLocals, Value.category]; done) | rfl
def Q_init1_0 (Z : State) (aS : Addr) (a2 : Addr) (kC : ClassId) (h0 : Heap) (n0 : Nat) (v : Option Value) (h : Heap) (L : List Loc) : Prop := ∃ tN : Addr, ∃ kN : ClassId, v = none ∧ Fr n0 L ∧ Keep h0 h [aS] ∧ ek21 Z h aS ∧ fk16 Z h aS (.int 0) ∧ fk17 Z h aS (.ref tN) ∧ Arv Z h tN kN .byte (0 : Int32) [] (.int 0)
theorem rm_init1_0 (l : Launch) (Z : State) (a0 : Array Value) (hw : HW a0 Z) (ws : List Jvm.Cond) (aS : Addr) (a2 : Addr) (kC : ClassId) (h0 : Heap) (n0 : Nat) (Z0 : n0 ≤ h0.size) (E_0 : ek21 Z h0 aS) (g_0 : n0 ≤ aS) (F0v : fk17 Z h0 aS .null) (F0c : fk16 Z h0 aS (.int 0)) (R_C : Arv Z h0 a2 kC .char (0 : Int32) [] (.int 0)) :
    MetFree l (⟨"java/lang/String", "<init>", "([C)V"⟩ : MethodName) (head1 (Jvm.Cond.code (⟨"java/lang/String", "<init>", "([C)V"⟩ : MethodName) jdk_42_method_3_code 2 none :: ws) (rmk 2 2 4 29)) (fun a U => a = #[(.ref aS), (.ref a2)] ∧ Z.Warmed39 U.vm ∧ U.heap = h0 ∧ CHv Z EL0 U.vm h0) (fun _ _ _ _ _ => True) (fun _ U o U' => ∃ v L, o = .returned v ∧ Q_init1_0 Z aS a2 kC h0 n0 v U'.heap L ∧ CHr Z EL0 U.vm U.heap U'.vm U'.heap ∧ ReturnedEndW U o U' L (rmk 2 2 4 29).cells (rmk 2 2 4 29).slots) := by
  refine MetFree.of_bodySF (plainFor_of_name pn_4) hisR ?_
  intro p e s m args below meth c s₁ Bd hml0 hP hK
  obtain ⟨rfl, hZ, hh, hCH⟩ := hP
  have hx := Bd.exec
  have hby := Bd.bytes
  have hml : c.maxLocals = 2 := hml0
  have hown : s.vm.findClass "java/lang/String" = some m.cls := findClass_of_methodNamed Bd.named
  have hnm := (name_of_methodNamed Bd.named Bd.method).1
  have hlk := Bd.notSynchronized
  have hret := Bd.returns
  have X0 : Stand p l e (rmk 2 2 4 29) (s.setVm s.vm) m #[(.ref aS), (.ref a2)] below meth c s₁ [] 0 0 := Stand.of_body Bd
  have hS : s.Since s.vm 0 := (State.WarmedH.refl s).since 0
  have e0 : s₁.heap = h0 := by rw [← hh, Bd.state]; rfl
  have N0 := Fr.nil n0
  have K0 := Keep.refl h0 [aS]
  have hEL : EW Z a0 EL0 := own_ELw hw
  have CR0 : CHr Z EL0 s.vm s.heap s.vm h0 := by rw [hh]; exact CHr.refl hCH
  have Sf_aS : Safe Z EL0 s.vm h0 aS := own_safe0 hZ.alike E_0 F0v
  refine own_inH (rmk 2 2 4 29).cells (rmk 2 2 4 29).slots (Q_init1_0 Z aS a2 kC h0 n0) (ef_init1_0 m aS a2) ?_
  show gs s₁ m 0 #[vr aS, vr a2] []
  refine oaloadN X0 hx hby d4_0 rfl rfl ?_
  refine oaloadN X0 hx hby d4_1 rfl rfl ?_
  refine oiconst X0 hx hby d4_2 ?_
  refine oaloadN X0 hx hby d4_3 rfl rfl ?_
  show gs s₁ m 4 #[vr aS, vr a2] [(.ref a2), (.int 0), (.ref a2), (.ref aS)]
  obtain ⟨cl1, Ar1, qa1, qs1, qn1, qh1, qg1⟩ := id R_C
  refine own_st (fun _ kS => X0.arraylength hx (by rw [e0]; exact Ar1.1) (State.isArrayOf_alike hZ.alike Ar1.2.1) (g := (mkF m 4 #[vr aS, vr a2] [(.ref a2), (.int 0), (.ref a2), (.ref aS)])) rfl rfl (hb hby d4_4) _ kS) ?_
  rw [len_of qs1 qn1]
  show gs s₁ m 5 #[vr aS, vr a2] [(.int 0), (.int 0), (.ref a2), (.ref aS)]
  refine own_st (fun _ kS => XS.aconstNull X0.here hx rfl (hb hby d4_5) kS) ?_
  show gs s₁ m 6 #[vr aS, vr a2] [.null, (.int 0), (.int 0), (.ref a2), (.ref aS)]
  obtain ⟨_, _, ⟨T2, L2, k2, n2⟩, -, X2, sv2, sg2, ⟨Lc2, hQ2, l2, y2, z2, cr2⟩, st2⟩ := X0.specialBackS hx (y := (⟨"java/lang/String", "<init>", "([CIILjava/lang/Void;)V"⟩ : MethodName)) rfl hown (mvT hZ (own_w hw 56 rfl)) (mvT hZ (own_w hw 57 rfl)) (mvT hZ (own_w hw 59 rfl)) (by decide) (backOfSH (W := 0) (rm_init4_0 l Z a0 hw [] aS a2 h0 n0 Z0  E_0 g_0 F0v F0c) hZ (own_w hw 59 rfl) (own_w hw 47 rfl) (by decide) (by decide) hEL hCH) (g := (mkF m 6 #[vr aS, vr a2] [.null, (.int 0), (.int 0), (.ref a2), (.ref aS)])) rfl (by rw [hml]; rfl) (Steps.refl _) (a := aS) (argsL := [(.ref a2), (.int 0), (.int 0), .null]) (rest := []) (lenOf own_pd0 rfl) rfl (by show 2 * 0 + _ ≤ _; exact Nat.le_of_eq rfl) (hb hby d4_6) (fun _ _ => ⟨rfl, e0, (by decide : 0 + 2 ≤ _), (by decide : 0 + 4 ≤ _)⟩)
  dsimp only [Pt.U, Pt.locs, Pt.cells, Pt.slots] at X2 l2 y2 z2 st2 hQ2 sv2 sg2 cr2
  subst l2 y2 z2
  obtain ⟨X2, hS, hZ, hown⟩ := rebS hS (own_le e0 (Nat.zero_le _)) X2 sv2 sg2 hZ hown
  obtain ⟨tN_2, kN_2, rfl, Nq2, Kc2, P2_0, P2_1, P2_2, P2_3⟩ := hQ2
  have N2 := Fr.app N0 Nq2
  have K2 := K0.trans Kc2 (allS (Or.inl (List.mem_of_getElem? (i := 0) rfl)) all0)
  have ne_tN_2_aS : tN_2 ≠ aS := own_arne P2_3 P2_0 (own_w hw 46 rfl)
  have CR2 := CR0.trans cr2
  have CH2 := cr2.1
  refine own_tr st2 ?_
  show gs T2 m 9 #[vr aS, vr a2] []
  exact own_retVH hZ hEL (CR2) hS (Nat.le_refl _) X2 hx hlk hret (hb hby d4_9) (by decide) (by decide) (show Q_init1_0 Z aS a2 kC h0 n0 _ _ _ from ⟨tN_2, kN_2, ⟨rfl, N2, K2, P2_0, P2_1, P2_2, P2_3⟩⟩)
theorem d8_0 : dk B2 0 (.iconst 0) 1 := by decide +kernel
theorem d8_1 : dk B2 1 (.istore 5) 2 := by decide +kernel
theorem d8_3 : dk B2 3 (.iload 5) 2 := by decide +kernel
theorem d8_5 : dk B2 5 (.iload 4) 2 := by decide +kernel
theorem d8_7 : dk B2 7 (.if_icmp .ge 37) 3 := by decide +kernel
theorem d8_10 : dk B2 10 (.aload_n 0) 1 := by decide +kernel
theorem d8_11 : dk B2 11 (.iload_n 1) 1 := by decide +kernel
theorem d8_12 : dk B2 12 (.caload) 1 := by decide +kernel
theorem d8_13 : dk B2 13 (.istore 6) 2 := by decide +kernel
theorem d8_15 : dk B2 15 (.iload 6) 2 := by decide +kernel
theorem d8_17 : dk B2 17 (.sipush 255) 3 := by decide +kernel
theorem d8_20 : dk B2 20 (.if_icmp .le 6) 3 := by decide +kernel
theorem d8_23 : dk B2 23 (.iload 5) 2 := by decide +kernel
theorem d8_25 : dk B2 25 (.ireturn) 1 := by decide +kernel
theorem d8_26 : dk B2 26 (.aload_n 2) 1 := by decide +kernel
theorem d8_27 : dk B2 27 (.iload_n 3) 1 := by decide +kernel
theorem d8_28 : dk B2 28 (.iload 6) 2 := by decide +kernel
theorem d8_30 : dk B2 30 (.i2b) 1 := by decide +kernel
theorem d8_31 : dk B2 31 (.bastore) 1 := by decide +kernel
theorem d8_32 : dk B2 32 (.iinc 1 1) 3 := by decide +kernel
theorem d8_35 : dk B2 35 (.iinc 3 1) 3 := by decide +kernel
theorem d8_38 : dk B2 38 (.iinc 5 1) 3 := by decide +kernel
theorem d8_41 : dk B2 41 (.goto (-38)) 3 := by decide +kernel
theorem d8_44 : dk B2 44 (.iload 4) 2 := by decide +kernel
theorem d8_46 : dk B2 46 (.ireturn) 1 := by decide +kernel
theorem pn_8 : plainName "java/lang/StringUTF16" = true := by first | (simp [plainName, overriddenIn]; done) | decide +kernel
theorem ef_cmpI1 (m : MethodId) (x0 : Addr) (x1 : Addr) : entryFrame m #[(.ref x0), (.int 0), (.ref x1), (.int 0), (.int 1)] 7 = mkF m 0 #[.val (.ref x0), .val (.int 0), .val (.ref x1), .val (.int 0), .val (.int 1), .unset, .unset] [] := by first | (simp [entryFrame, mkF, argsToLocals, Value.category]; done) | rfl
def Q_cmpI1 (Z : State) (a2 : Addr) (kC : ClassId) (tA : Addr) (kA : ClassId) (c0 : Int32) (h0 : Heap) (n0 : Nat) (v : Option Value) (h : Heap) (L : List Loc) : Prop := v = some (.int 1) ∧ Fr n0 L ∧ Keep h0 h [tA] ∧ Arv Z h tA kA .byte (1 : Int32) [(.int (nar .byte (c0.toInt8.toInt32)))] (.int 0)
theorem rm_cmpI1 (l : Launch) (Z : State) (a0 : Array Value) (hw : HW a0 Z) (ws : List Jvm.Cond) (a2 : Addr) (kC : ClassId) (tA : Addr) (kA : ClassId) (c0 : Int32) (h0 : Heap) (n0 : Nat) (Z0 : n0 ≤ h0.size) (R_C : Arv Z h0 a2 kC .char (1 : Int32) [(.int c0)] (.int 0)) (R_A : Arv Z h0 tA kA .byte (1 : Int32) [(.int 0)] (.int 0)) (g_A : n0 ≤ tA) (ne2A : a2 ≠ tA) (hC0 : ¬ ((255 : Int32) < c0)) :
    M0 l ws (rmk 0 0 0 0) Z #[(.ref a2), (.int 0), (.ref tA), (.int 0), (.int 1)] h0 (Q_cmpI1 Z a2 kC tA kA c0 h0 n0) := by
  refine own_go "java/lang/StringUTF16" rfl (plainFor_of_name pn_8) (fun m => ef_cmpI1 m a2 tA) (fun p e s m below meth c s₁ hx hby hml hown hnm hlk hret hZ X0 e0 => ?_)
  have N0 := Fr.nil n0
  have K0 := Keep.refl h0 [tA]
  show gs s₁ m 0 #[vr a2, vi 0, vr tA, vi 0, vi 1, .unset, .unset] []
  refine oiconst X0 hx hby d8_0 ?_
  refine own_st (fun _ kS => XS.istore X0.here hx rfl (hb hby d8_1) rfl (l' := #[vr a2, vi 0, vr tA, vi 0, vi 1, vi 0, .unset]) rfl kS) ?_
  refine oiload X0 hx hby d8_3 rfl ?_
  refine oiload X0 hx hby d8_5 rfl ?_
  refine own_st (fun _ kS => XS.icmpNo X0.here hx rfl (hb hby d8_7) rfl (tlt (by decide : (0 : Int32) < (1 : Int32))).2.1 kS) ?_
  show gs s₁ m 10 #[vr a2, vi 0, vr tA, vi 0, vi 1, vi 0, .unset] []
  refine oaloadN X0 hx hby d8_10 rfl rfl ?_
  refine oiloadN X0 hx hby d8_11 rfl ?_
  show gs s₁ m 12 #[vr a2, vi 0, vr tA, vi 0, vi 1, vi 0, .unset] [(.int 0), (.ref a2)]
  obtain ⟨cl1, Ar1, qa1, qs1, qn1, qh1, qg1⟩ := id R_C
  refine own_st (fun _ kS => X0.caload hx (j := (0 : Int32)) (v := (.int c0)) (by rw [e0]; exact Ar1.1) (State.isArrayOf_alike hZ.alike Ar1.2.1) Ar1.2.2 (inb_of qs1 ⟨by decide, by decide⟩) (qh1.at (inb_of qs1 ⟨by decide, by decide⟩) rfl) (g := (mkF m 12 #[vr a2, vi 0, vr tA, vi 0, vi 1, vi 0, .unset] [(.int 0), (.ref a2)])) rfl rfl (hb hby d8_12) _ kS) ?_
  show gs s₁ m 13 #[vr a2, vi 0, vr tA, vi 0, vi 1, vi 0, .unset] [(.int c0)]
  refine own_st (fun _ kS => XS.istore X0.here hx rfl (hb hby d8_13) rfl (l' := #[vr a2, vi 0, vr tA, vi 0, vi 1, vi 0, vi c0]) rfl kS) ?_
  refine oiload X0 hx hby d8_15 rfl ?_
  refine own_st (fun _ kS => XS.sipush X0.here hx rfl (hb hby d8_17) kS) ?_
  show gs s₁ m 20 #[vr a2, vi 0, vr tA, vi 0, vi 1, vi 0, vi c0] [(.int 255), (.int c0)]
  refine own_st (fun _ kS => XS.icmpYes X0.here hx rfl (pc0 := 20) (pc' := 26) rfl (hb hby d8_20) rfl (flt (hC0 : ¬ ((255 : Int32) < c0))).2.2.2 (by decide) (by decide) kS) ?_
  show gs s₁ m 26 #[vr a2, vi 0, vr tA, vi 0, vi 1, vi 0, vi c0] []
  refine oaloadN X0 hx hby d8_26 rfl rfl ?_
  refine oiloadN X0 hx hby d8_27 rfl ?_
  refine oiload X0 hx hby d8_28 rfl ?_
  refine own_st (fun _ kS => XT.i2b X0.here hx rfl (hb hby d8_30) rfl kS) ?_
  show gs s₁ m 31 #[vr a2, vi 0, vr tA, vi 0, vi 1, vi 0, vi c0] [(.int (c0.toInt8.toInt32)), (.int 0), (.ref tA)]
  obtain ⟨cl2, Ar2, qa2, qs2, qn2, qh2, qg2⟩ := id R_A
  obtain ⟨T2, h2, X2, e2, W2, st2⟩ := stB X0 hx hZ e0 Ar2 (j := (0 : Int32)) (inb_of qs2 ⟨by decide, by decide⟩) (g := (mkF m 31 #[vr a2, vi 0, vr tA, vi 0, vi 1, vi 0, vi c0] [(.int (c0.toInt8.toInt32)), (.int 0), (.ref tA)])) rfl rfl (hb hby d8_31)
  have N2 := Fr.snoc X2 N0 g_A
  have K2 := K0.wr W2 (Or.inl (List.mem_of_getElem? (i := 0) rfl))
  have R2 : Arv Z h2 tA kA .byte (1 : Int32) [(.int (nar .byte (c0.toInt8.toInt32)))] (.int 0) := Arv.set Ar2 qa2 qs2 qn2 qh2 qg2 (fits_nar_byte _) W2 0 rfl (Nat.le_of_ble_eq_true rfl)
  refine own_st st2 ?_
  show gs T2 m 32 #[vr a2, vi 0, vr tA, vi 0, vi 1, vi 0, vi c0] []
  refine own_st (fun _ kS => XS.iinc X2.here hx rfl (hb hby d8_32) rfl (l' := #[vr a2, vi 1, vr tA, vi 0, vi 1, vi 0, vi c0]) rfl kS) ?_
  refine own_st (fun _ kS => XS.iinc X2.here hx rfl (hb hby d8_35) rfl (l' := #[vr a2, vi 1, vr tA, vi 1, vi 1, vi 0, vi c0]) rfl kS) ?_
  refine own_st (fun _ kS => XS.iinc X2.here hx rfl (hb hby d8_38) rfl (l' := #[vr a2, vi 1, vr tA, vi 1, vi 1, vi 1, vi c0]) rfl kS) ?_
  refine own_st (fun _ kS => XS.goto X2.here hx rfl (pc0 := 41) (pc' := 3) rfl (hb hby d8_41) (by decide) (by decide) kS) ?_
  refine oiload X2 hx hby d8_3 rfl ?_
  refine oiload X2 hx hby d8_5 rfl ?_
  refine own_st (fun _ kS => XS.icmpYes X2.here hx rfl (pc0 := 7) (pc' := 44) rfl (hb hby d8_7) rfl (flt (by decide : ¬ ((1 : Int32) < (1 : Int32)))).2.1 (by decide) (by decide) kS) ?_
  show gs T2 m 44 #[vr a2, vi 1, vr tA, vi 1, vi 1, vi 1, vi c0] []
  refine oiload X2 hx hby d8_44 rfl ?_
  exact own_retI X2 hx hlk hret (hb hby d8_46) (by decide) (by decide) (by rw [e2]; exact ⟨rfl, N2, K2, R2⟩)
theorem d7_0 : dk B3 0 (.iload_n 2) 1 := by decide +kernel
theorem d7_1 : dk B3 1 (.newarray .byte) 2 := by decide +kernel
theorem d7_3 : dk B3 3 (.astore_n 3) 1 := by decide +kernel
theorem d7_4 : dk B3 4 (.aload_n 0) 1 := by decide +kernel
theorem d7_5 : dk B3 5 (.iload_n 1) 1 := by decide +kernel
theorem d7_6 : dk B3 6 (.aload_n 3) 1 := by decide +kernel
theorem d7_7 : dk B3 7 (.iconst 0) 1 := by decide +kernel
theorem d7_8 : dk B3 8 (.iload_n 2) 1 := by decide +kernel
theorem d7_9 : dk B3 9 (.invokestatic 115) 3 := by decide +kernel
theorem d7_12 : dk B3 12 (.istore 4) 2 := by decide +kernel
theorem d7_14 : dk B3 14 (.iload 4) 2 := by decide +kernel
theorem d7_16 : dk B3 16 (.iload_n 2) 1 := by decide +kernel
theorem d7_17 : dk B3 17 (.if_icmp .eq 40) 3 := by decide +kernel
theorem d7_20 : dk B3 20 (.aload_n 0) 1 := by decide +kernel
theorem d7_21 : dk B3 21 (.iload_n 1) 1 := by decide +kernel
theorem d7_22 : dk B3 22 (.iload_n 2) 1 := by decide +kernel
theorem d7_23 : dk B3 23 (.invokestatic 119) 3 := by decide +kernel
theorem d7_26 : dk B3 26 (.astore 5) 2 := by decide +kernel
theorem d7_28 : dk B3 28 (.aload 5) 2 := by decide +kernel
theorem d7_30 : dk B3 30 (.iload 4) 2 := by decide +kernel
theorem d7_32 : dk B3 32 (.invokestatic 71) 3 := by decide +kernel
theorem d7_35 : dk B3 35 (.sipush 255) 3 := by decide +kernel
theorem d7_38 : dk B3 38 (.if_icmp .gt 16) 3 := by decide +kernel
theorem d7_41 : dk B3 41 (.aload 5) 2 := by decide +kernel
theorem d7_43 : dk B3 43 (.iconst 0) 1 := by decide +kernel
theorem d7_44 : dk B3 44 (.aload_n 3) 1 := by decide +kernel
theorem d7_45 : dk B3 45 (.iconst 0) 1 := by decide +kernel
theorem d7_46 : dk B3 46 (.iload_n 2) 1 := by decide +kernel
theorem d7_47 : dk B3 47 (.invokestatic 123) 3 := by decide +kernel
theorem d7_50 : dk B3 50 (.iload_n 2) 1 := by decide +kernel
theorem d7_51 : dk B3 51 (.if_icmp .eq 6) 3 := by decide +kernel
theorem d7_54 : dk B3 54 (.aload 5) 2 := by decide +kernel
theorem d7_56 : dk B3 56 (.areturn) 1 := by decide +kernel
theorem d7_57 : dk B3 57 (.aload_n 3) 1 := by decide +kernel
theorem d7_58 : dk B3 58 (.areturn) 1 := by decide +kernel
theorem pn_7 : plainName "java/lang/StringUTF16" = true := by first | (simp [plainName, overriddenIn]; done) | decide +kernel
theorem own_pd1 : parseMethodDescriptor "([CI[BII)I" = some ⟨[(.array .char), .int, (.array .byte), .int, .int], some .int⟩ := by decide +kernel
theorem ef_cmpA1 (m : MethodId) (x0 : Addr) : entryFrame m #[(.ref x0), (.int 0), (.int 1)] 6 = mkF m 0 #[.val (.ref x0), .val (.int 0), .val (.int 1), .unset, .unset, .unset] [] := by first | (simp [entryFrame, mkF, argsToLocals, Value.category]; done) | rfl
def Q_cmpA1 (Z : State) (a2 : Addr) (kC : ClassId) (c0 : Int32) (h0 : Heap) (n0 : Nat) (v : Option Value) (h : Heap) (L : List Loc) : Prop := ∃ tN : Addr, ∃ kN : ClassId, v = some (.ref tN) ∧ Fr n0 L ∧ Keep h0 h [] ∧ h0.size ≤ tN ∧ Arv Z h tN kN .byte (1 : Int32) [(.int (nar .byte (c0.toInt8.toInt32)))] (.int 0)
theorem rm_cmpA1 (l : Launch) (Z : State) (a0 : Array Value) (hw : HW a0 Z) (ws : List Jvm.Cond) (a2 : Addr) (kC : ClassId) (c0 : Int32) (h0 : Heap) (n0 : Nat) (Z0 : n0 ≤ h0.size) (R_C : Arv Z h0 a2 kC .char (1 : Int32) [(.int c0)] (.int 0)) (hC0 : ¬ ((255 : Int32) < c0)) :
    M1 l ws (rmk 1 1 1 18) Z #[(.ref a2), (.int 0), (.int 1)] h0 (Q_cmpA1 Z a2 kC c0 h0 n0) := by
  refine own_go "java/lang/StringUTF16" rfl (plainFor_of_name pn_7) (fun m => ef_cmpA1 m a2) (fun p e s m below meth c s₁ hx hby hml hown hnm hlk hret hZ X0 e0 => ?_)
  have N0 := Fr.nil n0
  have K0 := Keep.refl h0 []
  show gs s₁ m 0 #[vr a2, vi 0, vi 1, .unset, .unset, .unset] []
  refine oiloadN X0 hx hby d7_0 rfl ?_
  show gs s₁ m 1 #[vr a2, vi 0, vi 1, .unset, .unset, .unset] [(.int 1)]
  obtain ⟨T1, h1, k1, X1, e1, E1, A1, st1⟩ := newP X0 hx hZ (own_w hw 68 rfl) e0 (g := (mkF m 1 #[vr a2, vi 0, vi 1, .unset, .unset, .unset] [(.int 1)])) rfl (hb hby d7_1) rfl (by decide) (cap := 1) (by decide) (by decide) (by decide) (by decide)
  obtain ⟨b1, g1⟩ : ∃ z, z = h0.size := ⟨_, rfl⟩
  have ne_a2_b1 : a2 ≠ b1 := Nat.ne_of_lt (Nat.lt_of_lt_of_eq R_C.lt g1.symm)
  have ge_b1 : n0 ≤ b1 := Nat.le_trans Z0 (Nat.le_of_eq g1.symm)
  have sz_b1 : h0.size ≤ b1 := Nat.le_trans K0.1 (Nat.le_of_eq g1.symm)
  rw [← g1] at A1 st1
  have K1 := K0.ext E1
  have R1 : Arv Z h1 b1 k1 .byte (1 : Int32) [(.int 0)] (.int 0) := (Arv.new A1 (by decide)).pad (pad_rep [] (.int 0) 1)
  refine own_st st1 ?_
  show gs T1 m 3 #[vr a2, vi 0, vi 1, .unset, .unset, .unset] [(.ref b1)]
  refine own_st (fun _ kS => XS.astoreN X1.here hx rfl (hb hby d7_3) rfl rfl (l' := #[vr a2, vi 0, vi 1, vr b1, .unset, .unset]) rfl kS) ?_
  refine oaloadN X1 hx hby d7_4 rfl rfl ?_
  refine oiloadN X1 hx hby d7_5 rfl ?_
  refine oaloadN X1 hx hby d7_6 rfl rfl ?_
  refine oiconst X1 hx hby d7_7 ?_
  refine oiloadN X1 hx hby d7_8 rfl ?_
  refine oS 0 X1 hx hZ hby hml hown (own_w hw 69 rfl) (own_w hw 70 rfl) (own_w hw 66 rfl) (own_w hw 71 rfl) (rm_cmpI1 l Z a0 hw [] a2 kC b1 k1 c0 h1 n0 (Nat.le_trans Z0 E1.1)  (Arv.ext R_C E1) R1 ge_b1 ne_a2_b1 hC0) e1 (by decide) own_pd1 d7_9 rfl rfl rfl (fun T2 L2 v2 X2 hQ2 => ?_)
  obtain ⟨rfl, Nq2, Kc2, P2_0⟩ := hQ2
  have N2 := Fr.app N0 Nq2
  have K2 := K1.trans Kc2 (allS (Or.inr sz_b1) all0)
  show gs T2 m 12 #[vr a2, vi 0, vi 1, vr b1, .unset, .unset] [(.int 1)]
  refine own_st (fun _ kS => XS.istore X2.here hx rfl (hb hby d7_12) rfl (l' := #[vr a2, vi 0, vi 1, vr b1, vi 1, .unset]) rfl kS) ?_
  refine oiload X2 hx hby d7_14 rfl ?_
  refine oiloadN X2 hx hby d7_16 rfl ?_
  refine own_st (fun _ kS => XS.icmpYes X2.here hx rfl (pc0 := 17) (pc' := 57) rfl (hb hby d7_17) rfl (teq (by decide : (1 : Int32) = (1 : Int32))).1 (by decide) (by decide) kS) ?_
  show gs T2 m 57 #[vr a2, vi 0, vi 1, vr b1, vi 1, .unset] []
  refine oaloadN X2 hx hby d7_57 rfl rfl ?_
  exact own_retA X2 hx hlk hret rfl rfl (hb hby d7_58) (by decide) (by decide) (show Q_cmpA1 Z a2 kC c0 h0 n0 _ _ _ from ⟨b1, k1, ⟨rfl, N2, K2, sz_b1, P2_0⟩⟩)
theorem d9_0 : dk B4 0 (.iload_n 1) 1 := by decide +kernel
theorem d9_1 : dk B4 1 (.aload_n 0) 1 := by decide +kernel
theorem d9_2 : dk B4 2 (.arraylength) 1 := by decide +kernel
theorem d9_3 : dk B4 3 (.isub) 1 := by decide +kernel
theorem d9_4 : dk B4 4 (.bipush 31) 2 := by decide +kernel
theorem d9_6 : dk B4 6 (.iushr) 1 := by decide +kernel
theorem d9_7 : dk B4 7 (.i2b) 1 := by decide +kernel
theorem d9_8 : dk B4 8 (.ireturn) 1 := by decide +kernel
theorem pn_9 : plainName "java/lang/StringUTF16" = true := by first | (simp [plainName, overriddenIn]; done) | decide +kernel
theorem ef_cfal1 (m : MethodId) (x0 : Addr) : entryFrame m #[(.ref x0), (.int 1)] 2 = mkF m 0 #[.val (.ref x0), .val (.int 1)] [] := by first | (simp [entryFrame, mkF, argsToLocals, Value.category]; done) | rfl
def Q_cfal1 (Z : State) (tA : Addr) (kA : ClassId) (y0 : Int32) (h0 : Heap) (n0 : Nat) (v : Option Value) (h : Heap) (L : List Loc) : Prop := v = some (.int 0) ∧ Fr n0 L ∧ h = h0
theorem rm_cfal1 (l : Launch) (Z : State) (a0 : Array Value) (hw : HW a0 Z) (ws : List Jvm.Cond) (tA : Addr) (kA : ClassId) (y0 : Int32) (h0 : Heap) (n0 : Nat) (Z0 : n0 ≤ h0.size) (R_A : Arv Z h0 tA kA .byte (1 : Int32) [(.int y0)] (.int 0)) :
    M2 l ws (rmk 0 0 0 0) Z #[(.ref tA), (.int 1)] h0 (Q_cfal1 Z tA kA y0 h0 n0) := by
  refine own_go "java/lang/StringUTF16" rfl (plainFor_of_name pn_9) (fun m => ef_cfal1 m tA) (fun p e s m below meth c s₁ hx hby hml hown hnm hlk hret hZ X0 e0 => ?_)
  have N0 := Fr.nil n0
  show gs s₁ m 0 #[vr tA, vi 1] []
  refine oiloadN X0 hx hby d9_0 rfl ?_
  refine oaloadN X0 hx hby d9_1 rfl rfl ?_
  show gs s₁ m 2 #[vr tA, vi 1] [(.ref tA), (.int 1)]
  obtain ⟨cl1, Ar1, qa1, qs1, qn1, qh1, qg1⟩ := id R_A
  refine own_st (fun _ kS => X0.arraylength hx (by rw [e0]; exact Ar1.1) (State.isArrayOf_alike hZ.alike Ar1.2.1) (g := (mkF m 2 #[vr tA, vi 1] [(.ref tA), (.int 1)])) rfl rfl (hb hby d9_2) _ kS) ?_
  rw [len_of qs1 qn1]
  show gs s₁ m 3 #[vr tA, vi 1] [(.int 1), (.int 1)]
  refine own_st (fun _ kS => XS.isub X0.here hx rfl (hb hby d9_3) rfl kS) ?_
  refine own_st (fun _ kS => XS.bipush X0.here hx rfl (hb hby d9_4) kS) ?_
  refine own_st (fun _ kS => XT.iushr X0.here hx rfl (hb hby d9_6) rfl kS) ?_
  refine own_st (fun _ kS => XT.i2b X0.here hx rfl (hb hby d9_7) rfl kS) ?_
  show gs s₁ m 8 #[vr tA, vi 1] [(.int 0)]
  exact own_retN X0 hx hlk (t := .byte) hret (by simp) (hb hby d9_8) (by decide) (by decide) (v' := (0 : Int32)) rfl (by rw [e0]; exact ⟨rfl, N0, rfl⟩)
theorem own_pd2 : parseMethodDescriptor "([CII)[B" = some ⟨[(.array .char), .int, .int], some (.array .byte)⟩ := by decide +kernel
theorem own_pd3 : parseMethodDescriptor "([BI)B" = some ⟨[(.array .byte), .int], some .byte⟩ := by decide +kernel
theorem ef_init4_1 (m : MethodId) (x0 : Addr) (x1 : Addr) : entryFrame m #[(.ref x0), (.ref x1), (.int 0), (.int 1), .null] 6 = mkF m 0 #[.val (.ref x0), .val (.ref x1), .val (.int 0), .val (.int 1), .val .null, .unset] [] := by first | (simp [entryFrame, mkF, argsToLocals, Value.category]; done) | rfl
def Q_init4_1 (Z : State) (aS : Addr) (a2 : Addr) (kC : ClassId) (c0 : Int32) (zCS : Int32) (h0 : Heap) (n0 : Nat) (v : Option Value) (h : Heap) (L : List Loc) : Prop := ∃ tN : Addr, ∃ kN : ClassId, v = none ∧ Fr n0 L ∧ Keep h0 h [aS] ∧ ek21 Z h aS ∧ fk16 Z h aS (.int 0) ∧ fk17 Z h aS (.ref tN) ∧ Arv Z h tN kN .byte (1 : Int32) [(.int (nar .byte (c0.toInt8.toInt32)))] (.int 0)
theorem rm_init4_1 (l : Launch) (Z : State) (a0 : Array Value) (hw : HW a0 Z) (ws : List Jvm.Cond) (aS : Addr) (a2 : Addr) (kC : ClassId) (c0 : Int32) (zCS : Int32) (h0 : Heap) (n0 : Nat) (Z0 : n0 ≤ h0.size) (O0 : Old Z n0 h0) (E_0 : ek21 Z h0 aS) (g_0 : n0 ≤ aS) (F0v : fk17 Z h0 aS .null) (F0c : fk16 Z h0 aS (.int 0)) (ne02 : aS ≠ a2) (R_C : Arv Z h0 a2 kC .char (1 : Int32) [(.int c0)] (.int 0)) (hC0 : ¬ ((255 : Int32) < c0)) (S_CS : sk0 Z Z.heap (.int zCS)) (P_CS : ¬ zCS = 0) :
    M3 l ws (rmk 2 1 1 35) Z #[(.ref aS), (.ref a2), (.int 0), (.int 1), .null] h0 (Q_init4_1 Z aS a2 kC c0 zCS h0 n0) := by
  refine own_go "java/lang/String" rfl (plainFor_of_name pn_5) (fun m => ef_init4_1 m aS a2) (fun p e s m below meth c s₁ hx hby hml hown hnm hlk hret hZ X0 e0 => ?_)
  have N0 := Fr.nil n0
  have K0 := Keep.refl h0 [aS]
  show gs s₁ m 0 #[vr aS, vr a2, vi 0, vi 1, .val .null, .unset] []
  refine oaloadN X0 hx hby d5_0 rfl rfl ?_
  obtain ⟨T1, X1, e1, st1⟩ := initO X0 hx hZ hown (own_w hw 60 rfl) (own_w hw 61 rfl) (own_w hw 62 rfl) e0 (g := (mkF m 1 #[vr aS, vr a2, vi 0, vi 1, .val .null, .unset] [(.ref aS)])) rfl (by rw [hml]; rfl) rfl (hb hby d5_1) (by decide) (W := 0) (by show 2 * 0 + _ ≤ _; exact Nat.le_of_eq rfl) (by decide)
  refine own_st st1 ?_
  show gs T1 m 4 #[vr aS, vr a2, vi 0, vi 1, .val .null, .unset] []
  refine oiloadN X1 hx hby d5_4 rfl ?_
  refine own_st (fun _ kS => XS.ifYes X1.here hx rfl (pc0 := 5) (pc' := 27) rfl (hb hby d5_5) rfl ((if0 _ _).trans (feq (by decide : ¬ ((1 : Int32) = (0 : Int32)))).2) (by decide) (by decide) kS) ?_
  show gs T1 m 27 #[vr aS, vr a2, vi 0, vi 1, .val .null, .unset] []
  obtain ⟨T2, X2, e2, st2⟩ := getS2 X1 hx hZ hown (host := "") (Or.inl (own_w hw 63 rfl)) Via.refl e1 (Sta.ext O0.2 S_CS) (g := (mkF m 27 #[vr aS, vr a2, vi 0, vi 1, .val .null, .unset] [])) rfl (hb hby d5_27)
  refine own_st st2 ?_
  show gs T2 m 30 #[vr aS, vr a2, vi 0, vi 1, .val .null, .unset] [(.int zCS)]
  refine own_st (fun _ kS => XS.ifNo X2.here hx rfl (hb hby d5_30) rfl ((if0 _ _).trans (feq (P_CS : ¬ (zCS = (0 : Int32)))).1) kS) ?_
  show gs T2 m 33 #[vr aS, vr a2, vi 0, vi 1, .val .null, .unset] []
  refine oaloadN X2 hx hby d5_33 rfl rfl ?_
  refine oiloadN X2 hx hby d5_34 rfl ?_
  refine oiloadN X2 hx hby d5_35 rfl ?_
  refine oS 0 X2 hx hZ hby hml hown (own_w hw 64 rfl) (own_w hw 65 rfl) (own_w hw 66 rfl) (own_w hw 67 rfl) (rm_cmpA1 l Z a0 hw [] a2 kC c0 h0 n0 Z0  R_C hC0) e2 (by decide) own_pd2 d5_36 rfl rfl rfl (fun T3 L3 v3 X3 hQ3 => ?_)
  obtain ⟨tN_3, kN_3, rfl, Nq3, Kc3, P3_0, P3_1⟩ := hQ3
  have N3 := Fr.app N0 Nq3
  have ne_aS_tN_3 : aS ≠ tN_3 := Nat.ne_of_lt (Nat.lt_of_lt_of_le E_0.lt P3_0)
  have ne_a2_tN_3 : a2 ≠ tN_3 := Nat.ne_of_lt (Nat.lt_of_lt_of_le R_C.lt P3_0)
  have ge_tN_3 : n0 ≤ tN_3 := Nat.le_trans Z0 P3_0
  have sz_tN_3 : h0.size ≤ tN_3 := Nat.le_trans K0.1 P3_0
  have K3 := K0.trans Kc3 all0
  have O3 := O0.keep Kc3 all0
  show gs T3 m 39 #[vr aS, vr a2, vi 0, vi 1, .val .null, .unset] [(.ref tN_3)]
  refine own_st (fun _ kS => XS.astore X3.here hx rfl (hb hby d5_39) rfl rfl (l' := #[vr aS, vr a2, vi 0, vi 1, .val .null, vr tN_3]) rfl kS) ?_
  refine oaloadN X3 hx hby d5_41 rfl rfl ?_
  refine oaload X3 hx hby d5_42 rfl rfl ?_
  refine oiloadN X3 hx hby d5_44 rfl ?_
  refine oS 1 X3 hx hZ hby hml hown (own_w hw 72 rfl) (own_w hw 73 rfl) (own_w hw 66 rfl) (own_w hw 74 rfl) (rm_cfal1 l Z a0 hw [] tN_3 kN_3 (nar .byte (c0.toInt8.toInt32)) T3.heap n0 (Nat.le_trans Z0 Kc3.1)  P3_1) rfl (by decide) own_pd3 d5_45 rfl rfl rfl (fun T4 L4 v4 X4 hQ4 => ?_)
  obtain ⟨rfl, Nq4, eq4⟩ := hQ4
  have N4 := Fr.app N3 Nq4
  show gs T4 m 48 #[vr aS, vr a2, vi 0, vi 1, .val .null, vr tN_3] [(.int 0), (.ref aS)]
  obtain ⟨T5, h5, X5, e5, W5, st5⟩ := putFN X4 hx hZ hown (own_w hw 75 rfl) Via.refl eq4 (F0c.keep Kc3 nin0) (E_0.keep Kc3) (Or.inr ⟨(own_w hw 76 rfl), rfl, hnm⟩) (own_w hw 46 rfl) (ty := .byte) (v' := (.int 0)) (by decide) rfl (by decide) (g := (mkF m 48 #[vr aS, vr a2, vi 0, vi 1, .val .null, vr tN_3] [(.int 0), (.ref aS)])) rfl rfl (hb hby d5_48)
  refine own_st st5 ?_
  have N5 := Fr.snoc X5 N4 g_0
  have K5 := K3.wr W5 (Or.inl (List.mem_of_getElem? (i := 0) rfl))
  have O5 := O3.wr W5 g_0
  have Fw5 := Fld.same W5 (F0c.keep Kc3 nin0)
  show gs T5 m 51 #[vr aS, vr a2, vi 0, vi 1, .val .null, vr tN_3] []
  refine oaloadN X5 hx hby d5_51 rfl rfl ?_
  refine oaload X5 hx hby d5_52 rfl rfl ?_
  show gs T5 m 54 #[vr aS, vr a2, vi 0, vi 1, .val .null, vr tN_3] [(.ref tN_3), (.ref aS)]
  obtain ⟨T6, h6, X6, e6, W6, st6⟩ := putF X5 hx hZ hown (host := "") (Or.inl (own_w hw 77 rfl)) Via.refl e5 (Fld.other W5 (F0v.keep Kc3 nin0) (Or.inr (slot_ne (Or.inr (own_w hw 78 rfl)) (Or.inr (own_w hw 76 rfl)) (by decide) (t := (.array .byte)) (t' := .byte) (by decide) (by decide)))) (Exa.wr W5 (E_0.keep Kc3)) (Or.inr ⟨(own_w hw 78 rfl), rfl, hnm⟩) (own_w hw 46 rfl) (ty := (.array .byte)) (by decide) rfl rfl (g := (mkF m 54 #[vr aS, vr a2, vi 0, vi 1, .val .null, vr tN_3] [(.ref tN_3), (.ref aS)])) rfl rfl (hb hby d5_54)
  refine own_st st6 ?_
  have N6 := Fr.snoc X6 N5 g_0
  have K6 := K5.wr W6 (Or.inl (List.mem_of_getElem? (i := 0) rfl))
  have O6 := O5.wr W6 g_0
  have Fw6 := Fld.same W6 (Fld.other W5 (F0v.keep Kc3 nin0) (Or.inr (slot_ne (Or.inr (own_w hw 78 rfl)) (Or.inr (own_w hw 76 rfl)) (by decide) (t := (.array .byte)) (t' := .byte) (by decide) (by decide))))
  show gs T6 m 57 #[vr aS, vr a2, vi 0, vi 1, .val .null, vr tN_3] []
  exact own_retV X6 hx hlk hret (hb hby d5_57) (by decide) (by decide) (by rw [e6]; exact ⟨tN_3, kN_3, ⟨rfl, N6, K6, (Exa.wr W6 (Exa.wr W5 (E_0.keep Kc3))), (Fld.other W6 Fw5 (Or.inr (slot_ne (Or.inr (own_w hw 76 rfl)) (Or.inr (own_w hw 78 rfl)) (by decide) (t := .byte) (t' := (.array .byte)) (by decide) (by decide)))), Fw6, ((P3_1.other W5 (Ne.symm ne_aS_tN_3)).other W6 (Ne.symm ne_aS_tN_3))⟩⟩)
theorem ef_init1_1 (m : MethodId) (x0 : Addr) (x1 : Addr) : entryFrame m #[(.ref x0), (.ref x1)] 2 = mkF m 0 #[.val (.ref x0), .val (.ref x1)] [] := by first | (simp [entryFrame, mkF, argsToLocals, Value.category]; done) | rfl
def Q_init1_1 (Z : State) (aS : Addr) (a2 : Addr) (kC : ClassId) (c0 : Int32) (zCS : Int32) (h0 : Heap) (n0 : Nat) (v : Option Value) (h : Heap) (L : List Loc) : Prop := ∃ tN : Addr, ∃ kN : ClassId, v = none ∧ Fr n0 L ∧ Keep h0 h [aS] ∧ ek21 Z h aS ∧ fk16 Z h aS (.int 0) ∧ fk17 Z h aS (.ref tN) ∧ Arv Z h tN kN .byte (1 : Int32) [(.int (nar .byte (c0.toInt8.toInt32)))] (.int 0)
theorem rm_init1_1 (l : Launch) (Z : State) (a0 : Array Value) (hw : HW a0 Z) (ws : List Jvm.Cond) (aS : Addr) (a2 : Addr) (kC : ClassId) (c0 : Int32) (zCS : Int32) (h0 : Heap) (n0 : Nat) (Z0 : n0 ≤ h0.size) (O0 : Old Z n0 h0) (E_0 : ek21 Z h0 aS) (g_0 : n0 ≤ aS) (F0v : fk17 Z h0 aS .null) (F0c : fk16 Z h0 aS (.int 0)) (ne02 : aS ≠ a2) (R_C : Arv Z h0 a2 kC .char (1 : Int32) [(.int c0)] (.int 0)) (hC0 : ¬ ((255 : Int32) < c0)) (S_CS : sk0 Z Z.heap (.int zCS)) (P_CS : ¬ zCS = 0) :
    M4 l ws (rmk 3 1 1 52) Z #[(.ref aS), (.ref a2)] h0 (Q_init1_1 Z aS a2 kC c0 zCS h0 n0) := by
  refine own_go "java/lang/String" rfl (plainFor_of_name pn_4) (fun m => ef_init1_1 m aS a2) (fun p e s m below meth c s₁ hx hby hml hown hnm hlk hret hZ X0 e0 => ?_)
  have N0 := Fr.nil n0
  have K0 := Keep.refl h0 [aS]
  show gs s₁ m 0 #[vr aS, vr a2] []
  refine oaloadN X0 hx hby d4_0 rfl rfl ?_
  refine oaloadN X0 hx hby d4_1 rfl rfl ?_
  refine oiconst X0 hx hby d4_2 ?_
  refine oaloadN X0 hx hby d4_3 rfl rfl ?_
  show gs s₁ m 4 #[vr aS, vr a2] [(.ref a2), (.int 0), (.ref a2), (.ref aS)]
  obtain ⟨cl1, Ar1, qa1, qs1, qn1, qh1, qg1⟩ := id R_C
  refine own_st (fun _ kS => X0.arraylength hx (by rw [e0]; exact Ar1.1) (State.isArrayOf_alike hZ.alike Ar1.2.1) (g := (mkF m 4 #[vr aS, vr a2] [(.ref a2), (.int 0), (.ref a2), (.ref aS)])) rfl rfl (hb hby d4_4) _ kS) ?_
  rw [len_of qs1 qn1]
  show gs s₁ m 5 #[vr aS, vr a2] [(.int 1), (.int 0), (.ref a2), (.ref aS)]
  refine own_st (fun _ kS => XS.aconstNull X0.here hx rfl (hb hby d4_5) kS) ?_
  show gs s₁ m 6 #[vr aS, vr a2] [.null, (.int 1), (.int 0), (.ref a2), (.ref aS)]
  refine oN 0 X0 hx hZ hby hml hown (own_w hw 56 rfl) (own_w hw 57 rfl) (own_w hw 47 rfl) (own_w hw 59 rfl) (rm_init4_1 l Z a0 hw [] aS a2 kC c0 zCS h0 n0 Z0 O0 E_0 g_0 F0v F0c ne02 R_C hC0 S_CS P_CS) e0 rfl (by decide) own_pd0 d4_6 rfl rfl rfl (fun T2 L2 v2 X2 hQ2 => ?_)
  obtain ⟨tN_2, kN_2, rfl, Nq2, Kc2, P2_0, P2_1, P2_2, P2_3⟩ := hQ2
  have N2 := Fr.app N0 Nq2
  have K2 := K0.trans Kc2 (allS (Or.inl (List.mem_of_getElem? (i := 0) rfl)) all0)
  have O2 := O0.keep Kc2 (allS g_0 all0)
  show gs T2 m 9 #[vr aS, vr a2] []
  exact own_retV X2 hx hlk hret (hb hby d4_9) (by decide) (by decide) (show Q_init1_1 Z aS a2 kC c0 zCS h0 n0 _ _ _ from ⟨tN_2, kN_2, ⟨rfl, N2, K2, P2_0, P2_1, P2_2, P2_3⟩⟩)
theorem ef_cmpI2 (m : MethodId) (x0 : Addr) (x1 : Addr) : entryFrame m #[(.ref x0), (.int 0), (.ref x1), (.int 0), (.int 2)] 7 = mkF m 0 #[.val (.ref x0), .val (.int 0), .val (.ref x1), .val (.int 0), .val (.int 2), .unset, .unset] [] := by first | (simp [entryFrame, mkF, argsToLocals, Value.category]; done) | rfl
def Q_cmpI2 (Z : State) (a2 : Addr) (kC : ClassId) (tA : Addr) (kA : ClassId) (c0 : Int32) (c1 : Int32) (h0 : Heap) (n0 : Nat) (v : Option Value) (h : Heap) (L : List Loc) : Prop := v = some (.int 2) ∧ Fr n0 L ∧ Keep h0 h [tA] ∧ Arv Z h tA kA .byte (2 : Int32) [(.int (nar .byte (c0.toInt8.toInt32))), (.int (nar .byte (c1.toInt8.toInt32)))] (.int 0)
theorem rm_cmpI2 (l : Launch) (Z : State) (a0 : Array Value) (hw : HW a0 Z) (ws : List Jvm.Cond) (a2 : Addr) (kC : ClassId) (tA : Addr) (kA : ClassId) (c0 : Int32) (c1 : Int32) (h0 : Heap) (n0 : Nat) (Z0 : n0 ≤ h0.size) (R_C : Arv Z h0 a2 kC .char (2 : Int32) [(.int c0), (.int c1)] (.int 0)) (R_A : Arv Z h0 tA kA .byte (2 : Int32) [(.int 0), (.int 0)] (.int 0)) (g_A : n0 ≤ tA) (ne2A : a2 ≠ tA) (hC0 : ¬ ((255 : Int32) < c0)) (hC1 : ¬ ((255 : Int32) < c1)) :
    M0 l ws (rmk 0 0 0 0) Z #[(.ref a2), (.int 0), (.ref tA), (.int 0), (.int 2)] h0 (Q_cmpI2 Z a2 kC tA kA c0 c1 h0 n0) := by
  refine own_go "java/lang/StringUTF16" rfl (plainFor_of_name pn_8) (fun m => ef_cmpI2 m a2 tA) (fun p e s m below meth c s₁ hx hby hml hown hnm hlk hret hZ X0 e0 => ?_)
  have N0 := Fr.nil n0
  have K0 := Keep.refl h0 [tA]
  show gs s₁ m 0 #[vr a2, vi 0, vr tA, vi 0, vi 2, .unset, .unset] []
  refine oiconst X0 hx hby d8_0 ?_
  refine own_st (fun _ kS => XS.istore X0.here hx rfl (hb hby d8_1) rfl (l' := #[vr a2, vi 0, vr tA, vi 0, vi 2, vi 0, .unset]) rfl kS) ?_
  refine oiload X0 hx hby d8_3 rfl ?_
  refine oiload X0 hx hby d8_5 rfl ?_
  refine own_st (fun _ kS => XS.icmpNo X0.here hx rfl (hb hby d8_7) rfl (tlt (by decide : (0 : Int32) < (2 : Int32))).2.1 kS) ?_
  show gs s₁ m 10 #[vr a2, vi 0, vr tA, vi 0, vi 2, vi 0, .unset] []
  refine oaloadN X0 hx hby d8_10 rfl rfl ?_
  refine oiloadN X0 hx hby d8_11 rfl ?_
  show gs s₁ m 12 #[vr a2, vi 0, vr tA, vi 0, vi 2, vi 0, .unset] [(.int 0), (.ref a2)]
  obtain ⟨cl1, Ar1, qa1, qs1, qn1, qh1, qg1⟩ := id R_C
  refine own_st (fun _ kS => X0.caload hx (j := (0 : Int32)) (v := (.int c0)) (by rw [e0]; exact Ar1.1) (State.isArrayOf_alike hZ.alike Ar1.2.1) Ar1.2.2 (inb_of qs1 ⟨by decide, by decide⟩) (qh1.at (inb_of qs1 ⟨by decide, by decide⟩) rfl) (g := (mkF m 12 #[vr a2, vi 0, vr tA, vi 0, vi 2, vi 0, .unset] [(.int 0), (.ref a2)])) rfl rfl (hb hby d8_12) _ kS) ?_
  show gs s₁ m 13 #[vr a2, vi 0, vr tA, vi 0, vi 2, vi 0, .unset] [(.int c0)]
  refine own_st (fun _ kS => XS.istore X0.here hx rfl (hb hby d8_13) rfl (l' := #[vr a2, vi 0, vr tA, vi 0, vi 2, vi 0, vi c0]) rfl kS) ?_
  refine oiload X0 hx hby d8_15 rfl ?_
  refine own_st (fun _ kS => XS.sipush X0.here hx rfl (hb hby d8_17) kS) ?_
  show gs s₁ m 20 #[vr a2, vi 0, vr tA, vi 0, vi 2, vi 0, vi c0] [(.int 255), (.int c0)]
  refine own_st (fun _ kS => XS.icmpYes X0.here hx rfl (pc0 := 20) (pc' := 26) rfl (hb hby d8_20) rfl (flt (hC0 : ¬ ((255 : Int32) < c0))).2.2.2 (by decide) (by decide) kS) ?_
  show gs s₁ m 26 #[vr a2, vi 0, vr tA, vi 0, vi 2, vi 0, vi c0] []
  refine oaloadN X0 hx hby d8_26 rfl rfl ?_
  refine oiloadN X0 hx hby d8_27 rfl ?_
  refine oiload X0 hx hby d8_28 rfl ?_
  refine own_st (fun _ kS => XT.i2b X0.here hx rfl (hb hby d8_30) rfl kS) ?_
  show gs s₁ m 31 #[vr a2, vi 0, vr tA, vi 0, vi 2, vi 0, vi c0] [(.int (c0.toInt8.toInt32)), (.int 0), (.ref tA)]
  obtain ⟨cl2, Ar2, qa2, qs2, qn2, qh2, qg2⟩ := id R_A
  obtain ⟨T2, h2, X2, e2, W2, st2⟩ := stB X0 hx hZ e0 Ar2 (j := (0 : Int32)) (inb_of qs2 ⟨by decide, by decide⟩) (g := (mkF m 31 #[vr a2, vi 0, vr tA, vi 0, vi 2, vi 0, vi c0] [(.int (c0.toInt8.toInt32)), (.int 0), (.ref tA)])) rfl rfl (hb hby d8_31)
  have N2 := Fr.snoc X2 N0 g_A
  have K2 := K0.wr W2 (Or.inl (List.mem_of_getElem? (i := 0) rfl))
  have R2 : Arv Z h2 tA kA .byte (2 : Int32) [(.int (nar .byte (c0.toInt8.toInt32))), (.int 0)] (.int 0) := Arv.set Ar2 qa2 qs2 qn2 qh2 qg2 (fits_nar_byte _) W2 0 rfl (Nat.le_of_ble_eq_true rfl)
  refine own_st st2 ?_
  show gs T2 m 32 #[vr a2, vi 0, vr tA, vi 0, vi 2, vi 0, vi c0] []
  refine own_st (fun _ kS => XS.iinc X2.here hx rfl (hb hby d8_32) rfl (l' := #[vr a2, vi 1, vr tA, vi 0, vi 2, vi 0, vi c0]) rfl kS) ?_
  refine own_st (fun _ kS => XS.iinc X2.here hx rfl (hb hby d8_35) rfl (l' := #[vr a2, vi 1, vr tA, vi 1, vi 2, vi 0, vi c0]) rfl kS) ?_
  refine own_st (fun _ kS => XS.iinc X2.here hx rfl (hb hby d8_38) rfl (l' := #[vr a2, vi 1, vr tA, vi 1, vi 2, vi 1, vi c0]) rfl kS) ?_
  refine own_st (fun _ kS => XS.goto X2.here hx rfl (pc0 := 41) (pc' := 3) rfl (hb hby d8_41) (by decide) (by decide) kS) ?_
  refine oiload X2 hx hby d8_3 rfl ?_
  refine oiload X2 hx hby d8_5 rfl ?_
  refine own_st (fun _ kS => XS.icmpNo X2.here hx rfl (hb hby d8_7) rfl (tlt (by decide : (1 : Int32) < (2 : Int32))).2.1 kS) ?_
  show gs T2 m 10 #[vr a2, vi 1, vr tA, vi 1, vi 2, vi 1, vi c0] []
  refine oaloadN X2 hx hby d8_10 rfl rfl ?_
  refine oiloadN X2 hx hby d8_11 rfl ?_
  show gs T2 m 12 #[vr a2, vi 1, vr tA, vi 1, vi 2, vi 1, vi c0] [(.int 1), (.ref a2)]
  obtain ⟨cl3, Ar3, qa3, qs3, qn3, qh3, qg3⟩ := id (R_C.other W2 ne2A)
  refine own_st (fun _ kS => X2.caload hx (j := (1 : Int32)) (v := (.int c1)) (by rw [e2]; exact Ar3.1) (State.isArrayOf_alike hZ.alike Ar3.2.1) Ar3.2.2 (inb_of qs3 ⟨by decide, by decide⟩) (qh3.at (inb_of qs3 ⟨by decide, by decide⟩) rfl) (g := (mkF m 12 #[vr a2, vi 1, vr tA, vi 1, vi 2, vi 1, vi c0] [(.int 1), (.ref a2)])) rfl rfl (hb hby d8_12) _ kS) ?_
  show gs T2 m 13 #[vr a2, vi 1, vr tA, vi 1, vi 2, vi 1, vi c0] [(.int c1)]
  refine own_st (fun _ kS => XS.istore X2.here hx rfl (hb hby d8_13) rfl (l' := #[vr a2, vi 1, vr tA, vi 1, vi 2, vi 1, vi c1]) rfl kS) ?_
  refine oiload X2 hx hby d8_15 rfl ?_
  refine own_st (fun _ kS => XS.sipush X2.here hx rfl (hb hby d8_17) kS) ?_
  show gs T2 m 20 #[vr a2, vi 1, vr tA, vi 1, vi 2, vi 1, vi c1] [(.int 255), (.int c1)]
  refine own_st (fun _ kS => XS.icmpYes X2.here hx rfl (pc0 := 20) (pc' := 26) rfl (hb hby d8_20) rfl (flt (hC1 : ¬ ((255 : Int32) < c1))).2.2.2 (by decide) (by decide) kS) ?_
  show gs T2 m 26 #[vr a2, vi 1, vr tA, vi 1, vi 2, vi 1, vi c1] []
  refine oaloadN X2 hx hby d8_26 rfl rfl ?_
  refine oiloadN X2 hx hby d8_27 rfl ?_
  refine oiload X2 hx hby d8_28 rfl ?_
  refine own_st (fun _ kS => XT.i2b X2.here hx rfl (hb hby d8_30) rfl kS) ?_
  show gs T2 m 31 #[vr a2, vi 1, vr tA, vi 1, vi 2, vi 1, vi c1] [(.int (c1.toInt8.toInt32)), (.int 1), (.ref tA)]
  obtain ⟨cl4, Ar4, qa4, qs4, qn4, qh4, qg4⟩ := id R2
  obtain ⟨T4, h4, X4, e4, W4, st4⟩ := stB X2 hx hZ e2 Ar4 (j := (1 : Int32)) (inb_of qs4 ⟨by decide, by decide⟩) (g := (mkF m 31 #[vr a2, vi 1, vr tA, vi 1, vi 2, vi 1, vi c1] [(.int (c1.toInt8.toInt32)), (.int 1), (.ref tA)])) rfl rfl (hb hby d8_31)
  have N4 := Fr.snoc X4 N2 g_A
  have K4 := K2.wr W4 (Or.inl (List.mem_of_getElem? (i := 0) rfl))
  have R4 : Arv Z h4 tA kA .byte (2 : Int32) [(.int (nar .byte (c0.toInt8.toInt32))), (.int (nar .byte (c1.toInt8.toInt32)))] (.int 0) := Arv.set Ar4 qa4 qs4 qn4 qh4 qg4 (fits_nar_byte _) W4 1 rfl (Nat.le_of_ble_eq_true rfl)
  refine own_st st4 ?_
  show gs T4 m 32 #[vr a2, vi 1, vr tA, vi 1, vi 2, vi 1, vi c1] []
  refine own_st (fun _ kS => XS.iinc X4.here hx rfl (hb hby d8_32) rfl (l' := #[vr a2, vi 2, vr tA, vi 1, vi 2, vi 1, vi c1]) rfl kS) ?_
  refine own_st (fun _ kS => XS.iinc X4.here hx rfl (hb hby d8_35) rfl (l' := #[vr a2, vi 2, vr tA, vi 2, vi 2, vi 1, vi c1]) rfl kS) ?_
  refine own_st (fun _ kS => XS.iinc X4.here hx rfl (hb hby d8_38) rfl (l' := #[vr a2, vi 2, vr tA, vi 2, vi 2, vi 2, vi c1]) rfl kS) ?_
  refine own_st (fun _ kS => XS.goto X4.here hx rfl (pc0 := 41) (pc' := 3) rfl (hb hby d8_41) (by decide) (by decide) kS) ?_
  refine oiload X4 hx hby d8_3 rfl ?_
  refine oiload X4 hx hby d8_5 rfl ?_
  refine own_st (fun _ kS => XS.icmpYes X4.here hx rfl (pc0 := 7) (pc' := 44) rfl (hb hby d8_7) rfl (flt (by decide : ¬ ((2 : Int32) < (2 : Int32)))).2.1 (by decide) (by decide) kS) ?_
  show gs T4 m 44 #[vr a2, vi 2, vr tA, vi 2, vi 2, vi 2, vi c1] []
  refine oiload X4 hx hby d8_44 rfl ?_
  exact own_retI X4 hx hlk hret (hb hby d8_46) (by decide) (by decide) (by rw [e4]; exact ⟨rfl, N4, K4, R4⟩)
theorem ef_cmpA2 (m : MethodId) (x0 : Addr) : entryFrame m #[(.ref x0), (.int 0), (.int 2)] 6 = mkF m 0 #[.val (.ref x0), .val (.int 0), .val (.int 2), .unset, .unset, .unset] [] := by first | (simp [entryFrame, mkF, argsToLocals, Value.category]; done) | rfl
def Q_cmpA2 (Z : State) (a2 : Addr) (kC : ClassId) (c0 : Int32) (c1 : Int32) (h0 : Heap) (n0 : Nat) (v : Option Value) (h : Heap) (L : List Loc) : Prop := ∃ tN : Addr, ∃ kN : ClassId, v = some (.ref tN) ∧ Fr n0 L ∧ Keep h0 h [] ∧ h0.size ≤ tN ∧ Arv Z h tN kN .byte (2 : Int32) [(.int (nar .byte (c0.toInt8.toInt32))), (.int (nar .byte (c1.toInt8.toInt32)))] (.int 0)
theorem rm_cmpA2 (l : Launch) (Z : State) (a0 : Array Value) (hw : HW a0 Z) (ws : List Jvm.Cond) (a2 : Addr) (kC : ClassId) (c0 : Int32) (c1 : Int32) (h0 : Heap) (n0 : Nat) (Z0 : n0 ≤ h0.size) (R_C : Arv Z h0 a2 kC .char (2 : Int32) [(.int c0), (.int c1)] (.int 0)) (hC0 : ¬ ((255 : Int32) < c0)) (hC1 : ¬ ((255 : Int32) < c1)) :
    M1 l ws (rmk 1 1 2 18) Z #[(.ref a2), (.int 0), (.int 2)] h0 (Q_cmpA2 Z a2 kC c0 c1 h0 n0) := by
  refine own_go "java/lang/StringUTF16" rfl (plainFor_of_name pn_7) (fun m => ef_cmpA2 m a2) (fun p e s m below meth c s₁ hx hby hml hown hnm hlk hret hZ X0 e0 => ?_)
  have N0 := Fr.nil n0
  have K0 := Keep.refl h0 []
  show gs s₁ m 0 #[vr a2, vi 0, vi 2, .unset, .unset, .unset] []
  refine oiloadN X0 hx hby d7_0 rfl ?_
  show gs s₁ m 1 #[vr a2, vi 0, vi 2, .unset, .unset, .unset] [(.int 2)]
  obtain ⟨T1, h1, k1, X1, e1, E1, A1, st1⟩ := newP X0 hx hZ (own_w hw 68 rfl) e0 (g := (mkF m 1 #[vr a2, vi 0, vi 2, .unset, .unset, .unset] [(.int 2)])) rfl (hb hby d7_1) rfl (by decide) (cap := 2) (by decide) (by decide) (by decide) (by decide)
  obtain ⟨b1, g1⟩ : ∃ z, z = h0.size := ⟨_, rfl⟩
  have ne_a2_b1 : a2 ≠ b1 := Nat.ne_of_lt (Nat.lt_of_lt_of_eq R_C.lt g1.symm)
  have ge_b1 : n0 ≤ b1 := Nat.le_trans Z0 (Nat.le_of_eq g1.symm)
  have sz_b1 : h0.size ≤ b1 := Nat.le_trans K0.1 (Nat.le_of_eq g1.symm)
  rw [← g1] at A1 st1
  have K1 := K0.ext E1
  have R1 : Arv Z h1 b1 k1 .byte (2 : Int32) [(.int 0), (.int 0)] (.int 0) := (Arv.new A1 (by decide)).pad (pad_rep [] (.int 0) 2)
  refine own_st st1 ?_
  show gs T1 m 3 #[vr a2, vi 0, vi 2, .unset, .unset, .unset] [(.ref b1)]
  refine own_st (fun _ kS => XS.astoreN X1.here hx rfl (hb hby d7_3) rfl rfl (l' := #[vr a2, vi 0, vi 2, vr b1, .unset, .unset]) rfl kS) ?_
  refine oaloadN X1 hx hby d7_4 rfl rfl ?_
  refine oiloadN X1 hx hby d7_5 rfl ?_
  refine oaloadN X1 hx hby d7_6 rfl rfl ?_
  refine oiconst X1 hx hby d7_7 ?_
  refine oiloadN X1 hx hby d7_8 rfl ?_
  refine oS 0 X1 hx hZ hby hml hown (own_w hw 69 rfl) (own_w hw 70 rfl) (own_w hw 66 rfl) (own_w hw 71 rfl) (rm_cmpI2 l Z a0 hw [] a2 kC b1 k1 c0 c1 h1 n0 (Nat.le_trans Z0 E1.1)  (Arv.ext R_C E1) R1 ge_b1 ne_a2_b1 hC0 hC1) e1 (by decide) own_pd1 d7_9 rfl rfl rfl (fun T2 L2 v2 X2 hQ2 => ?_)
  obtain ⟨rfl, Nq2, Kc2, P2_0⟩ := hQ2
  have N2 := Fr.app N0 Nq2
  have K2 := K1.trans Kc2 (allS (Or.inr sz_b1) all0)
  show gs T2 m 12 #[vr a2, vi 0, vi 2, vr b1, .unset, .unset] [(.int 2)]
  refine own_st (fun _ kS => XS.istore X2.here hx rfl (hb hby d7_12) rfl (l' := #[vr a2, vi 0, vi 2, vr b1, vi 2, .unset]) rfl kS) ?_
  refine oiload X2 hx hby d7_14 rfl ?_
  refine oiloadN X2 hx hby d7_16 rfl ?_
  refine own_st (fun _ kS => XS.icmpYes X2.here hx rfl (pc0 := 17) (pc' := 57) rfl (hb hby d7_17) rfl (teq (by decide : (2 : Int32) = (2 : Int32))).1 (by decide) (by decide) kS) ?_
  show gs T2 m 57 #[vr a2, vi 0, vi 2, vr b1, vi 2, .unset] []
  refine oaloadN X2 hx hby d7_57 rfl rfl ?_
  exact own_retA X2 hx hlk hret rfl rfl (hb hby d7_58) (by decide) (by decide) (show Q_cmpA2 Z a2 kC c0 c1 h0 n0 _ _ _ from ⟨b1, k1, ⟨rfl, N2, K2, sz_b1, P2_0⟩⟩)
theorem ef_cfal2 (m : MethodId) (x0 : Addr) : entryFrame m #[(.ref x0), (.int 2)] 2 = mkF m 0 #[.val (.ref x0), .val (.int 2)] [] := by first | (simp [entryFrame, mkF, argsToLocals, Value.category]; done) | rfl
def Q_cfal2 (Z : State) (tA : Addr) (kA : ClassId) (y0 : Int32) (y1 : Int32) (h0 : Heap) (n0 : Nat) (v : Option Value) (h : Heap) (L : List Loc) : Prop := v = some (.int 0) ∧ Fr n0 L ∧ h = h0
theorem rm_cfal2 (l : Launch) (Z : State) (a0 : Array Value) (hw : HW a0 Z) (ws : List Jvm.Cond) (tA : Addr) (kA : ClassId) (y0 : Int32) (y1 : Int32) (h0 : Heap) (n0 : Nat) (Z0 : n0 ≤ h0.size) (R_A : Arv Z h0 tA kA .byte (2 : Int32) [(.int y0), (.int y1)] (.int 0)) :
    M2 l ws (rmk 0 0 0 0) Z #[(.ref tA), (.int 2)] h0 (Q_cfal2 Z tA kA y0 y1 h0 n0) := by
  refine own_go "java/lang/StringUTF16" rfl (plainFor_of_name pn_9) (fun m => ef_cfal2 m tA) (fun p e s m below meth c s₁ hx hby hml hown hnm hlk hret hZ X0 e0 => ?_)
  have N0 := Fr.nil n0
  show gs s₁ m 0 #[vr tA, vi 2] []
  refine oiloadN X0 hx hby d9_0 rfl ?_
  refine oaloadN X0 hx hby d9_1 rfl rfl ?_
  show gs s₁ m 2 #[vr tA, vi 2] [(.ref tA), (.int 2)]
  obtain ⟨cl1, Ar1, qa1, qs1, qn1, qh1, qg1⟩ := id R_A
  refine own_st (fun _ kS => X0.arraylength hx (by rw [e0]; exact Ar1.1) (State.isArrayOf_alike hZ.alike Ar1.2.1) (g := (mkF m 2 #[vr tA, vi 2] [(.ref tA), (.int 2)])) rfl rfl (hb hby d9_2) _ kS) ?_
  rw [len_of qs1 qn1]
  show gs s₁ m 3 #[vr tA, vi 2] [(.int 2), (.int 2)]
  refine own_st (fun _ kS => XS.isub X0.here hx rfl (hb hby d9_3) rfl kS) ?_
  refine own_st (fun _ kS => XS.bipush X0.here hx rfl (hb hby d9_4) kS) ?_
  refine own_st (fun _ kS => XT.iushr X0.here hx rfl (hb hby d9_6) rfl kS) ?_
  refine own_st (fun _ kS => XT.i2b X0.here hx rfl (hb hby d9_7) rfl kS) ?_
  show gs s₁ m 8 #[vr tA, vi 2] [(.int 0)]
  exact own_retN X0 hx hlk (t := .byte) hret (by simp) (hb hby d9_8) (by decide) (by decide) (v' := (0 : Int32)) rfl (by rw [e0]; exact ⟨rfl, N0, rfl⟩)
theorem ef_init4_2 (m : MethodId) (x0 : Addr) (x1 : Addr) : entryFrame m #[(.ref x0), (.ref x1), (.int 0), (.int 2), .null] 6 = mkF m 0 #[.val (.ref x0), .val (.ref x1), .val (.int 0), .val (.int 2), .val .null, .unset] [] := by first | (simp [entryFrame, mkF, argsToLocals, Value.category]; done) | rfl
def Q_init4_2 (Z : State) (aS : Addr) (a2 : Addr) (kC : ClassId) (c0 : Int32) (c1 : Int32) (zCS : Int32) (h0 : Heap) (n0 : Nat) (v : Option Value) (h : Heap) (L : List Loc) : Prop := ∃ tN : Addr, ∃ kN : ClassId, v = none ∧ Fr n0 L ∧ Keep h0 h [aS] ∧ ek21 Z h aS ∧ fk16 Z h aS (.int 0) ∧ fk17 Z h aS (.ref tN) ∧ Arv Z h tN kN .byte (2 : Int32) [(.int (nar .byte (c0.toInt8.toInt32))), (.int (nar .byte (c1.toInt8.toInt32)))] (.int 0)
theorem rm_init4_2 (l : Launch) (Z : State) (a0 : Array Value) (hw : HW a0 Z) (ws : List Jvm.Cond) (aS : Addr) (a2 : Addr) (kC : ClassId) (c0 : Int32) (c1 : Int32) (zCS : Int32) (h0 : Heap) (n0 : Nat) (Z0 : n0 ≤ h0.size) (O0 : Old Z n0 h0) (E_0 : ek21 Z h0 aS) (g_0 : n0 ≤ aS) (F0v : fk17 Z h0 aS .null) (F0c : fk16 Z h0 aS (.int 0)) (ne02 : aS ≠ a2) (R_C : Arv Z h0 a2 kC .char (2 : Int32) [(.int c0), (.int c1)] (.int 0)) (hC0 : ¬ ((255 : Int32) < c0)) (hC1 : ¬ ((255 : Int32) < c1)) (S_CS : sk0 Z Z.heap (.int zCS)) (P_CS : ¬ zCS = 0) :
    M3 l ws (rmk 2 1 2 35) Z #[(.ref aS), (.ref a2), (.int 0), (.int 2), .null] h0 (Q_init4_2 Z aS a2 kC c0 c1 zCS h0 n0) := by
  refine own_go "java/lang/String" rfl (plainFor_of_name pn_5) (fun m => ef_init4_2 m aS a2) (fun p e s m below meth c s₁ hx hby hml hown hnm hlk hret hZ X0 e0 => ?_)
  have N0 := Fr.nil n0
  have K0 := Keep.refl h0 [aS]
  show gs s₁ m 0 #[vr aS, vr a2, vi 0, vi 2, .val .null, .unset] []
  refine oaloadN X0 hx hby d5_0 rfl rfl ?_
  obtain ⟨T1, X1, e1, st1⟩ := initO X0 hx hZ hown (own_w hw 60 rfl) (own_w hw 61 rfl) (own_w hw 62 rfl) e0 (g := (mkF m 1 #[vr aS, vr a2, vi 0, vi 2, .val .null, .unset] [(.ref aS)])) rfl (by rw [hml]; rfl) rfl (hb hby d5_1) (by decide) (W := 0) (by show 2 * 0 + _ ≤ _; exact Nat.le_of_eq rfl) (by decide)
  refine own_st st1 ?_
  show gs T1 m 4 #[vr aS, vr a2, vi 0, vi 2, .val .null, .unset] []
  refine oiloadN X1 hx hby d5_4 rfl ?_
  refine own_st (fun _ kS => XS.ifYes X1.here hx rfl (pc0 := 5) (pc' := 27) rfl (hb hby d5_5) rfl ((if0 _ _).trans (feq (by decide : ¬ ((2 : Int32) = (0 : Int32)))).2) (by decide) (by decide) kS) ?_
  show gs T1 m 27 #[vr aS, vr a2, vi 0, vi 2, .val .null, .unset] []
  obtain ⟨T2, X2, e2, st2⟩ := getS2 X1 hx hZ hown (host := "") (Or.inl (own_w hw 63 rfl)) Via.refl e1 (Sta.ext O0.2 S_CS) (g := (mkF m 27 #[vr aS, vr a2, vi 0, vi 2, .val .null, .unset] [])) rfl (hb hby d5_27)
  refine own_st st2 ?_
  show gs T2 m 30 #[vr aS, vr a2, vi 0, vi 2, .val .null, .unset] [(.int zCS)]
  refine own_st (fun _ kS => XS.ifNo X2.here hx rfl (hb hby d5_30) rfl ((if0 _ _).trans (feq (P_CS : ¬ (zCS = (0 : Int32)))).1) kS) ?_
  show gs T2 m 33 #[vr aS, vr a2, vi 0, vi 2, .val .null, .unset] []
  refine oaloadN X2 hx hby d5_33 rfl rfl ?_
  refine oiloadN X2 hx hby d5_34 rfl ?_
  refine oiloadN X2 hx hby d5_35 rfl ?_
  refine oS 0 X2 hx hZ hby hml hown (own_w hw 64 rfl) (own_w hw 65 rfl) (own_w hw 66 rfl) (own_w hw 67 rfl) (rm_cmpA2 l Z a0 hw [] a2 kC c0 c1 h0 n0 Z0  R_C hC0 hC1) e2 (by decide) own_pd2 d5_36 rfl rfl rfl (fun T3 L3 v3 X3 hQ3 => ?_)
  obtain ⟨tN_3, kN_3, rfl, Nq3, Kc3, P3_0, P3_1⟩ := hQ3
  have N3 := Fr.app N0 Nq3
  have ne_aS_tN_3 : aS ≠ tN_3 := Nat.ne_of_lt (Nat.lt_of_lt_of_le E_0.lt P3_0)
  have ne_a2_tN_3 : a2 ≠ tN_3 := Nat.ne_of_lt (Nat.lt_of_lt_of_le R_C.lt P3_0)
  have ge_tN_3 : n0 ≤ tN_3 := Nat.le_trans Z0 P3_0
  have sz_tN_3 : h0.size ≤ tN_3 := Nat.le_trans K0.1 P3_0
  have K3 := K0.trans Kc3 all0
  have O3 := O0.keep Kc3 all0
  show gs T3 m 39 #[vr aS, vr a2, vi 0, vi 2, .val .null, .unset] [(.ref tN_3)]
  refine own_st (fun _ kS => XS.astore X3.here hx rfl (hb hby d5_39) rfl rfl (l' := #[vr aS, vr a2, vi 0, vi 2, .val .null, vr tN_3]) rfl kS) ?_
  refine oaloadN X3 hx hby d5_41 rfl rfl ?_
  refine oaload X3 hx hby d5_42 rfl rfl ?_
  refine oiloadN X3 hx hby d5_44 rfl ?_
  refine oS 1 X3 hx hZ hby hml hown (own_w hw 72 rfl) (own_w hw 73 rfl) (own_w hw 66 rfl) (own_w hw 74 rfl) (rm_cfal2 l Z a0 hw [] tN_3 kN_3 (nar .byte (c0.toInt8.toInt32)) (nar .byte (c1.toInt8.toInt32)) T3.heap n0 (Nat.le_trans Z0 Kc3.1)  P3_1) rfl (by decide) own_pd3 d5_45 rfl rfl rfl (fun T4 L4 v4 X4 hQ4 => ?_)
  obtain ⟨rfl, Nq4, eq4⟩ := hQ4
  have N4 := Fr.app N3 Nq4
  show gs T4 m 48 #[vr aS, vr a2, vi 0, vi 2, .val .null, vr tN_3] [(.int 0), (.ref aS)]
  obtain ⟨T5, h5, X5, e5, W5, st5⟩ := putFN X4 hx hZ hown (own_w hw 75 rfl) Via.refl eq4 (F0c.keep Kc3 nin0) (E_0.keep Kc3) (Or.inr ⟨(own_w hw 76 rfl), rfl, hnm⟩) (own_w hw 46 rfl) (ty := .byte) (v' := (.int 0)) (by decide) rfl (by decide) (g := (mkF m 48 #[vr aS, vr a2, vi 0, vi 2, .val .null, vr tN_3] [(.int 0), (.ref aS)])) rfl rfl (hb hby d5_48)
  refine own_st st5 ?_
  have N5 := Fr.snoc X5 N4 g_0
  have K5 := K3.wr W5 (Or.inl (List.mem_of_getElem? (i := 0) rfl))
  have O5 := O3.wr W5 g_0
  have Fw5 := Fld.same W5 (F0c.keep Kc3 nin0)
  show gs T5 m 51 #[vr aS, vr a2, vi 0, vi 2, .val .null, vr tN_3] []
  refine oaloadN X5 hx hby d5_51 rfl rfl ?_
  refine oaload X5 hx hby d5_52 rfl rfl ?_
  show gs T5 m 54 #[vr aS, vr a2, vi 0, vi 2, .val .null, vr tN_3] [(.ref tN_3), (.ref aS)]
  obtain ⟨T6, h6, X6, e6, W6, st6⟩ := putF X5 hx hZ hown (host := "") (Or.inl (own_w hw 77 rfl)) Via.refl e5 (Fld.other W5 (F0v.keep Kc3 nin0) (Or.inr (slot_ne (Or.inr (own_w hw 78 rfl)) (Or.inr (own_w hw 76 rfl)) (by decide) (t := (.array .byte)) (t' := .byte) (by decide) (by decide)))) (Exa.wr W5 (E_0.keep Kc3)) (Or.inr ⟨(own_w hw 78 rfl), rfl, hnm⟩) (own_w hw 46 rfl) (ty := (.array .byte)) (by decide) rfl rfl (g := (mkF m 54 #[vr aS, vr a2, vi 0, vi 2, .val .null, vr tN_3] [(.ref tN_3), (.ref aS)])) rfl rfl (hb hby d5_54)
  refine own_st st6 ?_
  have N6 := Fr.snoc X6 N5 g_0
  have K6 := K5.wr W6 (Or.inl (List.mem_of_getElem? (i := 0) rfl))
  have O6 := O5.wr W6 g_0
  have Fw6 := Fld.same W6 (Fld.other W5 (F0v.keep Kc3 nin0) (Or.inr (slot_ne (Or.inr (own_w hw 78 rfl)) (Or.inr (own_w hw 76 rfl)) (by decide) (t := (.array .byte)) (t' := .byte) (by decide) (by decide))))
  show gs T6 m 57 #[vr aS, vr a2, vi 0, vi 2, .val .null, vr tN_3] []
  exact own_retV X6 hx hlk hret (hb hby d5_57) (by decide) (by decide) (by rw [e6]; exact ⟨tN_3, kN_3, ⟨rfl, N6, K6, (Exa.wr W6 (Exa.wr W5 (E_0.keep Kc3))), (Fld.other W6 Fw5 (Or.inr (slot_ne (Or.inr (own_w hw 76 rfl)) (Or.inr (own_w hw 78 rfl)) (by decide) (t := .byte) (t' := (.array .byte)) (by decide) (by decide)))), Fw6, ((P3_1.other W5 (Ne.symm ne_aS_tN_3)).other W6 (Ne.symm ne_aS_tN_3))⟩⟩)
theorem ef_init1_2 (m : MethodId) (x0 : Addr) (x1 : Addr) : entryFrame m #[(.ref x0), (.ref x1)] 2 = mkF m 0 #[.val (.ref x0), .val (.ref x1)] [] := by first | (simp [entryFrame, mkF, argsToLocals, Value.category]; done) | rfl
def Q_init1_2 (Z : State) (aS : Addr) (a2 : Addr) (kC : ClassId) (c0 : Int32) (c1 : Int32) (zCS : Int32) (h0 : Heap) (n0 : Nat) (v : Option Value) (h : Heap) (L : List Loc) : Prop := ∃ tN : Addr, ∃ kN : ClassId, v = none ∧ Fr n0 L ∧ Keep h0 h [aS] ∧ ek21 Z h aS ∧ fk16 Z h aS (.int 0) ∧ fk17 Z h aS (.ref tN) ∧ Arv Z h tN kN .byte (2 : Int32) [(.int (nar .byte (c0.toInt8.toInt32))), (.int (nar .byte (c1.toInt8.toInt32)))] (.int 0)
theorem rm_init1_2 (l : Launch) (Z : State) (a0 : Array Value) (hw : HW a0 Z) (ws : List Jvm.Cond) (aS : Addr) (a2 : Addr) (kC : ClassId) (c0 : Int32) (c1 : Int32) (zCS : Int32) (h0 : Heap) (n0 : Nat) (Z0 : n0 ≤ h0.size) (O0 : Old Z n0 h0) (E_0 : ek21 Z h0 aS) (g_0 : n0 ≤ aS) (F0v : fk17 Z h0 aS .null) (F0c : fk16 Z h0 aS (.int 0)) (ne02 : aS ≠ a2) (R_C : Arv Z h0 a2 kC .char (2 : Int32) [(.int c0), (.int c1)] (.int 0)) (hC0 : ¬ ((255 : Int32) < c0)) (hC1 : ¬ ((255 : Int32) < c1)) (S_CS : sk0 Z Z.heap (.int zCS)) (P_CS : ¬ zCS = 0) :
    M4 l ws (rmk 3 1 2 52) Z #[(.ref aS), (.ref a2)] h0 (Q_init1_2 Z aS a2 kC c0 c1 zCS h0 n0) := by
  refine own_go "java/lang/String" rfl (plainFor_of_name pn_4) (fun m => ef_init1_2 m aS a2) (fun p e s m below meth c s₁ hx hby hml hown hnm hlk hret hZ X0 e0 => ?_)
  have N0 := Fr.nil n0
  have K0 := Keep.refl h0 [aS]
  show gs s₁ m 0 #[vr aS, vr a2] []
  refine oaloadN X0 hx hby d4_0 rfl rfl ?_
  refine oaloadN X0 hx hby d4_1 rfl rfl ?_
  refine oiconst X0 hx hby d4_2 ?_
  refine oaloadN X0 hx hby d4_3 rfl rfl ?_
  show gs s₁ m 4 #[vr aS, vr a2] [(.ref a2), (.int 0), (.ref a2), (.ref aS)]
  obtain ⟨cl1, Ar1, qa1, qs1, qn1, qh1, qg1⟩ := id R_C
  refine own_st (fun _ kS => X0.arraylength hx (by rw [e0]; exact Ar1.1) (State.isArrayOf_alike hZ.alike Ar1.2.1) (g := (mkF m 4 #[vr aS, vr a2] [(.ref a2), (.int 0), (.ref a2), (.ref aS)])) rfl rfl (hb hby d4_4) _ kS) ?_
  rw [len_of qs1 qn1]
  show gs s₁ m 5 #[vr aS, vr a2] [(.int 2), (.int 0), (.ref a2), (.ref aS)]
  refine own_st (fun _ kS => XS.aconstNull X0.here hx rfl (hb hby d4_5) kS) ?_
  show gs s₁ m 6 #[vr aS, vr a2] [.null, (.int 2), (.int 0), (.ref a2), (.ref aS)]
  refine oN 0 X0 hx hZ hby hml hown (own_w hw 56 rfl) (own_w hw 57 rfl) (own_w hw 47 rfl) (own_w hw 59 rfl) (rm_init4_2 l Z a0 hw [] aS a2 kC c0 c1 zCS h0 n0 Z0 O0 E_0 g_0 F0v F0c ne02 R_C hC0 hC1 S_CS P_CS) e0 rfl (by decide) own_pd0 d4_6 rfl rfl rfl (fun T2 L2 v2 X2 hQ2 => ?_)
  obtain ⟨tN_2, kN_2, rfl, Nq2, Kc2, P2_0, P2_1, P2_2, P2_3⟩ := hQ2
  have N2 := Fr.app N0 Nq2
  have K2 := K0.trans Kc2 (allS (Or.inl (List.mem_of_getElem? (i := 0) rfl)) all0)
  have O2 := O0.keep Kc2 (allS g_0 all0)
  show gs T2 m 9 #[vr aS, vr a2] []
  exact own_retV X2 hx hlk hret (hb hby d4_9) (by decide) (by decide) (show Q_init1_2 Z aS a2 kC c0 c1 zCS h0 n0 _ _ _ from ⟨tN_2, kN_2, ⟨rfl, N2, K2, P2_0, P2_1, P2_2, P2_3⟩⟩)
theorem ef_cmpI3 (m : MethodId) (x0 : Addr) (x1 : Addr) : entryFrame m #[(.ref x0), (.int 0), (.ref x1), (.int 0), (.int 3)] 7 = mkF m 0 #[.val (.ref x0), .val (.int 0), .val (.ref x1), .val (.int 0), .val (.int 3), .unset, .unset] [] := by first | (simp [entryFrame, mkF, argsToLocals, Value.category]; done) | rfl
def Q_cmpI3 (Z : State) (a2 : Addr) (kC : ClassId) (tA : Addr) (kA : ClassId) (c0 : Int32) (c1 : Int32) (c2 : Int32) (h0 : Heap) (n0 : Nat) (v : Option Value) (h : Heap) (L : List Loc) : Prop := v = some (.int 3) ∧ Fr n0 L ∧ Keep h0 h [tA] ∧ Arv Z h tA kA .byte (3 : Int32) [(.int (nar .byte (c0.toInt8.toInt32))), (.int (nar .byte (c1.toInt8.toInt32))), (.int (nar .byte (c2.toInt8.toInt32)))] (.int 0)
theorem rm_cmpI3 (l : Launch) (Z : State) (a0 : Array Value) (hw : HW a0 Z) (ws : List Jvm.Cond) (a2 : Addr) (kC : ClassId) (tA : Addr) (kA : ClassId) (c0 : Int32) (c1 : Int32) (c2 : Int32) (h0 : Heap) (n0 : Nat) (Z0 : n0 ≤ h0.size) (R_C : Arv Z h0 a2 kC .char (3 : Int32) [(.int c0), (.int c1), (.int c2)] (.int 0)) (R_A : Arv Z h0 tA kA .byte (3 : Int32) [(.int 0), (.int 0), (.int 0)] (.int 0)) (g_A : n0 ≤ tA) (ne2A : a2 ≠ tA) (hC0 : ¬ ((255 : Int32) < c0)) (hC1 : ¬ ((255 : Int32) < c1)) (hC2 : ¬ ((255 : Int32) < c2)) :
    M0 l ws (rmk 0 0 0 0) Z #[(.ref a2), (.int 0), (.ref tA), (.int 0), (.int 3)] h0 (Q_cmpI3 Z a2 kC tA kA c0 c1 c2 h0 n0) := by
  refine own_go "java/lang/StringUTF16" rfl (plainFor_of_name pn_8) (fun m => ef_cmpI3 m a2 tA) (fun p e s m below meth c s₁ hx hby hml hown hnm hlk hret hZ X0 e0 => ?_)
  have N0 := Fr.nil n0
  have K0 := Keep.refl h0 [tA]
  show gs s₁ m 0 #[vr a2, vi 0, vr tA, vi 0, vi 3, .unset, .unset] []
  refine oiconst X0 hx hby d8_0 ?_
  refine own_st (fun _ kS => XS.istore X0.here hx rfl (hb hby d8_1) rfl (l' := #[vr a2, vi 0, vr tA, vi 0, vi 3, vi 0, .unset]) rfl kS) ?_
  refine oiload X0 hx hby d8_3 rfl ?_
  refine oiload X0 hx hby d8_5 rfl ?_
  refine own_st (fun _ kS => XS.icmpNo X0.here hx rfl (hb hby d8_7) rfl (tlt (by decide : (0 : Int32) < (3 : Int32))).2.1 kS) ?_
  show gs s₁ m 10 #[vr a2, vi 0, vr tA, vi 0, vi 3, vi 0, .unset] []
  refine oaloadN X0 hx hby d8_10 rfl rfl ?_
  refine oiloadN X0 hx hby d8_11 rfl ?_
  show gs s₁ m 12 #[vr a2, vi 0, vr tA, vi 0, vi 3, vi 0, .unset] [(.int 0), (.ref a2)]
  obtain ⟨cl1, Ar1, qa1, qs1, qn1, qh1, qg1⟩ := id R_C
  refine own_st (fun _ kS => X0.caload hx (j := (0 : Int32)) (v := (.int c0)) (by rw [e0]; exact Ar1.1) (State.isArrayOf_alike hZ.alike Ar1.2.1) Ar1.2.2 (inb_of qs1 ⟨by decide, by decide⟩) (qh1.at (inb_of qs1 ⟨by decide, by decide⟩) rfl) (g := (mkF m 12 #[vr a2, vi 0, vr tA, vi 0, vi 3, vi 0, .unset] [(.int 0), (.ref a2)])) rfl rfl (hb hby d8_12) _ kS) ?_
  show gs s₁ m 13 #[vr a2, vi 0, vr tA, vi 0, vi 3, vi 0, .unset] [(.int c0)]
  refine own_st (fun _ kS => XS.istore X0.here hx rfl (hb hby d8_13) rfl (l' := #[vr a2, vi 0, vr tA, vi 0, vi 3, vi 0, vi c0]) rfl kS) ?_
  refine oiload X0 hx hby d8_15 rfl ?_
  refine own_st (fun _ kS => XS.sipush X0.here hx rfl (hb hby d8_17) kS) ?_
  show gs s₁ m 20 #[vr a2, vi 0, vr tA, vi 0, vi 3, vi 0, vi c0] [(.int 255), (.int c0)]
  refine own_st (fun _ kS => XS.icmpYes X0.here hx rfl (pc0 := 20) (pc' := 26) rfl (hb hby d8_20) rfl (flt (hC0 : ¬ ((255 : Int32) < c0))).2.2.2 (by decide) (by decide) kS) ?_
  show gs s₁ m 26 #[vr a2, vi 0, vr tA, vi 0, vi 3, vi 0, vi c0] []
  refine oaloadN X0 hx hby d8_26 rfl rfl ?_
  refine oiloadN X0 hx hby d8_27 rfl ?_
  refine oiload X0 hx hby d8_28 rfl ?_
  refine own_st (fun _ kS => XT.i2b X0.here hx rfl (hb hby d8_30) rfl kS) ?_
  show gs s₁ m 31 #[vr a2, vi 0, vr tA, vi 0, vi 3, vi 0, vi c0] [(.int (c0.toInt8.toInt32)), (.int 0), (.ref tA)]
  obtain ⟨cl2, Ar2, qa2, qs2, qn2, qh2, qg2⟩ := id R_A
  obtain ⟨T2, h2, X2, e2, W2, st2⟩ := stB X0 hx hZ e0 Ar2 (j := (0 : Int32)) (inb_of qs2 ⟨by decide, by decide⟩) (g := (mkF m 31 #[vr a2, vi 0, vr tA, vi 0, vi 3, vi 0, vi c0] [(.int (c0.toInt8.toInt32)), (.int 0), (.ref tA)])) rfl rfl (hb hby d8_31)
  have N2 := Fr.snoc X2 N0 g_A
  have K2 := K0.wr W2 (Or.inl (List.mem_of_getElem? (i := 0) rfl))
  have R2 : Arv Z h2 tA kA .byte (3 : Int32) [(.int (nar .byte (c0.toInt8.toInt32))), (.int 0), (.int 0)] (.int 0) := Arv.set Ar2 qa2 qs2 qn2 qh2 qg2 (fits_nar_byte _) W2 0 rfl (Nat.le_of_ble_eq_true rfl)
  refine own_st st2 ?_
  show gs T2 m 32 #[vr a2, vi 0, vr tA, vi 0, vi 3, vi 0, vi c0] []
  refine own_st (fun _ kS => XS.iinc X2.here hx rfl (hb hby d8_32) rfl (l' := #[vr a2, vi 1, vr tA, vi 0, vi 3, vi 0, vi c0]) rfl kS) ?_
  refine own_st (fun _ kS => XS.iinc X2.here hx rfl (hb hby d8_35) rfl (l' := #[vr a2, vi 1, vr tA, vi 1, vi 3, vi 0, vi c0]) rfl kS) ?_
  refine own_st (fun _ kS => XS.iinc X2.here hx rfl (hb hby d8_38) rfl (l' := #[vr a2, vi 1, vr tA, vi 1, vi 3, vi 1, vi c0]) rfl kS) ?_
  refine own_st (fun _ kS => XS.goto X2.here hx rfl (pc0 := 41) (pc' := 3) rfl (hb hby d8_41) (by decide) (by decide) kS) ?_
  refine oiload X2 hx hby d8_3 rfl ?_
  refine oiload X2 hx hby d8_5 rfl ?_
  refine own_st (fun _ kS => XS.icmpNo X2.here hx rfl (hb hby d8_7) rfl (tlt (by decide : (1 : Int32) < (3 : Int32))).2.1 kS) ?_
  show gs T2 m 10 #[vr a2, vi 1, vr tA, vi 1, vi 3, vi 1, vi c0] []
  refine oaloadN X2 hx hby d8_10 rfl rfl ?_
  refine oiloadN X2 hx hby d8_11 rfl ?_
  show gs T2 m 12 #[vr a2, vi 1, vr tA, vi 1, vi 3, vi 1, vi c0] [(.int 1), (.ref a2)]
  obtain ⟨cl3, Ar3, qa3, qs3, qn3, qh3, qg3⟩ := id (R_C.other W2 ne2A)
  refine own_st (fun _ kS => X2.caload hx (j := (1 : Int32)) (v := (.int c1)) (by rw [e2]; exact Ar3.1) (State.isArrayOf_alike hZ.alike Ar3.2.1) Ar3.2.2 (inb_of qs3 ⟨by decide, by decide⟩) (qh3.at (inb_of qs3 ⟨by decide, by decide⟩) rfl) (g := (mkF m 12 #[vr a2, vi 1, vr tA, vi 1, vi 3, vi 1, vi c0] [(.int 1), (.ref a2)])) rfl rfl (hb hby d8_12) _ kS) ?_
  show gs T2 m 13 #[vr a2, vi 1, vr tA, vi 1, vi 3, vi 1, vi c0] [(.int c1)]
  refine own_st (fun _ kS => XS.istore X2.here hx rfl (hb hby d8_13) rfl (l' := #[vr a2, vi 1, vr tA, vi 1, vi 3, vi 1, vi c1]) rfl kS) ?_
  refine oiload X2 hx hby d8_15 rfl ?_
  refine own_st (fun _ kS => XS.sipush X2.here hx rfl (hb hby d8_17) kS) ?_
  show gs T2 m 20 #[vr a2, vi 1, vr tA, vi 1, vi 3, vi 1, vi c1] [(.int 255), (.int c1)]
  refine own_st (fun _ kS => XS.icmpYes X2.here hx rfl (pc0 := 20) (pc' := 26) rfl (hb hby d8_20) rfl (flt (hC1 : ¬ ((255 : Int32) < c1))).2.2.2 (by decide) (by decide) kS) ?_
  show gs T2 m 26 #[vr a2, vi 1, vr tA, vi 1, vi 3, vi 1, vi c1] []
  refine oaloadN X2 hx hby d8_26 rfl rfl ?_
  refine oiloadN X2 hx hby d8_27 rfl ?_
  refine oiload X2 hx hby d8_28 rfl ?_
  refine own_st (fun _ kS => XT.i2b X2.here hx rfl (hb hby d8_30) rfl kS) ?_
  show gs T2 m 31 #[vr a2, vi 1, vr tA, vi 1, vi 3, vi 1, vi c1] [(.int (c1.toInt8.toInt32)), (.int 1), (.ref tA)]
  obtain ⟨cl4, Ar4, qa4, qs4, qn4, qh4, qg4⟩ := id R2
  obtain ⟨T4, h4, X4, e4, W4, st4⟩ := stB X2 hx hZ e2 Ar4 (j := (1 : Int32)) (inb_of qs4 ⟨by decide, by decide⟩) (g := (mkF m 31 #[vr a2, vi 1, vr tA, vi 1, vi 3, vi 1, vi c1] [(.int (c1.toInt8.toInt32)), (.int 1), (.ref tA)])) rfl rfl (hb hby d8_31)
  have N4 := Fr.snoc X4 N2 g_A
  have K4 := K2.wr W4 (Or.inl (List.mem_of_getElem? (i := 0) rfl))
  have R4 : Arv Z h4 tA kA .byte (3 : Int32) [(.int (nar .byte (c0.toInt8.toInt32))), (.int (nar .byte (c1.toInt8.toInt32))), (.int 0)] (.int 0) := Arv.set Ar4 qa4 qs4 qn4 qh4 qg4 (fits_nar_byte _) W4 1 rfl (Nat.le_of_ble_eq_true rfl)
  refine own_st st4 ?_
  show gs T4 m 32 #[vr a2, vi 1, vr tA, vi 1, vi 3, vi 1, vi c1] []
  refine own_st (fun _ kS => XS.iinc X4.here hx rfl (hb hby d8_32) rfl (l' := #[vr a2, vi 2, vr tA, vi 1, vi 3, vi 1, vi c1]) rfl kS) ?_
  refine own_st (fun _ kS => XS.iinc X4.here hx rfl (hb hby d8_35) rfl (l' := #[vr a2, vi 2, vr tA, vi 2, vi 3, vi 1, vi c1]) rfl kS) ?_
  refine own_st (fun _ kS => XS.iinc X4.here hx rfl (hb hby d8_38) rfl (l' := #[vr a2, vi 2, vr tA, vi 2, vi 3, vi 2, vi c1]) rfl kS) ?_
  refine own_st (fun _ kS => XS.goto X4.here hx rfl (pc0 := 41) (pc' := 3) rfl (hb hby d8_41) (by decide) (by decide) kS) ?_
  refine oiload X4 hx hby d8_3 rfl ?_
  refine oiload X4 hx hby d8_5 rfl ?_
  refine own_st (fun _ kS => XS.icmpNo X4.here hx rfl (hb hby d8_7) rfl (tlt (by decide : (2 : Int32) < (3 : Int32))).2.1 kS) ?_
  show gs T4 m 10 #[vr a2, vi 2, vr tA, vi 2, vi 3, vi 2, vi c1] []
  refine oaloadN X4 hx hby d8_10 rfl rfl ?_
  refine oiloadN X4 hx hby d8_11 rfl ?_
  show gs T4 m 12 #[vr a2, vi 2, vr tA, vi 2, vi 3, vi 2, vi c1] [(.int 2), (.ref a2)]
  obtain ⟨cl5, Ar5, qa5, qs5, qn5, qh5, qg5⟩ := id ((R_C.other W2 ne2A).other W4 ne2A)
  refine own_st (fun _ kS => X4.caload hx (j := (2 : Int32)) (v := (.int c2)) (by rw [e4]; exact Ar5.1) (State.isArrayOf_alike hZ.alike Ar5.2.1) Ar5.2.2 (inb_of qs5 ⟨by decide, by decide⟩) (qh5.at (inb_of qs5 ⟨by decide, by decide⟩) rfl) (g := (mkF m 12 #[vr a2, vi 2, vr tA, vi 2, vi 3, vi 2, vi c1] [(.int 2), (.ref a2)])) rfl rfl (hb hby d8_12) _ kS) ?_
  show gs T4 m 13 #[vr a2, vi 2, vr tA, vi 2, vi 3, vi 2, vi c1] [(.int c2)]
  refine own_st (fun _ kS => XS.istore X4.here hx rfl (hb hby d8_13) rfl (l' := #[vr a2, vi 2, vr tA, vi 2, vi 3, vi 2, vi c2]) rfl kS) ?_
  refine oiload X4 hx hby d8_15 rfl ?_
  refine own_st (fun _ kS => XS.sipush X4.here hx rfl (hb hby d8_17) kS) ?_
  show gs T4 m 20 #[vr a2, vi 2, vr tA, vi 2, vi 3, vi 2, vi c2] [(.int 255), (.int c2)]
  refine own_st (fun _ kS => XS.icmpYes X4.here hx rfl (pc0 := 20) (pc' := 26) rfl (hb hby d8_20) rfl (flt (hC2 : ¬ ((255 : Int32) < c2))).2.2.2 (by decide) (by decide) kS) ?_
  show gs T4 m 26 #[vr a2, vi 2, vr tA, vi 2, vi 3, vi 2, vi c2] []
  refine oaloadN X4 hx hby d8_26 rfl rfl ?_
  refine oiloadN X4 hx hby d8_27 rfl ?_
  refine oiload X4 hx hby d8_28 rfl ?_
  refine own_st (fun _ kS => XT.i2b X4.here hx rfl (hb hby d8_30) rfl kS) ?_
  show gs T4 m 31 #[vr a2, vi 2, vr tA, vi 2, vi 3, vi 2, vi c2] [(.int (c2.toInt8.toInt32)), (.int 2), (.ref tA)]
  obtain ⟨cl6, Ar6, qa6, qs6, qn6, qh6, qg6⟩ := id R4
  obtain ⟨T6, h6, X6, e6, W6, st6⟩ := stB X4 hx hZ e4 Ar6 (j := (2 : Int32)) (inb_of qs6 ⟨by decide, by decide⟩) (g := (mkF m 31 #[vr a2, vi 2, vr tA, vi 2, vi 3, vi 2, vi c2] [(.int (c2.toInt8.toInt32)), (.int 2), (.ref tA)])) rfl rfl (hb hby d8_31)
  have N6 := Fr.snoc X6 N4 g_A
  have K6 := K4.wr W6 (Or.inl (List.mem_of_getElem? (i := 0) rfl))
  have R6 : Arv Z h6 tA kA .byte (3 : Int32) [(.int (nar .byte (c0.toInt8.toInt32))), (.int (nar .byte (c1.toInt8.toInt32))), (.int (nar .byte (c2.toInt8.toInt32)))] (.int 0) := Arv.set Ar6 qa6 qs6 qn6 qh6 qg6 (fits_nar_byte _) W6 2 rfl (Nat.le_of_ble_eq_true rfl)
  refine own_st st6 ?_
  show gs T6 m 32 #[vr a2, vi 2, vr tA, vi 2, vi 3, vi 2, vi c2] []
  refine own_st (fun _ kS => XS.iinc X6.here hx rfl (hb hby d8_32) rfl (l' := #[vr a2, vi 3, vr tA, vi 2, vi 3, vi 2, vi c2]) rfl kS) ?_
  refine own_st (fun _ kS => XS.iinc X6.here hx rfl (hb hby d8_35) rfl (l' := #[vr a2, vi 3, vr tA, vi 3, vi 3, vi 2, vi c2]) rfl kS) ?_
  refine own_st (fun _ kS => XS.iinc X6.here hx rfl (hb hby d8_38) rfl (l' := #[vr a2, vi 3, vr tA, vi 3, vi 3, vi 3, vi c2]) rfl kS) ?_
  refine own_st (fun _ kS => XS.goto X6.here hx rfl (pc0 := 41) (pc' := 3) rfl (hb hby d8_41) (by decide) (by decide) kS) ?_
  refine oiload X6 hx hby d8_3 rfl ?_
  refine oiload X6 hx hby d8_5 rfl ?_
  refine own_st (fun _ kS => XS.icmpYes X6.here hx rfl (pc0 := 7) (pc' := 44) rfl (hb hby d8_7) rfl (flt (by decide : ¬ ((3 : Int32) < (3 : Int32)))).2.1 (by decide) (by decide) kS) ?_
  show gs T6 m 44 #[vr a2, vi 3, vr tA, vi 3, vi 3, vi 3, vi c2] []
  refine oiload X6 hx hby d8_44 rfl ?_
  exact own_retI X6 hx hlk hret (hb hby d8_46) (by decide) (by decide) (by rw [e6]; exact ⟨rfl, N6, K6, R6⟩)
theorem ef_cmpA3 (m : MethodId) (x0 : Addr) : entryFrame m #[(.ref x0), (.int 0), (.int 3)] 6 = mkF m 0 #[.val (.ref x0), .val (.int 0), .val (.int 3), .unset, .unset, .unset] [] := by first | (simp [entryFrame, mkF, argsToLocals, Value.category]; done) | rfl
def Q_cmpA3 (Z : State) (a2 : Addr) (kC : ClassId) (c0 : Int32) (c1 : Int32) (c2 : Int32) (h0 : Heap) (n0 : Nat) (v : Option Value) (h : Heap) (L : List Loc) : Prop := ∃ tN : Addr, ∃ kN : ClassId, v = some (.ref tN) ∧ Fr n0 L ∧ Keep h0 h [] ∧ h0.size ≤ tN ∧ Arv Z h tN kN .byte (3 : Int32) [(.int (nar .byte (c0.toInt8.toInt32))), (.int (nar .byte (c1.toInt8.toInt32))), (.int (nar .byte (c2.toInt8.toInt32)))] (.int 0)
theorem rm_cmpA3 (l : Launch) (Z : State) (a0 : Array Value) (hw : HW a0 Z) (ws : List Jvm.Cond) (a2 : Addr) (kC : ClassId) (c0 : Int32) (c1 : Int32) (c2 : Int32) (h0 : Heap) (n0 : Nat) (Z0 : n0 ≤ h0.size) (R_C : Arv Z h0 a2 kC .char (3 : Int32) [(.int c0), (.int c1), (.int c2)] (.int 0)) (hC0 : ¬ ((255 : Int32) < c0)) (hC1 : ¬ ((255 : Int32) < c1)) (hC2 : ¬ ((255 : Int32) < c2)) :
    M1 l ws (rmk 1 1 3 18) Z #[(.ref a2), (.int 0), (.int 3)] h0 (Q_cmpA3 Z a2 kC c0 c1 c2 h0 n0) := by
  refine own_go "java/lang/StringUTF16" rfl (plainFor_of_name pn_7) (fun m => ef_cmpA3 m a2) (fun p e s m below meth c s₁ hx hby hml hown hnm hlk hret hZ X0 e0 => ?_)
  have N0 := Fr.nil n0
  have K0 := Keep.refl h0 []
  show gs s₁ m 0 #[vr a2, vi 0, vi 3, .unset, .unset, .unset] []
  refine oiloadN X0 hx hby d7_0 rfl ?_
  show gs s₁ m 1 #[vr a2, vi 0, vi 3, .unset, .unset, .unset] [(.int 3)]
  obtain ⟨T1, h1, k1, X1, e1, E1, A1, st1⟩ := newP X0 hx hZ (own_w hw 68 rfl) e0 (g := (mkF m 1 #[vr a2, vi 0, vi 3, .unset, .unset, .unset] [(.int 3)])) rfl (hb hby d7_1) rfl (by decide) (cap := 3) (by decide) (by decide) (by decide) (by decide)
  obtain ⟨b1, g1⟩ : ∃ z, z = h0.size := ⟨_, rfl⟩
  have ne_a2_b1 : a2 ≠ b1 := Nat.ne_of_lt (Nat.lt_of_lt_of_eq R_C.lt g1.symm)
  have ge_b1 : n0 ≤ b1 := Nat.le_trans Z0 (Nat.le_of_eq g1.symm)
  have sz_b1 : h0.size ≤ b1 := Nat.le_trans K0.1 (Nat.le_of_eq g1.symm)
  rw [← g1] at A1 st1
  have K1 := K0.ext E1
  have R1 : Arv Z h1 b1 k1 .byte (3 : Int32) [(.int 0), (.int 0), (.int 0)] (.int 0) := (Arv.new A1 (by decide)).pad (pad_rep [] (.int 0) 3)
  refine own_st st1 ?_
  show gs T1 m 3 #[vr a2, vi 0, vi 3, .unset, .unset, .unset] [(.ref b1)]
  refine own_st (fun _ kS => XS.astoreN X1.here hx rfl (hb hby d7_3) rfl rfl (l' := #[vr a2, vi 0, vi 3, vr b1, .unset, .unset]) rfl kS) ?_
  refine oaloadN X1 hx hby d7_4 rfl rfl ?_
  refine oiloadN X1 hx hby d7_5 rfl ?_
  refine oaloadN X1 hx hby d7_6 rfl rfl ?_
  refine oiconst X1 hx hby d7_7 ?_
  refine oiloadN X1 hx hby d7_8 rfl ?_
  refine oS 0 X1 hx hZ hby hml hown (own_w hw 69 rfl) (own_w hw 70 rfl) (own_w hw 66 rfl) (own_w hw 71 rfl) (rm_cmpI3 l Z a0 hw [] a2 kC b1 k1 c0 c1 c2 h1 n0 (Nat.le_trans Z0 E1.1)  (Arv.ext R_C E1) R1 ge_b1 ne_a2_b1 hC0 hC1 hC2) e1 (by decide) own_pd1 d7_9 rfl rfl rfl (fun T2 L2 v2 X2 hQ2 => ?_)
  obtain ⟨rfl, Nq2, Kc2, P2_0⟩ := hQ2
  have N2 := Fr.app N0 Nq2
  have K2 := K1.trans Kc2 (allS (Or.inr sz_b1) all0)
  show gs T2 m 12 #[vr a2, vi 0, vi 3, vr b1, .unset, .unset] [(.int 3)]
  refine own_st (fun _ kS => XS.istore X2.here hx rfl (hb hby d7_12) rfl (l' := #[vr a2, vi 0, vi 3, vr b1, vi 3, .unset]) rfl kS) ?_
  refine oiload X2 hx hby d7_14 rfl ?_
  refine oiloadN X2 hx hby d7_16 rfl ?_
  refine own_st (fun _ kS => XS.icmpYes X2.here hx rfl (pc0 := 17) (pc' := 57) rfl (hb hby d7_17) rfl (teq (by decide : (3 : Int32) = (3 : Int32))).1 (by decide) (by decide) kS) ?_
  show gs T2 m 57 #[vr a2, vi 0, vi 3, vr b1, vi 3, .unset] []
  refine oaloadN X2 hx hby d7_57 rfl rfl ?_
  exact own_retA X2 hx hlk hret rfl rfl (hb hby d7_58) (by decide) (by decide) (show Q_cmpA3 Z a2 kC c0 c1 c2 h0 n0 _ _ _ from ⟨b1, k1, ⟨rfl, N2, K2, sz_b1, P2_0⟩⟩)
theorem ef_cfal3 (m : MethodId) (x0 : Addr) : entryFrame m #[(.ref x0), (.int 3)] 2 = mkF m 0 #[.val (.ref x0), .val (.int 3)] [] := by first | (simp [entryFrame, mkF, argsToLocals, Value.category]; done) | rfl
def Q_cfal3 (Z : State) (tA : Addr) (kA : ClassId) (y0 : Int32) (y1 : Int32) (y2 : Int32) (h0 : Heap) (n0 : Nat) (v : Option Value) (h : Heap) (L : List Loc) : Prop := v = some (.int 0) ∧ Fr n0 L ∧ h = h0
theorem rm_cfal3 (l : Launch) (Z : State) (a0 : Array Value) (hw : HW a0 Z) (ws : List Jvm.Cond) (tA : Addr) (kA : ClassId) (y0 : Int32) (y1 : Int32) (y2 : Int32) (h0 : Heap) (n0 : Nat) (Z0 : n0 ≤ h0.size) (R_A : Arv Z h0 tA kA .byte (3 : Int32) [(.int y0), (.int y1), (.int y2)] (.int 0)) :
    M2 l ws (rmk 0 0 0 0) Z #[(.ref tA), (.int 3)] h0 (Q_cfal3 Z tA kA y0 y1 y2 h0 n0) := by
  refine own_go "java/lang/StringUTF16" rfl (plainFor_of_name pn_9) (fun m => ef_cfal3 m tA) (fun p e s m below meth c s₁ hx hby hml hown hnm hlk hret hZ X0 e0 => ?_)
  have N0 := Fr.nil n0
  show gs s₁ m 0 #[vr tA, vi 3] []
  refine oiloadN X0 hx hby d9_0 rfl ?_
  refine oaloadN X0 hx hby d9_1 rfl rfl ?_
  show gs s₁ m 2 #[vr tA, vi 3] [(.ref tA), (.int 3)]
  obtain ⟨cl1, Ar1, qa1, qs1, qn1, qh1, qg1⟩ := id R_A
  refine own_st (fun _ kS => X0.arraylength hx (by rw [e0]; exact Ar1.1) (State.isArrayOf_alike hZ.alike Ar1.2.1) (g := (mkF m 2 #[vr tA, vi 3] [(.ref tA), (.int 3)])) rfl rfl (hb hby d9_2) _ kS) ?_
  rw [len_of qs1 qn1]
  show gs s₁ m 3 #[vr tA, vi 3] [(.int 3), (.int 3)]
  refine own_st (fun _ kS => XS.isub X0.here hx rfl (hb hby d9_3) rfl kS) ?_
  refine own_st (fun _ kS => XS.bipush X0.here hx rfl (hb hby d9_4) kS) ?_
  refine own_st (fun _ kS => XT.iushr X0.here hx rfl (hb hby d9_6) rfl kS) ?_
  refine own_st (fun _ kS => XT.i2b X0.here hx rfl (hb hby d9_7) rfl kS) ?_
  show gs s₁ m 8 #[vr tA, vi 3] [(.int 0)]
  exact own_retN X0 hx hlk (t := .byte) hret (by simp) (hb hby d9_8) (by decide) (by decide) (v' := (0 : Int32)) rfl (by rw [e0]; exact ⟨rfl, N0, rfl⟩)
theorem ef_init4_3 (m : MethodId) (x0 : Addr) (x1 : Addr) : entryFrame m #[(.ref x0), (.ref x1), (.int 0), (.int 3), .null] 6 = mkF m 0 #[.val (.ref x0), .val (.ref x1), .val (.int 0), .val (.int 3), .val .null, .unset] [] := by first | (simp [entryFrame, mkF, argsToLocals, Value.category]; done) | rfl
def Q_init4_3 (Z : State) (aS : Addr) (a2 : Addr) (kC : ClassId) (c0 : Int32) (c1 : Int32) (c2 : Int32) (zCS : Int32) (h0 : Heap) (n0 : Nat) (v : Option Value) (h : Heap) (L : List Loc) : Prop := ∃ tN : Addr, ∃ kN : ClassId, v = none ∧ Fr n0 L ∧ Keep h0 h [aS] ∧ ek21 Z h aS ∧ fk16 Z h aS (.int 0) ∧ fk17 Z h aS (.ref tN) ∧ Arv Z h tN kN .byte (3 : Int32) [(.int (nar .byte (c0.toInt8.toInt32))), (.int (nar .byte (c1.toInt8.toInt32))), (.int (nar .byte (c2.toInt8.toInt32)))] (.int 0)
theorem rm_init4_3 (l : Launch) (Z : State) (a0 : Array Value) (hw : HW a0 Z) (ws : List Jvm.Cond) (aS : Addr) (a2 : Addr) (kC : ClassId) (c0 : Int32) (c1 : Int32) (c2 : Int32) (zCS : Int32) (h0 : Heap) (n0 : Nat) (Z0 : n0 ≤ h0.size) (O0 : Old Z n0 h0) (E_0 : ek21 Z h0 aS) (g_0 : n0 ≤ aS) (F0v : fk17 Z h0 aS .null) (F0c : fk16 Z h0 aS (.int 0)) (ne02 : aS ≠ a2) (R_C : Arv Z h0 a2 kC .char (3 : Int32) [(.int c0), (.int c1), (.int c2)] (.int 0)) (hC0 : ¬ ((255 : Int32) < c0)) (hC1 : ¬ ((255 : Int32) < c1)) (hC2 : ¬ ((255 : Int32) < c2)) (S_CS : sk0 Z Z.heap (.int zCS)) (P_CS : ¬ zCS = 0) :
    M3 l ws (rmk 2 1 3 35) Z #[(.ref aS), (.ref a2), (.int 0), (.int 3), .null] h0 (Q_init4_3 Z aS a2 kC c0 c1 c2 zCS h0 n0) := by
  refine own_go "java/lang/String" rfl (plainFor_of_name pn_5) (fun m => ef_init4_3 m aS a2) (fun p e s m below meth c s₁ hx hby hml hown hnm hlk hret hZ X0 e0 => ?_)
  have N0 := Fr.nil n0
  have K0 := Keep.refl h0 [aS]
  show gs s₁ m 0 #[vr aS, vr a2, vi 0, vi 3, .val .null, .unset] []
  refine oaloadN X0 hx hby d5_0 rfl rfl ?_
  obtain ⟨T1, X1, e1, st1⟩ := initO X0 hx hZ hown (own_w hw 60 rfl) (own_w hw 61 rfl) (own_w hw 62 rfl) e0 (g := (mkF m 1 #[vr aS, vr a2, vi 0, vi 3, .val .null, .unset] [(.ref aS)])) rfl (by rw [hml]; rfl) rfl (hb hby d5_1) (by decide) (W := 0) (by show 2 * 0 + _ ≤ _; exact Nat.le_of_eq rfl) (by decide)
  refine own_st st1 ?_
  show gs T1 m 4 #[vr aS, vr a2, vi 0, vi 3, .val .null, .unset] []
  refine oiloadN X1 hx hby d5_4 rfl ?_
  refine own_st (fun _ kS => XS.ifYes X1.here hx rfl (pc0 := 5) (pc' := 27) rfl (hb hby d5_5) rfl ((if0 _ _).trans (feq (by decide : ¬ ((3 : Int32) = (0 : Int32)))).2) (by decide) (by decide) kS) ?_
  show gs T1 m 27 #[vr aS, vr a2, vi 0, vi 3, .val .null, .unset] []
  obtain ⟨T2, X2, e2, st2⟩ := getS2 X1 hx hZ hown (host := "") (Or.inl (own_w hw 63 rfl)) Via.refl e1 (Sta.ext O0.2 S_CS) (g := (mkF m 27 #[vr aS, vr a2, vi 0, vi 3, .val .null, .unset] [])) rfl (hb hby d5_27)
  refine own_st st2 ?_
  show gs T2 m 30 #[vr aS, vr a2, vi 0, vi 3, .val .null, .unset] [(.int zCS)]
  refine own_st (fun _ kS => XS.ifNo X2.here hx rfl (hb hby d5_30) rfl ((if0 _ _).trans (feq (P_CS : ¬ (zCS = (0 : Int32)))).1) kS) ?_
  show gs T2 m 33 #[vr aS, vr a2, vi 0, vi 3, .val .null, .unset] []
  refine oaloadN X2 hx hby d5_33 rfl rfl ?_
  refine oiloadN X2 hx hby d5_34 rfl ?_
  refine oiloadN X2 hx hby d5_35 rfl ?_
  refine oS 0 X2 hx hZ hby hml hown (own_w hw 64 rfl) (own_w hw 65 rfl) (own_w hw 66 rfl) (own_w hw 67 rfl) (rm_cmpA3 l Z a0 hw [] a2 kC c0 c1 c2 h0 n0 Z0  R_C hC0 hC1 hC2) e2 (by decide) own_pd2 d5_36 rfl rfl rfl (fun T3 L3 v3 X3 hQ3 => ?_)
  obtain ⟨tN_3, kN_3, rfl, Nq3, Kc3, P3_0, P3_1⟩ := hQ3
  have N3 := Fr.app N0 Nq3
  have ne_aS_tN_3 : aS ≠ tN_3 := Nat.ne_of_lt (Nat.lt_of_lt_of_le E_0.lt P3_0)
  have ne_a2_tN_3 : a2 ≠ tN_3 := Nat.ne_of_lt (Nat.lt_of_lt_of_le R_C.lt P3_0)
  have ge_tN_3 : n0 ≤ tN_3 := Nat.le_trans Z0 P3_0
  have sz_tN_3 : h0.size ≤ tN_3 := Nat.le_trans K0.1 P3_0
  have K3 := K0.trans Kc3 all0
  have O3 := O0.keep Kc3 all0
  show gs T3 m 39 #[vr aS, vr a2, vi 0, vi 3, .val .null, .unset] [(.ref tN_3)]
  refine own_st (fun _ kS => XS.astore X3.here hx rfl (hb hby d5_39) rfl rfl (l' := #[vr aS, vr a2, vi 0, vi 3, .val .null, vr tN_3]) rfl kS) ?_
  refine oaloadN X3 hx hby d5_41 rfl rfl ?_
  refine oaload X3 hx hby d5_42 rfl rfl ?_
  refine oiloadN X3 hx hby d5_44 rfl ?_
  refine oS 1 X3 hx hZ hby hml hown (own_w hw 72 rfl) (own_w hw 73 rfl) (own_w hw 66 rfl) (own_w hw 74 rfl) (rm_cfal3 l Z a0 hw [] tN_3 kN_3 (nar .byte (c0.toInt8.toInt32)) (nar .byte (c1.toInt8.toInt32)) (nar .byte (c2.toInt8.toInt32)) T3.heap n0 (Nat.le_trans Z0 Kc3.1)  P3_1) rfl (by decide) own_pd3 d5_45 rfl rfl rfl (fun T4 L4 v4 X4 hQ4 => ?_)
  obtain ⟨rfl, Nq4, eq4⟩ := hQ4
  have N4 := Fr.app N3 Nq4
  show gs T4 m 48 #[vr aS, vr a2, vi 0, vi 3, .val .null, vr tN_3] [(.int 0), (.ref aS)]
  obtain ⟨T5, h5, X5, e5, W5, st5⟩ := putFN X4 hx hZ hown (own_w hw 75 rfl) Via.refl eq4 (F0c.keep Kc3 nin0) (E_0.keep Kc3) (Or.inr ⟨(own_w hw 76 rfl), rfl, hnm⟩) (own_w hw 46 rfl) (ty := .byte) (v' := (.int 0)) (by decide) rfl (by decide) (g := (mkF m 48 #[vr aS, vr a2, vi 0, vi 3, .val .null, vr tN_3] [(.int 0), (.ref aS)])) rfl rfl (hb hby d5_48)
  refine own_st st5 ?_
  have N5 := Fr.snoc X5 N4 g_0
  have K5 := K3.wr W5 (Or.inl (List.mem_of_getElem? (i := 0) rfl))
  have O5 := O3.wr W5 g_0
  have Fw5 := Fld.same W5 (F0c.keep Kc3 nin0)
  show gs T5 m 51 #[vr aS, vr a2, vi 0, vi 3, .val .null, vr tN_3] []
  refine oaloadN X5 hx hby d5_51 rfl rfl ?_
  refine oaload X5 hx hby d5_52 rfl rfl ?_
  show gs T5 m 54 #[vr aS, vr a2, vi 0, vi 3, .val .null, vr tN_3] [(.ref tN_3), (.ref aS)]
  obtain ⟨T6, h6, X6, e6, W6, st6⟩ := putF X5 hx hZ hown (host := "") (Or.inl (own_w hw 77 rfl)) Via.refl e5 (Fld.other W5 (F0v.keep Kc3 nin0) (Or.inr (slot_ne (Or.inr (own_w hw 78 rfl)) (Or.inr (own_w hw 76 rfl)) (by decide) (t := (.array .byte)) (t' := .byte) (by decide) (by decide)))) (Exa.wr W5 (E_0.keep Kc3)) (Or.inr ⟨(own_w hw 78 rfl), rfl, hnm⟩) (own_w hw 46 rfl) (ty := (.array .byte)) (by decide) rfl rfl (g := (mkF m 54 #[vr aS, vr a2, vi 0, vi 3, .val .null, vr tN_3] [(.ref tN_3), (.ref aS)])) rfl rfl (hb hby d5_54)
  refine own_st st6 ?_
  have N6 := Fr.snoc X6 N5 g_0
  have K6 := K5.wr W6 (Or.inl (List.mem_of_getElem? (i := 0) rfl))
  have O6 := O5.wr W6 g_0
  have Fw6 := Fld.same W6 (Fld.other W5 (F0v.keep Kc3 nin0) (Or.inr (slot_ne (Or.inr (own_w hw 78 rfl)) (Or.inr (own_w hw 76 rfl)) (by decide) (t := (.array .byte)) (t' := .byte) (by decide) (by decide))))
  show gs T6 m 57 #[vr aS, vr a2, vi 0, vi 3, .val .null, vr tN_3] []
  exact own_retV X6 hx hlk hret (hb hby d5_57) (by decide) (by decide) (by rw [e6]; exact ⟨tN_3, kN_3, ⟨rfl, N6, K6, (Exa.wr W6 (Exa.wr W5 (E_0.keep Kc3))), (Fld.other W6 Fw5 (Or.inr (slot_ne (Or.inr (own_w hw 76 rfl)) (Or.inr (own_w hw 78 rfl)) (by decide) (t := .byte) (t' := (.array .byte)) (by decide) (by decide)))), Fw6, ((P3_1.other W5 (Ne.symm ne_aS_tN_3)).other W6 (Ne.symm ne_aS_tN_3))⟩⟩)
theorem ef_init1_3 (m : MethodId) (x0 : Addr) (x1 : Addr) : entryFrame m #[(.ref x0), (.ref x1)] 2 = mkF m 0 #[.val (.ref x0), .val (.ref x1)] [] := by first | (simp [entryFrame, mkF, argsToLocals, Value.category]; done) | rfl
def Q_init1_3 (Z : State) (aS : Addr) (a2 : Addr) (kC : ClassId) (c0 : Int32) (c1 : Int32) (c2 : Int32) (zCS : Int32) (h0 : Heap) (n0 : Nat) (v : Option Value) (h : Heap) (L : List Loc) : Prop := ∃ tN : Addr, ∃ kN : ClassId, v = none ∧ Fr n0 L ∧ Keep h0 h [aS] ∧ ek21 Z h aS ∧ fk16 Z h aS (.int 0) ∧ fk17 Z h aS (.ref tN) ∧ Arv Z h tN kN .byte (3 : Int32) [(.int (nar .byte (c0.toInt8.toInt32))), (.int (nar .byte (c1.toInt8.toInt32))), (.int (nar .byte (c2.toInt8.toInt32)))] (.int 0)
theorem rm_init1_3 (l : Launch) (Z : State) (a0 : Array Value) (hw : HW a0 Z) (ws : List Jvm.Cond) (aS : Addr) (a2 : Addr) (kC : ClassId) (c0 : Int32) (c1 : Int32) (c2 : Int32) (zCS : Int32) (h0 : Heap) (n0 : Nat) (Z0 : n0 ≤ h0.size) (O0 : Old Z n0 h0) (E_0 : ek21 Z h0 aS) (g_0 : n0 ≤ aS) (F0v : fk17 Z h0 aS .null) (F0c : fk16 Z h0 aS (.int 0)) (ne02 : aS ≠ a2) (R_C : Arv Z h0 a2 kC .char (3 : Int32) [(.int c0), (.int c1), (.int c2)] (.int 0)) (hC0 : ¬ ((255 : Int32) < c0)) (hC1 : ¬ ((255 : Int32) < c1)) (hC2 : ¬ ((255 : Int32) < c2)) (S_CS : sk0 Z Z.heap (.int zCS)) (P_CS : ¬ zCS = 0) :
    M4 l ws (rmk 3 1 3 52) Z #[(.ref aS), (.ref a2)] h0 (Q_init1_3 Z aS a2 kC c0 c1 c2 zCS h0 n0) := by
  refine own_go "java/lang/String" rfl (plainFor_of_name pn_4) (fun m => ef_init1_3 m aS a2) (fun p e s m below meth c s₁ hx hby hml hown hnm hlk hret hZ X0 e0 => ?_)
  have N0 := Fr.nil n0
  have K0 := Keep.refl h0 [aS]
  show gs s₁ m 0 #[vr aS, vr a2] []
  refine oaloadN X0 hx hby d4_0 rfl rfl ?_
  refine oaloadN X0 hx hby d4_1 rfl rfl ?_
  refine oiconst X0 hx hby d4_2 ?_
  refine oaloadN X0 hx hby d4_3 rfl rfl ?_
  show gs s₁ m 4 #[vr aS, vr a2] [(.ref a2), (.int 0), (.ref a2), (.ref aS)]
  obtain ⟨cl1, Ar1, qa1, qs1, qn1, qh1, qg1⟩ := id R_C
  refine own_st (fun _ kS => X0.arraylength hx (by rw [e0]; exact Ar1.1) (State.isArrayOf_alike hZ.alike Ar1.2.1) (g := (mkF m 4 #[vr aS, vr a2] [(.ref a2), (.int 0), (.ref a2), (.ref aS)])) rfl rfl (hb hby d4_4) _ kS) ?_
  rw [len_of qs1 qn1]
  show gs s₁ m 5 #[vr aS, vr a2] [(.int 3), (.int 0), (.ref a2), (.ref aS)]
  refine own_st (fun _ kS => XS.aconstNull X0.here hx rfl (hb hby d4_5) kS) ?_
  show gs s₁ m 6 #[vr aS, vr a2] [.null, (.int 3), (.int 0), (.ref a2), (.ref aS)]
  refine oN 0 X0 hx hZ hby hml hown (own_w hw 56 rfl) (own_w hw 57 rfl) (own_w hw 47 rfl) (own_w hw 59 rfl) (rm_init4_3 l Z a0 hw [] aS a2 kC c0 c1 c2 zCS h0 n0 Z0 O0 E_0 g_0 F0v F0c ne02 R_C hC0 hC1 hC2 S_CS P_CS) e0 rfl (by decide) own_pd0 d4_6 rfl rfl rfl (fun T2 L2 v2 X2 hQ2 => ?_)
  obtain ⟨tN_2, kN_2, rfl, Nq2, Kc2, P2_0, P2_1, P2_2, P2_3⟩ := hQ2
  have N2 := Fr.app N0 Nq2
  have K2 := K0.trans Kc2 (allS (Or.inl (List.mem_of_getElem? (i := 0) rfl)) all0)
  have O2 := O0.keep Kc2 (allS g_0 all0)
  show gs T2 m 9 #[vr aS, vr a2] []
  exact own_retV X2 hx hlk hret (hb hby d4_9) (by decide) (by decide) (show Q_init1_3 Z aS a2 kC c0 c1 c2 zCS h0 n0 _ _ _ from ⟨tN_2, kN_2, ⟨rfl, N2, K2, P2_0, P2_1, P2_2, P2_3⟩⟩)
theorem d3_0 : dk B5 0 (.lload_n 0) 1 := by decide +kernel
theorem d3_1 : dk B5 1 (.bipush 8) 2 := by decide +kernel
theorem d3_3 : dk B5 3 (.iload_n 2) 1 := by decide +kernel
theorem d3_4 : dk B5 4 (.imul) 1 := by decide +kernel
theorem d3_5 : dk B5 5 (.lushr) 1 := by decide +kernel
theorem d3_6 : dk B5 6 (.ldc2_w 55) 3 := by decide +kernel
theorem d3_9 : dk B5 9 (.land) 1 := by decide +kernel
theorem d3_10 : dk B5 10 (.l2i) 1 := by decide +kernel
theorem d3_11 : dk B5 11 (.i2c) 1 := by decide +kernel
theorem d3_12 : dk B5 12 (.ireturn) 1 := by decide +kernel
theorem pn_3 : plainName "com/example/cartouche/cartouche/crosswalks/DcValueEqualsPinLaw" = true := by first | (simp [plainName, overriddenIn]; done) | decide +kernel
theorem ef_ch (m : MethodId) (x0 : Int64) (x1 : Int32) : entryFrame m #[(.long x0), (.int x1)] 3 = mkF m 0 #[.val (.long x0), .second, .val (.int x1)] [] := by first | (simp [entryFrame, mkF, argsToLocals, Value.category]; done) | rfl
def Q_ch (Z : State) (q1 : Int64) (i1 : Int32) (h0 : Heap) (n0 : Nat) (v : Option Value) (h : Heap) (L : List Loc) : Prop := v = some (.int (own_ch q1 i1)) ∧ Fr n0 L ∧ h = h0
theorem rm_ch (l : Launch) (Z : State) (a0 : Array Value) (hw : HW a0 Z) (ws : List Jvm.Cond) (q1 : Int64) (i1 : Int32) (h0 : Heap) (n0 : Nat) (Z0 : n0 ≤ h0.size)  :
    M5 l ws (rmk 0 0 0 0) Z #[(.long q1), (.int i1)] h0 (Q_ch Z q1 i1 h0 n0) := by
  refine own_go "com/example/cartouche/cartouche/crosswalks/DcValueEqualsPinLaw" rfl (plainFor_of_name pn_3) (fun m => ef_ch m q1 i1) (fun p e s m below meth c s₁ hx hby hml hown hnm hlk hret hZ X0 e0 => ?_)
  have N0 := Fr.nil n0
  show gs s₁ m 0 #[.val (.long q1), .second, vi i1] []
  refine own_st (fun _ kS => XT.lloadN X0.here hx rfl (hb hby d3_0) rfl kS) ?_
  refine own_st (fun _ kS => XS.bipush X0.here hx rfl (hb hby d3_1) kS) ?_
  refine oiloadN X0 hx hby d3_3 rfl ?_
  refine own_st (fun _ kS => XS.imul X0.here hx rfl (hb hby d3_4) rfl kS) ?_
  refine own_st (fun _ kS => XT.lushr X0.here hx rfl (hb hby d3_5) rfl kS) ?_
  show gs s₁ m 6 #[.val (.long q1), .second, vi i1] [(.long (XT.ushrL q1 ((8 : Int32) * i1)))]
  refine own_st (fun _ kS => X0.ldc2Long hx hown (mvT hZ (own_w hw 52 rfl)) (g := (mkF m 6 #[.val (.long q1), .second, vi i1] [(.long (XT.ushrL q1 ((8 : Int32) * i1)))])) rfl (hb hby d3_6) _ kS) ?_
  show gs s₁ m 9 #[.val (.long q1), .second, vi i1] [(.long (255 : Int64)), (.long (XT.ushrL q1 ((8 : Int32) * i1)))]
  refine own_st (fun _ kS => XT.land X0.here hx rfl (hb hby d3_9) rfl kS) ?_
  show gs s₁ m 10 #[.val (.long q1), .second, vi i1] [(.long ((XT.ushrL q1 ((8 : Int32) * i1)) &&& (255 : Int64)))]
  refine own_st (fun _ kS => XT.l2i X0.here hx rfl (hb hby d3_10) rfl kS) ?_
  refine own_st (fun _ kS => XT.i2c X0.here hx rfl (hb hby d3_11) rfl kS) ?_
  show gs s₁ m 12 #[.val (.long q1), .second, vi i1] [(.int ((((XT.ushrL q1 ((8 : Int32) * i1)) &&& (255 : Int64)).toInt32).toUInt32.toUInt16.toUInt32.toInt32))]
  exact own_retN X0 hx hlk (t := .char) hret (by simp) (hb hby d3_12) (by decide) (by decide) (v' := (own_ch q1 i1)) rfl (by rw [e0]; exact ⟨(by simp []), N0, rfl⟩)
theorem d2_0 : dk B6 0 (.iload_n 0) 1 := by decide +kernel
theorem d2_1 : dk B6 1 (.ifCond .ne 14) 3 := by decide +kernel
theorem d2_4 : dk B6 4 (.new 57) 3 := by decide +kernel
theorem d2_7 : dk B6 7 (.dup) 1 := by decide +kernel
theorem d2_8 : dk B6 8 (.iconst 0) 1 := by decide +kernel
theorem d2_9 : dk B6 9 (.newarray .char) 2 := by decide +kernel
theorem d2_11 : dk B6 11 (.invokespecial 59) 3 := by decide +kernel
theorem d2_14 : dk B6 14 (.areturn) 1 := by decide +kernel
theorem d2_15 : dk B6 15 (.iload_n 0) 1 := by decide +kernel
theorem d2_16 : dk B6 16 (.iconst 1) 1 := by decide +kernel
theorem d2_17 : dk B6 17 (.if_icmp .ne 22) 3 := by decide +kernel
theorem d2_20 : dk B6 20 (.new 57) 3 := by decide +kernel
theorem d2_23 : dk B6 23 (.dup) 1 := by decide +kernel
theorem d2_24 : dk B6 24 (.iconst 1) 1 := by decide +kernel
theorem d2_25 : dk B6 25 (.newarray .char) 2 := by decide +kernel
theorem d2_27 : dk B6 27 (.dup) 1 := by decide +kernel
theorem d2_28 : dk B6 28 (.iconst 0) 1 := by decide +kernel
theorem d2_29 : dk B6 29 (.lload_n 1) 1 := by decide +kernel
theorem d2_30 : dk B6 30 (.iconst 0) 1 := by decide +kernel
theorem d2_31 : dk B6 31 (.invokestatic 62) 3 := by decide +kernel
theorem d2_34 : dk B6 34 (.castore) 1 := by decide +kernel
theorem d2_35 : dk B6 35 (.invokespecial 59) 3 := by decide +kernel
theorem d2_38 : dk B6 38 (.areturn) 1 := by decide +kernel
theorem d2_39 : dk B6 39 (.iload_n 0) 1 := by decide +kernel
theorem d2_40 : dk B6 40 (.iconst 2) 1 := by decide +kernel
theorem d2_41 : dk B6 41 (.if_icmp .ne 30) 3 := by decide +kernel
theorem d2_44 : dk B6 44 (.new 57) 3 := by decide +kernel
theorem d2_47 : dk B6 47 (.dup) 1 := by decide +kernel
theorem d2_48 : dk B6 48 (.iconst 2) 1 := by decide +kernel
theorem d2_49 : dk B6 49 (.newarray .char) 2 := by decide +kernel
theorem d2_51 : dk B6 51 (.dup) 1 := by decide +kernel
theorem d2_52 : dk B6 52 (.iconst 0) 1 := by decide +kernel
theorem d2_53 : dk B6 53 (.lload_n 1) 1 := by decide +kernel
theorem d2_54 : dk B6 54 (.iconst 0) 1 := by decide +kernel
theorem d2_55 : dk B6 55 (.invokestatic 62) 3 := by decide +kernel
theorem d2_58 : dk B6 58 (.castore) 1 := by decide +kernel
theorem d2_59 : dk B6 59 (.dup) 1 := by decide +kernel
theorem d2_60 : dk B6 60 (.iconst 1) 1 := by decide +kernel
theorem d2_61 : dk B6 61 (.lload_n 1) 1 := by decide +kernel
theorem d2_62 : dk B6 62 (.iconst 1) 1 := by decide +kernel
theorem d2_63 : dk B6 63 (.invokestatic 62) 3 := by decide +kernel
theorem d2_66 : dk B6 66 (.castore) 1 := by decide +kernel
theorem d2_67 : dk B6 67 (.invokespecial 59) 3 := by decide +kernel
theorem d2_70 : dk B6 70 (.areturn) 1 := by decide +kernel
theorem d2_71 : dk B6 71 (.new 57) 3 := by decide +kernel
theorem d2_74 : dk B6 74 (.dup) 1 := by decide +kernel
theorem d2_75 : dk B6 75 (.iconst 3) 1 := by decide +kernel
theorem d2_76 : dk B6 76 (.newarray .char) 2 := by decide +kernel
theorem d2_78 : dk B6 78 (.dup) 1 := by decide +kernel
theorem d2_79 : dk B6 79 (.iconst 0) 1 := by decide +kernel
theorem d2_80 : dk B6 80 (.lload_n 1) 1 := by decide +kernel
theorem d2_81 : dk B6 81 (.iconst 0) 1 := by decide +kernel
theorem d2_82 : dk B6 82 (.invokestatic 62) 3 := by decide +kernel
theorem d2_85 : dk B6 85 (.castore) 1 := by decide +kernel
theorem d2_86 : dk B6 86 (.dup) 1 := by decide +kernel
theorem d2_87 : dk B6 87 (.iconst 1) 1 := by decide +kernel
theorem d2_88 : dk B6 88 (.lload_n 1) 1 := by decide +kernel
theorem d2_89 : dk B6 89 (.iconst 1) 1 := by decide +kernel
theorem d2_90 : dk B6 90 (.invokestatic 62) 3 := by decide +kernel
theorem d2_93 : dk B6 93 (.castore) 1 := by decide +kernel
theorem d2_94 : dk B6 94 (.dup) 1 := by decide +kernel
theorem d2_95 : dk B6 95 (.iconst 2) 1 := by decide +kernel
theorem d2_96 : dk B6 96 (.lload_n 1) 1 := by decide +kernel
theorem d2_97 : dk B6 97 (.iconst 2) 1 := by decide +kernel
theorem d2_98 : dk B6 98 (.invokestatic 62) 3 := by decide +kernel
theorem d2_101 : dk B6 101 (.castore) 1 := by decide +kernel
theorem d2_102 : dk B6 102 (.invokespecial 59) 3 := by decide +kernel
theorem d2_105 : dk B6 105 (.areturn) 1 := by decide +kernel
theorem pn_2 : plainName "com/example/cartouche/cartouche/crosswalks/DcValueEqualsPinLaw" = true := by first | (simp [plainName, overriddenIn]; done) | decide +kernel
theorem own_pd4 : parseMethodDescriptor "([C)V" = some ⟨[(.array .char)], none⟩ := by decide +kernel
theorem ef_make0 (m : MethodId) (x0 : Int64) : entryFrame m #[(.int 0), (.long x0)] 3 = mkF m 0 #[.val (.int 0), .val (.long x0), .second] [] := by first | (simp [entryFrame, mkF, argsToLocals, Value.category]; done) | rfl
def Q_make0 (Z : State) (q1 : Int64) (h0 : Heap) (n0 : Nat) (v : Option Value) (h : Heap) (L : List Loc) : Prop := ∃ bS : Addr, ∃ tN : Addr, ∃ kN : ClassId, v = some (.ref bS) ∧ Fr n0 L ∧ Keep h0 h [] ∧ h0.size ≤ bS ∧ ek21 Z h bS ∧ fk16 Z h bS (.int 0) ∧ fk17 Z h bS (.ref tN) ∧ Arv Z h tN kN .byte (0 : Int32) [] (.int 0)
theorem rm_make0 (l : Launch) (Z : State) (a0 : Array Value) (hw : HW a0 Z) (ws : List Jvm.Cond) (q1 : Int64) (h0 : Heap) (n0 : Nat) (Z0 : n0 ≤ h0.size)  :
    MetFree l (⟨"com/example/cartouche/cartouche/crosswalks/DcValueEqualsPinLaw", "make", "(IJ)Ljava/lang/String;"⟩ : MethodName) (head1 (Jvm.Cond.code (⟨"com/example/cartouche/cartouche/crosswalks/DcValueEqualsPinLaw", "make", "(IJ)Ljava/lang/String;"⟩ : MethodName) method_4_code 3 (some (.object "java/lang/String")) :: ws) (rmk 3 4 8 43)) (fun a U => a = #[(.int 0), (.long q1)] ∧ Z.Warmed39 U.vm ∧ U.heap = h0 ∧ CHv Z EL0 U.vm h0) (fun _ _ _ _ _ => True) (fun _ U o U' => ∃ v L, o = .returned v ∧ Q_make0 Z q1 h0 n0 v U'.heap L ∧ CHr Z EL0 U.vm U.heap U'.vm U'.heap ∧ ReturnedEndW U o U' L (rmk 3 4 8 43).cells (rmk 3 4 8 43).slots) := by
  refine MetFree.of_bodySF (plainFor_of_name pn_2) hisR ?_
  intro p e s m args below meth c s₁ Bd hml0 hP hK
  obtain ⟨rfl, hZ, hh, hCH⟩ := hP
  have hx := Bd.exec
  have hby := Bd.bytes
  have hml : c.maxLocals = 3 := hml0
  have hown : s.vm.findClass "com/example/cartouche/cartouche/crosswalks/DcValueEqualsPinLaw" = some m.cls := findClass_of_methodNamed Bd.named
  have hnm := (name_of_methodNamed Bd.named Bd.method).1
  have hlk := Bd.notSynchronized
  have hret := Bd.returns
  have X0 : Stand p l e (rmk 3 4 8 43) (s.setVm s.vm) m #[(.int 0), (.long q1)] below meth c s₁ [] 0 0 := Stand.of_body Bd
  have hS : s.Since s.vm 0 := (State.WarmedH.refl s).since 0
  have e0 : s₁.heap = h0 := by rw [← hh, Bd.state]; rfl
  have N0 := Fr.nil n0
  have K0 := Keep.refl h0 []
  have hEL : EW Z a0 EL0 := own_ELw hw
  have CR0 : CHr Z EL0 s.vm s.heap s.vm h0 := by rw [hh]; exact CHr.refl hCH
  refine own_inH (rmk 3 4 8 43).cells (rmk 3 4 8 43).slots (Q_make0 Z q1 h0 n0) (ef_make0 m q1) ?_
  show gs s₁ m 0 #[vi 0, .val (.long q1), .second] []
  refine oiloadN X0 hx hby d2_0 rfl ?_
  refine own_st (fun _ kS => XS.ifNo X0.here hx rfl (hb hby d2_1) rfl ((if0 _ _).trans (teq (by decide : (0 : Int32) = (0 : Int32))).2) kS) ?_
  show gs s₁ m 4 #[vi 0, .val (.long q1), .second] []
  obtain ⟨T1, h1, X1, e1, E1, A1, D1, -, st1⟩ := newO X0 hx hZ hown (own_w hw 45 rfl) (own_w hw 46 rfl) (own_w hw 47 rfl) e0 (g := (mkF m 4 #[vi 0, .val (.long q1), .second] [])) rfl (hb hby d2_4) (by decide) (by decide)
  obtain ⟨b1, g1⟩ : ∃ z, z = h0.size := ⟨_, rfl⟩
  have ge_b1 : n0 ≤ b1 := Nat.le_trans Z0 (Nat.le_of_eq g1.symm)
  have sz_b1 : h0.size ≤ b1 := Nat.le_trans K0.1 (Nat.le_of_eq g1.symm)
  rw [← g1] at A1 D1 st1
  have CR1 := CR0.trans (CHr.ext E1 hCH)
  have CH1 := CHv.ext E1 hCH
  have K1 := K0.ext E1
  have F1_coder : fk16 Z h1 b1 (.int 0) := D1 (Or.inr (own_w hw 76 rfl)) (ty := .byte) (by decide)
  have F1_value : fk17 Z h1 b1 .null := D1 (Or.inr (own_w hw 78 rfl)) (ty := (.array .byte)) (by decide)
  refine own_st st1 ?_
  show gs T1 m 7 #[vi 0, .val (.long q1), .second] [(.ref b1)]
  refine own_st (fun _ kS => XS.dup X1.here hx rfl (hb hby d2_7) rfl rfl kS) ?_
  refine oiconst X1 hx hby d2_8 ?_
  show gs T1 m 9 #[vi 0, .val (.long q1), .second] [(.int 0), (.ref b1), (.ref b1)]
  obtain ⟨T2, h2, k2, X2, e2, E2, A2, st2⟩ := newP X1 hx hZ (own_w hw 48 rfl) e1 (g := (mkF m 9 #[vi 0, .val (.long q1), .second] [(.int 0), (.ref b1), (.ref b1)])) rfl (hb hby d2_9) rfl (by decide) (cap := 0) (by decide) (by decide) (by decide) (by decide)
  obtain ⟨b2, g2⟩ : ∃ z, z = h1.size := ⟨_, rfl⟩
  have ne_b1_b2 : b1 ≠ b2 := Nat.ne_of_lt (Nat.lt_of_lt_of_eq A1.lt g2.symm)
  have ge_b2 : n0 ≤ b2 := Nat.le_trans (Nat.le_trans Z0 E1.1) (Nat.le_of_eq g2.symm)
  have sz_b2 : h0.size ≤ b2 := Nat.le_trans K1.1 (Nat.le_of_eq g2.symm)
  rw [← g2] at A2 st2
  have CR2 := CR1.trans (CHr.ext E2 CH1)
  have CH2 := CHv.ext E2 CH1
  have K2 := K1.ext E2
  have R2 : Arv Z h2 b2 k2 .char (0 : Int32) [] (.int 0) := (Arv.new A2 (by decide)).pad (pad_rep [] (.int 0) 0)
  refine own_st st2 ?_
  show gs T2 m 11 #[vi 0, .val (.long q1), .second] [(.ref b2), (.ref b1), (.ref b1)]
  obtain ⟨_, _, ⟨T3, L3, k3, n3⟩, -, X3, sv3, sg3, ⟨Lc3, hQ3, l3, y3, z3, cr3⟩, st3⟩ := X2.specialBackS hx (y := (⟨"java/lang/String", "<init>", "([C)V"⟩ : MethodName)) rfl hown (mvT hZ (own_w hw 53 rfl)) (mvT hZ (own_w hw 54 rfl)) (mvT hZ (own_w hw 55 rfl)) (by decide) (backOfSH (W := 1) (rm_init1_0 l Z a0 hw [] b1 b2 k2 h2 n0 (Nat.le_trans (Nat.le_trans Z0 E1.1) E2.1)  (Exa.ext E2 A1) ge_b1 (Fld.ext E2 F1_value) (Fld.ext E2 F1_coder) R2) hZ (own_w hw 55 rfl) (own_w hw 47 rfl) (by decide) (by decide) hEL CH2) (g := (mkF m 11 #[vi 0, .val (.long q1), .second] [(.ref b2), (.ref b1), (.ref b1)])) rfl (by rw [hml]; rfl) (Steps.refl _) (a := b1) (argsL := [(.ref b2)]) (rest := [(.ref b1)]) (lenOf own_pd4 rfl) rfl (by show 2 * 0 + _ ≤ _; exact Nat.le_of_eq rfl) (hb hby d2_11) (fun _ _ => ⟨rfl, e2, (by decide : 2 + 2 ≤ _), (by decide : 4 + 4 ≤ _)⟩)
  dsimp only [Pt.U, Pt.locs, Pt.cells, Pt.slots] at X3 l3 y3 z3 st3 hQ3 sv3 sg3 cr3
  subst l3 y3 z3
  obtain ⟨X3, hS, hZ, hown⟩ := rebS hS (own_le e2 (Nat.le_trans (Nat.le_trans (Nat.zero_le _) E1.1) E2.1)) X3 sv3 sg3 hZ hown
  obtain ⟨tN_3, kN_3, rfl, Nq3, Kc3, P3_0, P3_1, P3_2, P3_3⟩ := hQ3
  have N3 := Fr.app N0 Nq3
  have K3 := K2.trans Kc3 (allS (Or.inr sz_b1) all0)
  have ne_tN_3_b1 : tN_3 ≠ b1 := own_arne P3_3 P3_0 (own_w hw 46 rfl)
  have CR3 := CR2.trans cr3
  have CH3 := cr3.1
  refine own_tr st3 ?_
  show gs T3 m 14 #[vi 0, .val (.long q1), .second] [(.ref b1)]
  exact own_retAH hZ hEL (CR3) hS (Nat.le_refl _) X3 hx hlk hret rfl rfl (hb hby d2_14) (by decide) (by decide) (show Q_make0 Z q1 h0 n0 _ _ _ from ⟨b1, tN_3, kN_3, ⟨rfl, N3, K3, sz_b1, P3_0, P3_1, P3_2, P3_3⟩⟩)
theorem own_pd5 : parseMethodDescriptor "(JI)C" = some ⟨[.long, .int], some .char⟩ := by decide +kernel
theorem ef_make1 (m : MethodId) (x0 : Int64) : entryFrame m #[(.int 1), (.long x0)] 3 = mkF m 0 #[.val (.int 1), .val (.long x0), .second] [] := by first | (simp [entryFrame, mkF, argsToLocals, Value.category]; done) | rfl
def Q_make1 (Z : State) (q1 : Int64) (zCS : Int32) (h0 : Heap) (n0 : Nat) (v : Option Value) (h : Heap) (L : List Loc) : Prop := ∃ bS : Addr, ∃ tN : Addr, ∃ kN : ClassId, v = some (.ref bS) ∧ Fr n0 L ∧ Keep h0 h [] ∧ h0.size ≤ bS ∧ ek21 Z h bS ∧ fk16 Z h bS (.int 0) ∧ fk17 Z h bS (.ref tN) ∧ Arv Z h tN kN .byte (1 : Int32) [(.int (nar .byte ((own_ch q1 (0 : Int32)).toInt8.toInt32)))] (.int 0)
theorem rm_make1 (l : Launch) (Z : State) (a0 : Array Value) (hw : HW a0 Z) (ws : List Jvm.Cond) (q1 : Int64) (zCS : Int32) (h0 : Heap) (n0 : Nat) (Z0 : n0 ≤ h0.size) (O0 : Old Z n0 h0) (S_CS : sk0 Z Z.heap (.int zCS)) (P_CS : ¬ zCS = 0) :
    M6 l ws (rmk 4 3 6 66) Z #[(.int 1), (.long q1)] h0 (Q_make1 Z q1 zCS h0 n0) := by
  refine own_go "com/example/cartouche/cartouche/crosswalks/DcValueEqualsPinLaw" rfl (plainFor_of_name pn_2) (fun m => ef_make1 m q1) (fun p e s m below meth c s₁ hx hby hml hown hnm hlk hret hZ X0 e0 => ?_)
  have N0 := Fr.nil n0
  have K0 := Keep.refl h0 []
  show gs s₁ m 0 #[vi 1, .val (.long q1), .second] []
  refine oiloadN X0 hx hby d2_0 rfl ?_
  refine own_st (fun _ kS => XS.ifYes X0.here hx rfl (pc0 := 1) (pc' := 15) rfl (hb hby d2_1) rfl ((if0 _ _).trans (feq (by decide : ¬ ((1 : Int32) = (0 : Int32)))).2) (by decide) (by decide) kS) ?_
  show gs s₁ m 15 #[vi 1, .val (.long q1), .second] []
  refine oiloadN X0 hx hby d2_15 rfl ?_
  refine oiconst X0 hx hby d2_16 ?_
  refine own_st (fun _ kS => XS.icmpNo X0.here hx rfl (hb hby d2_17) rfl (teq (by decide : (1 : Int32) = (1 : Int32))).2 kS) ?_
  show gs s₁ m 20 #[vi 1, .val (.long q1), .second] []
  obtain ⟨T1, h1, X1, e1, E1, A1, D1, -, st1⟩ := newO X0 hx hZ hown (own_w hw 45 rfl) (own_w hw 46 rfl) (own_w hw 47 rfl) e0 (g := (mkF m 20 #[vi 1, .val (.long q1), .second] [])) rfl (hb hby d2_20) (by decide) (by decide)
  obtain ⟨b1, g1⟩ : ∃ z, z = h0.size := ⟨_, rfl⟩
  have ge_b1 : n0 ≤ b1 := Nat.le_trans Z0 (Nat.le_of_eq g1.symm)
  have sz_b1 : h0.size ≤ b1 := Nat.le_trans K0.1 (Nat.le_of_eq g1.symm)
  rw [← g1] at A1 D1 st1
  have K1 := K0.ext E1
  have O1 := O0.ext E1
  have F1_coder : fk16 Z h1 b1 (.int 0) := D1 (Or.inr (own_w hw 76 rfl)) (ty := .byte) (by decide)
  have F1_value : fk17 Z h1 b1 .null := D1 (Or.inr (own_w hw 78 rfl)) (ty := (.array .byte)) (by decide)
  refine own_st st1 ?_
  show gs T1 m 23 #[vi 1, .val (.long q1), .second] [(.ref b1)]
  refine own_st (fun _ kS => XS.dup X1.here hx rfl (hb hby d2_23) rfl rfl kS) ?_
  refine oiconst X1 hx hby d2_24 ?_
  show gs T1 m 25 #[vi 1, .val (.long q1), .second] [(.int 1), (.ref b1), (.ref b1)]
  obtain ⟨T2, h2, k2, X2, e2, E2, A2, st2⟩ := newP X1 hx hZ (own_w hw 48 rfl) e1 (g := (mkF m 25 #[vi 1, .val (.long q1), .second] [(.int 1), (.ref b1), (.ref b1)])) rfl (hb hby d2_25) rfl (by decide) (cap := 1) (by decide) (by decide) (by decide) (by decide)
  obtain ⟨b2, g2⟩ : ∃ z, z = h1.size := ⟨_, rfl⟩
  have ne_b1_b2 : b1 ≠ b2 := Nat.ne_of_lt (Nat.lt_of_lt_of_eq A1.lt g2.symm)
  have ge_b2 : n0 ≤ b2 := Nat.le_trans (Nat.le_trans Z0 E1.1) (Nat.le_of_eq g2.symm)
  have sz_b2 : h0.size ≤ b2 := Nat.le_trans K1.1 (Nat.le_of_eq g2.symm)
  rw [← g2] at A2 st2
  have K2 := K1.ext E2
  have O2 := O1.ext E2
  have R2 : Arv Z h2 b2 k2 .char (1 : Int32) [(.int 0)] (.int 0) := (Arv.new A2 (by decide)).pad (pad_rep [] (.int 0) 1)
  refine own_st st2 ?_
  show gs T2 m 27 #[vi 1, .val (.long q1), .second] [(.ref b2), (.ref b1), (.ref b1)]
  refine own_st (fun _ kS => XS.dup X2.here hx rfl (hb hby d2_27) rfl rfl kS) ?_
  refine oiconst X2 hx hby d2_28 ?_
  refine own_st (fun _ kS => XT.lloadN X2.here hx rfl (hb hby d2_29) rfl kS) ?_
  refine oiconst X2 hx hby d2_30 ?_
  refine oS 5 X2 hx hZ hby hml hown (own_w hw 49 rfl) (own_w hw 50 rfl) (own_w hw 6 rfl) (own_w hw 51 rfl) (rm_ch l Z a0 hw [] q1 (0 : Int32) h2 n0 (Nat.le_trans (Nat.le_trans Z0 E1.1) E2.1)  ) e2 (by decide) own_pd5 d2_31 rfl rfl rfl (fun T3 L3 v3 X3 hQ3 => ?_)
  obtain ⟨rfl, Nq3, eq3⟩ := hQ3
  have N3 := Fr.app N0 Nq3
  show gs T3 m 34 #[vi 1, .val (.long q1), .second] [(.int (own_ch q1 (0 : Int32))), (.int 0), (.ref b2), (.ref b2), (.ref b1), (.ref b1)]
  obtain ⟨cl4, Ar4, qa4, qs4, qn4, qh4, qg4⟩ := id R2
  obtain ⟨T4, h4, X4, e4, W4, st4⟩ := stC X3 hx hZ eq3 Ar4 (j := (0 : Int32)) (inb_of qs4 ⟨by decide, by decide⟩) (g := (mkF m 34 #[vi 1, .val (.long q1), .second] [(.int (own_ch q1 (0 : Int32))), (.int 0), (.ref b2), (.ref b2), (.ref b1), (.ref b1)])) rfl rfl (hb hby d2_34)
  have N4 := Fr.snoc X4 N3 ge_b2
  have K4 := K2.wr W4 (Or.inr sz_b2)
  have O4 := O2.wr W4 ge_b2
  have R4 : Arv Z h4 b2 k2 .char (1 : Int32) [(.int (nar .char (own_ch q1 (0 : Int32))))] (.int 0) := Arv.set Ar4 qa4 qs4 qn4 qh4 qg4 (fits_nar_char _) W4 0 rfl (Nat.le_of_ble_eq_true rfl)
  refine own_st st4 ?_
  show gs T4 m 35 #[vi 1, .val (.long q1), .second] [(.ref b2), (.ref b1), (.ref b1)]
  have RP : Arv Z h4 b2 k2 .char (1 : Int32) [(.int (own_ch q1 (0 : Int32)))] (.int 0) := by
    have z := R4
    rw [own_nch q1 0] at z
    exact z
  refine oN 1 X4 hx hZ hby hml hown (own_w hw 53 rfl) (own_w hw 54 rfl) (own_w hw 47 rfl) (own_w hw 55 rfl) (rm_init1_1 l Z a0 hw [] b1 b2 k2 (own_ch q1 (0 : Int32)) zCS h4 n0 (Nat.le_trans (Nat.le_trans (Nat.le_trans Z0 E1.1) E2.1) (Keep.of_wr W4).1) O4 (Exa.wr W4 (Exa.ext E2 A1)) ge_b1 (Fld.other W4 (Fld.ext E2 F1_value) (Or.inl ne_b1_b2)) (Fld.other W4 (Fld.ext E2 F1_coder) (Or.inl ne_b1_b2)) ne_b1_b2 RP (own_chb _ _) S_CS P_CS) e4 rfl (by decide) own_pd4 d2_35 rfl rfl rfl (fun T5 L5 v5 X5 hQ5 => ?_)
  obtain ⟨tN_5, kN_5, rfl, Nq5, Kc5, P5_0, P5_1, P5_2, P5_3⟩ := hQ5
  have N5 := Fr.app N4 Nq5
  have K5 := K4.trans Kc5 (allS (Or.inr sz_b1) all0)
  have O5 := O4.keep Kc5 (allS ge_b1 all0)
  show gs T5 m 38 #[vi 1, .val (.long q1), .second] [(.ref b1)]
  exact own_retA X5 hx hlk hret rfl rfl (hb hby d2_38) (by decide) (by decide) (show Q_make1 Z q1 zCS h0 n0 _ _ _ from ⟨b1, tN_5, kN_5, ⟨rfl, N5, K5, sz_b1, P5_0, P5_1, P5_2, P5_3⟩⟩)
theorem ef_make2 (m : MethodId) (x0 : Int64) : entryFrame m #[(.int 2), (.long x0)] 3 = mkF m 0 #[.val (.int 2), .val (.long x0), .second] [] := by first | (simp [entryFrame, mkF, argsToLocals, Value.category]; done) | rfl
def Q_make2 (Z : State) (q1 : Int64) (zCS : Int32) (h0 : Heap) (n0 : Nat) (v : Option Value) (h : Heap) (L : List Loc) : Prop := ∃ bS : Addr, ∃ tN : Addr, ∃ kN : ClassId, v = some (.ref bS) ∧ Fr n0 L ∧ Keep h0 h [] ∧ h0.size ≤ bS ∧ ek21 Z h bS ∧ fk16 Z h bS (.int 0) ∧ fk17 Z h bS (.ref tN) ∧ Arv Z h tN kN .byte (2 : Int32) [(.int (nar .byte ((own_ch q1 (0 : Int32)).toInt8.toInt32))), (.int (nar .byte ((own_ch q1 (1 : Int32)).toInt8.toInt32)))] (.int 0)
theorem rm_make2 (l : Launch) (Z : State) (a0 : Array Value) (hw : HW a0 Z) (ws : List Jvm.Cond) (q1 : Int64) (zCS : Int32) (h0 : Heap) (n0 : Nat) (Z0 : n0 ≤ h0.size) (O0 : Old Z n0 h0) (S_CS : sk0 Z Z.heap (.int zCS)) (P_CS : ¬ zCS = 0) :
    M6 l ws (rmk 4 3 8 66) Z #[(.int 2), (.long q1)] h0 (Q_make2 Z q1 zCS h0 n0) := by
  refine own_go "com/example/cartouche/cartouche/crosswalks/DcValueEqualsPinLaw" rfl (plainFor_of_name pn_2) (fun m => ef_make2 m q1) (fun p e s m below meth c s₁ hx hby hml hown hnm hlk hret hZ X0 e0 => ?_)
  have N0 := Fr.nil n0
  have K0 := Keep.refl h0 []
  show gs s₁ m 0 #[vi 2, .val (.long q1), .second] []
  refine oiloadN X0 hx hby d2_0 rfl ?_
  refine own_st (fun _ kS => XS.ifYes X0.here hx rfl (pc0 := 1) (pc' := 15) rfl (hb hby d2_1) rfl ((if0 _ _).trans (feq (by decide : ¬ ((2 : Int32) = (0 : Int32)))).2) (by decide) (by decide) kS) ?_
  show gs s₁ m 15 #[vi 2, .val (.long q1), .second] []
  refine oiloadN X0 hx hby d2_15 rfl ?_
  refine oiconst X0 hx hby d2_16 ?_
  refine own_st (fun _ kS => XS.icmpYes X0.here hx rfl (pc0 := 17) (pc' := 39) rfl (hb hby d2_17) rfl (feq (by decide : ¬ ((2 : Int32) = (1 : Int32)))).2 (by decide) (by decide) kS) ?_
  show gs s₁ m 39 #[vi 2, .val (.long q1), .second] []
  refine oiloadN X0 hx hby d2_39 rfl ?_
  refine oiconst X0 hx hby d2_40 ?_
  refine own_st (fun _ kS => XS.icmpNo X0.here hx rfl (hb hby d2_41) rfl (teq (by decide : (2 : Int32) = (2 : Int32))).2 kS) ?_
  show gs s₁ m 44 #[vi 2, .val (.long q1), .second] []
  obtain ⟨T1, h1, X1, e1, E1, A1, D1, -, st1⟩ := newO X0 hx hZ hown (own_w hw 45 rfl) (own_w hw 46 rfl) (own_w hw 47 rfl) e0 (g := (mkF m 44 #[vi 2, .val (.long q1), .second] [])) rfl (hb hby d2_44) (by decide) (by decide)
  obtain ⟨b1, g1⟩ : ∃ z, z = h0.size := ⟨_, rfl⟩
  have ge_b1 : n0 ≤ b1 := Nat.le_trans Z0 (Nat.le_of_eq g1.symm)
  have sz_b1 : h0.size ≤ b1 := Nat.le_trans K0.1 (Nat.le_of_eq g1.symm)
  rw [← g1] at A1 D1 st1
  have K1 := K0.ext E1
  have O1 := O0.ext E1
  have F1_coder : fk16 Z h1 b1 (.int 0) := D1 (Or.inr (own_w hw 76 rfl)) (ty := .byte) (by decide)
  have F1_value : fk17 Z h1 b1 .null := D1 (Or.inr (own_w hw 78 rfl)) (ty := (.array .byte)) (by decide)
  refine own_st st1 ?_
  show gs T1 m 47 #[vi 2, .val (.long q1), .second] [(.ref b1)]
  refine own_st (fun _ kS => XS.dup X1.here hx rfl (hb hby d2_47) rfl rfl kS) ?_
  refine oiconst X1 hx hby d2_48 ?_
  show gs T1 m 49 #[vi 2, .val (.long q1), .second] [(.int 2), (.ref b1), (.ref b1)]
  obtain ⟨T2, h2, k2, X2, e2, E2, A2, st2⟩ := newP X1 hx hZ (own_w hw 48 rfl) e1 (g := (mkF m 49 #[vi 2, .val (.long q1), .second] [(.int 2), (.ref b1), (.ref b1)])) rfl (hb hby d2_49) rfl (by decide) (cap := 2) (by decide) (by decide) (by decide) (by decide)
  obtain ⟨b2, g2⟩ : ∃ z, z = h1.size := ⟨_, rfl⟩
  have ne_b1_b2 : b1 ≠ b2 := Nat.ne_of_lt (Nat.lt_of_lt_of_eq A1.lt g2.symm)
  have ge_b2 : n0 ≤ b2 := Nat.le_trans (Nat.le_trans Z0 E1.1) (Nat.le_of_eq g2.symm)
  have sz_b2 : h0.size ≤ b2 := Nat.le_trans K1.1 (Nat.le_of_eq g2.symm)
  rw [← g2] at A2 st2
  have K2 := K1.ext E2
  have O2 := O1.ext E2
  have R2 : Arv Z h2 b2 k2 .char (2 : Int32) [(.int 0), (.int 0)] (.int 0) := (Arv.new A2 (by decide)).pad (pad_rep [] (.int 0) 2)
  refine own_st st2 ?_
  show gs T2 m 51 #[vi 2, .val (.long q1), .second] [(.ref b2), (.ref b1), (.ref b1)]
  refine own_st (fun _ kS => XS.dup X2.here hx rfl (hb hby d2_51) rfl rfl kS) ?_
  refine oiconst X2 hx hby d2_52 ?_
  refine own_st (fun _ kS => XT.lloadN X2.here hx rfl (hb hby d2_53) rfl kS) ?_
  refine oiconst X2 hx hby d2_54 ?_
  refine oS 5 X2 hx hZ hby hml hown (own_w hw 49 rfl) (own_w hw 50 rfl) (own_w hw 6 rfl) (own_w hw 51 rfl) (rm_ch l Z a0 hw [] q1 (0 : Int32) h2 n0 (Nat.le_trans (Nat.le_trans Z0 E1.1) E2.1)  ) e2 (by decide) own_pd5 d2_55 rfl rfl rfl (fun T3 L3 v3 X3 hQ3 => ?_)
  obtain ⟨rfl, Nq3, eq3⟩ := hQ3
  have N3 := Fr.app N0 Nq3
  show gs T3 m 58 #[vi 2, .val (.long q1), .second] [(.int (own_ch q1 (0 : Int32))), (.int 0), (.ref b2), (.ref b2), (.ref b1), (.ref b1)]
  obtain ⟨cl4, Ar4, qa4, qs4, qn4, qh4, qg4⟩ := id R2
  obtain ⟨T4, h4, X4, e4, W4, st4⟩ := stC X3 hx hZ eq3 Ar4 (j := (0 : Int32)) (inb_of qs4 ⟨by decide, by decide⟩) (g := (mkF m 58 #[vi 2, .val (.long q1), .second] [(.int (own_ch q1 (0 : Int32))), (.int 0), (.ref b2), (.ref b2), (.ref b1), (.ref b1)])) rfl rfl (hb hby d2_58)
  have N4 := Fr.snoc X4 N3 ge_b2
  have K4 := K2.wr W4 (Or.inr sz_b2)
  have O4 := O2.wr W4 ge_b2
  have R4 : Arv Z h4 b2 k2 .char (2 : Int32) [(.int (nar .char (own_ch q1 (0 : Int32)))), (.int 0)] (.int 0) := Arv.set Ar4 qa4 qs4 qn4 qh4 qg4 (fits_nar_char _) W4 0 rfl (Nat.le_of_ble_eq_true rfl)
  refine own_st st4 ?_
  show gs T4 m 59 #[vi 2, .val (.long q1), .second] [(.ref b2), (.ref b1), (.ref b1)]
  refine own_st (fun _ kS => XS.dup X4.here hx rfl (hb hby d2_59) rfl rfl kS) ?_
  refine oiconst X4 hx hby d2_60 ?_
  refine own_st (fun _ kS => XT.lloadN X4.here hx rfl (hb hby d2_61) rfl kS) ?_
  refine oiconst X4 hx hby d2_62 ?_
  refine oS 5 X4 hx hZ hby hml hown (own_w hw 49 rfl) (own_w hw 50 rfl) (own_w hw 6 rfl) (own_w hw 51 rfl) (rm_ch l Z a0 hw [] q1 (1 : Int32) h4 n0 (Nat.le_trans (Nat.le_trans (Nat.le_trans Z0 E1.1) E2.1) (Keep.of_wr W4).1)  ) e4 (by decide) own_pd5 d2_63 rfl rfl rfl (fun T5 L5 v5 X5 hQ5 => ?_)
  obtain ⟨rfl, Nq5, eq5⟩ := hQ5
  have N5 := Fr.app N4 Nq5
  show gs T5 m 66 #[vi 2, .val (.long q1), .second] [(.int (own_ch q1 (1 : Int32))), (.int 1), (.ref b2), (.ref b2), (.ref b1), (.ref b1)]
  obtain ⟨cl6, Ar6, qa6, qs6, qn6, qh6, qg6⟩ := id R4
  obtain ⟨T6, h6, X6, e6, W6, st6⟩ := stC X5 hx hZ eq5 Ar6 (j := (1 : Int32)) (inb_of qs6 ⟨by decide, by decide⟩) (g := (mkF m 66 #[vi 2, .val (.long q1), .second] [(.int (own_ch q1 (1 : Int32))), (.int 1), (.ref b2), (.ref b2), (.ref b1), (.ref b1)])) rfl rfl (hb hby d2_66)
  have N6 := Fr.snoc X6 N5 ge_b2
  have K6 := K4.wr W6 (Or.inr sz_b2)
  have O6 := O4.wr W6 ge_b2
  have R6 : Arv Z h6 b2 k2 .char (2 : Int32) [(.int (nar .char (own_ch q1 (0 : Int32)))), (.int (nar .char (own_ch q1 (1 : Int32))))] (.int 0) := Arv.set Ar6 qa6 qs6 qn6 qh6 qg6 (fits_nar_char _) W6 1 rfl (Nat.le_of_ble_eq_true rfl)
  refine own_st st6 ?_
  show gs T6 m 67 #[vi 2, .val (.long q1), .second] [(.ref b2), (.ref b1), (.ref b1)]
  have RP : Arv Z h6 b2 k2 .char (2 : Int32) [(.int (own_ch q1 (0 : Int32))), (.int (own_ch q1 (1 : Int32)))] (.int 0) := by
    have z := R6
    rw [own_nch q1 0, own_nch q1 1] at z
    exact z
  refine oN 1 X6 hx hZ hby hml hown (own_w hw 53 rfl) (own_w hw 54 rfl) (own_w hw 47 rfl) (own_w hw 55 rfl) (rm_init1_2 l Z a0 hw [] b1 b2 k2 (own_ch q1 (0 : Int32)) (own_ch q1 (1 : Int32)) zCS h6 n0 (Nat.le_trans (Nat.le_trans (Nat.le_trans (Nat.le_trans Z0 E1.1) E2.1) (Keep.of_wr W4).1) (Keep.of_wr W6).1) O6 (Exa.wr W6 (Exa.wr W4 (Exa.ext E2 A1))) ge_b1 (Fld.other W6 (Fld.other W4 (Fld.ext E2 F1_value) (Or.inl ne_b1_b2)) (Or.inl ne_b1_b2)) (Fld.other W6 (Fld.other W4 (Fld.ext E2 F1_coder) (Or.inl ne_b1_b2)) (Or.inl ne_b1_b2)) ne_b1_b2 RP (own_chb _ _) (own_chb _ _) S_CS P_CS) e6 rfl (by decide) own_pd4 d2_67 rfl rfl rfl (fun T7 L7 v7 X7 hQ7 => ?_)
  obtain ⟨tN_7, kN_7, rfl, Nq7, Kc7, P7_0, P7_1, P7_2, P7_3⟩ := hQ7
  have N7 := Fr.app N6 Nq7
  have K7 := K6.trans Kc7 (allS (Or.inr sz_b1) all0)
  have O7 := O6.keep Kc7 (allS ge_b1 all0)
  show gs T7 m 70 #[vi 2, .val (.long q1), .second] [(.ref b1)]
  exact own_retA X7 hx hlk hret rfl rfl (hb hby d2_70) (by decide) (by decide) (show Q_make2 Z q1 zCS h0 n0 _ _ _ from ⟨b1, tN_7, kN_7, ⟨rfl, N7, K7, sz_b1, P7_0, P7_1, P7_2, P7_3⟩⟩)
theorem ef_make3 (m : MethodId) (x0 : Int64) : entryFrame m #[(.int 3), (.long x0)] 3 = mkF m 0 #[.val (.int 3), .val (.long x0), .second] [] := by first | (simp [entryFrame, mkF, argsToLocals, Value.category]; done) | rfl
def Q_make3 (Z : State) (q1 : Int64) (zCS : Int32) (h0 : Heap) (n0 : Nat) (v : Option Value) (h : Heap) (L : List Loc) : Prop := ∃ bS : Addr, ∃ tN : Addr, ∃ kN : ClassId, v = some (.ref bS) ∧ Fr n0 L ∧ Keep h0 h [] ∧ h0.size ≤ bS ∧ ek21 Z h bS ∧ fk16 Z h bS (.int 0) ∧ fk17 Z h bS (.ref tN) ∧ Arv Z h tN kN .byte (3 : Int32) [(.int (nar .byte ((own_ch q1 (0 : Int32)).toInt8.toInt32))), (.int (nar .byte ((own_ch q1 (1 : Int32)).toInt8.toInt32))), (.int (nar .byte ((own_ch q1 (2 : Int32)).toInt8.toInt32)))] (.int 0)
theorem rm_make3 (l : Launch) (Z : State) (a0 : Array Value) (hw : HW a0 Z) (ws : List Jvm.Cond) (q1 : Int64) (zCS : Int32) (h0 : Heap) (n0 : Nat) (Z0 : n0 ≤ h0.size) (O0 : Old Z n0 h0) (S_CS : sk0 Z Z.heap (.int zCS)) (P_CS : ¬ zCS = 0) :
    M6 l ws (rmk 4 3 10 66) Z #[(.int 3), (.long q1)] h0 (Q_make3 Z q1 zCS h0 n0) := by
  refine own_go "com/example/cartouche/cartouche/crosswalks/DcValueEqualsPinLaw" rfl (plainFor_of_name pn_2) (fun m => ef_make3 m q1) (fun p e s m below meth c s₁ hx hby hml hown hnm hlk hret hZ X0 e0 => ?_)
  have N0 := Fr.nil n0
  have K0 := Keep.refl h0 []
  show gs s₁ m 0 #[vi 3, .val (.long q1), .second] []
  refine oiloadN X0 hx hby d2_0 rfl ?_
  refine own_st (fun _ kS => XS.ifYes X0.here hx rfl (pc0 := 1) (pc' := 15) rfl (hb hby d2_1) rfl ((if0 _ _).trans (feq (by decide : ¬ ((3 : Int32) = (0 : Int32)))).2) (by decide) (by decide) kS) ?_
  show gs s₁ m 15 #[vi 3, .val (.long q1), .second] []
  refine oiloadN X0 hx hby d2_15 rfl ?_
  refine oiconst X0 hx hby d2_16 ?_
  refine own_st (fun _ kS => XS.icmpYes X0.here hx rfl (pc0 := 17) (pc' := 39) rfl (hb hby d2_17) rfl (feq (by decide : ¬ ((3 : Int32) = (1 : Int32)))).2 (by decide) (by decide) kS) ?_
  show gs s₁ m 39 #[vi 3, .val (.long q1), .second] []
  refine oiloadN X0 hx hby d2_39 rfl ?_
  refine oiconst X0 hx hby d2_40 ?_
  refine own_st (fun _ kS => XS.icmpYes X0.here hx rfl (pc0 := 41) (pc' := 71) rfl (hb hby d2_41) rfl (feq (by decide : ¬ ((3 : Int32) = (2 : Int32)))).2 (by decide) (by decide) kS) ?_
  show gs s₁ m 71 #[vi 3, .val (.long q1), .second] []
  obtain ⟨T1, h1, X1, e1, E1, A1, D1, -, st1⟩ := newO X0 hx hZ hown (own_w hw 45 rfl) (own_w hw 46 rfl) (own_w hw 47 rfl) e0 (g := (mkF m 71 #[vi 3, .val (.long q1), .second] [])) rfl (hb hby d2_71) (by decide) (by decide)
  obtain ⟨b1, g1⟩ : ∃ z, z = h0.size := ⟨_, rfl⟩
  have ge_b1 : n0 ≤ b1 := Nat.le_trans Z0 (Nat.le_of_eq g1.symm)
  have sz_b1 : h0.size ≤ b1 := Nat.le_trans K0.1 (Nat.le_of_eq g1.symm)
  rw [← g1] at A1 D1 st1
  have K1 := K0.ext E1
  have O1 := O0.ext E1
  have F1_coder : fk16 Z h1 b1 (.int 0) := D1 (Or.inr (own_w hw 76 rfl)) (ty := .byte) (by decide)
  have F1_value : fk17 Z h1 b1 .null := D1 (Or.inr (own_w hw 78 rfl)) (ty := (.array .byte)) (by decide)
  refine own_st st1 ?_
  show gs T1 m 74 #[vi 3, .val (.long q1), .second] [(.ref b1)]
  refine own_st (fun _ kS => XS.dup X1.here hx rfl (hb hby d2_74) rfl rfl kS) ?_
  refine oiconst X1 hx hby d2_75 ?_
  show gs T1 m 76 #[vi 3, .val (.long q1), .second] [(.int 3), (.ref b1), (.ref b1)]
  obtain ⟨T2, h2, k2, X2, e2, E2, A2, st2⟩ := newP X1 hx hZ (own_w hw 48 rfl) e1 (g := (mkF m 76 #[vi 3, .val (.long q1), .second] [(.int 3), (.ref b1), (.ref b1)])) rfl (hb hby d2_76) rfl (by decide) (cap := 3) (by decide) (by decide) (by decide) (by decide)
  obtain ⟨b2, g2⟩ : ∃ z, z = h1.size := ⟨_, rfl⟩
  have ne_b1_b2 : b1 ≠ b2 := Nat.ne_of_lt (Nat.lt_of_lt_of_eq A1.lt g2.symm)
  have ge_b2 : n0 ≤ b2 := Nat.le_trans (Nat.le_trans Z0 E1.1) (Nat.le_of_eq g2.symm)
  have sz_b2 : h0.size ≤ b2 := Nat.le_trans K1.1 (Nat.le_of_eq g2.symm)
  rw [← g2] at A2 st2
  have K2 := K1.ext E2
  have O2 := O1.ext E2
  have R2 : Arv Z h2 b2 k2 .char (3 : Int32) [(.int 0), (.int 0), (.int 0)] (.int 0) := (Arv.new A2 (by decide)).pad (pad_rep [] (.int 0) 3)
  refine own_st st2 ?_
  show gs T2 m 78 #[vi 3, .val (.long q1), .second] [(.ref b2), (.ref b1), (.ref b1)]
  refine own_st (fun _ kS => XS.dup X2.here hx rfl (hb hby d2_78) rfl rfl kS) ?_
  refine oiconst X2 hx hby d2_79 ?_
  refine own_st (fun _ kS => XT.lloadN X2.here hx rfl (hb hby d2_80) rfl kS) ?_
  refine oiconst X2 hx hby d2_81 ?_
  refine oS 5 X2 hx hZ hby hml hown (own_w hw 49 rfl) (own_w hw 50 rfl) (own_w hw 6 rfl) (own_w hw 51 rfl) (rm_ch l Z a0 hw [] q1 (0 : Int32) h2 n0 (Nat.le_trans (Nat.le_trans Z0 E1.1) E2.1)  ) e2 (by decide) own_pd5 d2_82 rfl rfl rfl (fun T3 L3 v3 X3 hQ3 => ?_)
  obtain ⟨rfl, Nq3, eq3⟩ := hQ3
  have N3 := Fr.app N0 Nq3
  show gs T3 m 85 #[vi 3, .val (.long q1), .second] [(.int (own_ch q1 (0 : Int32))), (.int 0), (.ref b2), (.ref b2), (.ref b1), (.ref b1)]
  obtain ⟨cl4, Ar4, qa4, qs4, qn4, qh4, qg4⟩ := id R2
  obtain ⟨T4, h4, X4, e4, W4, st4⟩ := stC X3 hx hZ eq3 Ar4 (j := (0 : Int32)) (inb_of qs4 ⟨by decide, by decide⟩) (g := (mkF m 85 #[vi 3, .val (.long q1), .second] [(.int (own_ch q1 (0 : Int32))), (.int 0), (.ref b2), (.ref b2), (.ref b1), (.ref b1)])) rfl rfl (hb hby d2_85)
  have N4 := Fr.snoc X4 N3 ge_b2
  have K4 := K2.wr W4 (Or.inr sz_b2)
  have O4 := O2.wr W4 ge_b2
  have R4 : Arv Z h4 b2 k2 .char (3 : Int32) [(.int (nar .char (own_ch q1 (0 : Int32)))), (.int 0), (.int 0)] (.int 0) := Arv.set Ar4 qa4 qs4 qn4 qh4 qg4 (fits_nar_char _) W4 0 rfl (Nat.le_of_ble_eq_true rfl)
  refine own_st st4 ?_
  show gs T4 m 86 #[vi 3, .val (.long q1), .second] [(.ref b2), (.ref b1), (.ref b1)]
  refine own_st (fun _ kS => XS.dup X4.here hx rfl (hb hby d2_86) rfl rfl kS) ?_
  refine oiconst X4 hx hby d2_87 ?_
  refine own_st (fun _ kS => XT.lloadN X4.here hx rfl (hb hby d2_88) rfl kS) ?_
  refine oiconst X4 hx hby d2_89 ?_
  refine oS 5 X4 hx hZ hby hml hown (own_w hw 49 rfl) (own_w hw 50 rfl) (own_w hw 6 rfl) (own_w hw 51 rfl) (rm_ch l Z a0 hw [] q1 (1 : Int32) h4 n0 (Nat.le_trans (Nat.le_trans (Nat.le_trans Z0 E1.1) E2.1) (Keep.of_wr W4).1)  ) e4 (by decide) own_pd5 d2_90 rfl rfl rfl (fun T5 L5 v5 X5 hQ5 => ?_)
  obtain ⟨rfl, Nq5, eq5⟩ := hQ5
  have N5 := Fr.app N4 Nq5
  show gs T5 m 93 #[vi 3, .val (.long q1), .second] [(.int (own_ch q1 (1 : Int32))), (.int 1), (.ref b2), (.ref b2), (.ref b1), (.ref b1)]
  obtain ⟨cl6, Ar6, qa6, qs6, qn6, qh6, qg6⟩ := id R4
  obtain ⟨T6, h6, X6, e6, W6, st6⟩ := stC X5 hx hZ eq5 Ar6 (j := (1 : Int32)) (inb_of qs6 ⟨by decide, by decide⟩) (g := (mkF m 93 #[vi 3, .val (.long q1), .second] [(.int (own_ch q1 (1 : Int32))), (.int 1), (.ref b2), (.ref b2), (.ref b1), (.ref b1)])) rfl rfl (hb hby d2_93)
  have N6 := Fr.snoc X6 N5 ge_b2
  have K6 := K4.wr W6 (Or.inr sz_b2)
  have O6 := O4.wr W6 ge_b2
  have R6 : Arv Z h6 b2 k2 .char (3 : Int32) [(.int (nar .char (own_ch q1 (0 : Int32)))), (.int (nar .char (own_ch q1 (1 : Int32)))), (.int 0)] (.int 0) := Arv.set Ar6 qa6 qs6 qn6 qh6 qg6 (fits_nar_char _) W6 1 rfl (Nat.le_of_ble_eq_true rfl)
  refine own_st st6 ?_
  show gs T6 m 94 #[vi 3, .val (.long q1), .second] [(.ref b2), (.ref b1), (.ref b1)]
  refine own_st (fun _ kS => XS.dup X6.here hx rfl (hb hby d2_94) rfl rfl kS) ?_
  refine oiconst X6 hx hby d2_95 ?_
  refine own_st (fun _ kS => XT.lloadN X6.here hx rfl (hb hby d2_96) rfl kS) ?_
  refine oiconst X6 hx hby d2_97 ?_
  refine oS 5 X6 hx hZ hby hml hown (own_w hw 49 rfl) (own_w hw 50 rfl) (own_w hw 6 rfl) (own_w hw 51 rfl) (rm_ch l Z a0 hw [] q1 (2 : Int32) h6 n0 (Nat.le_trans (Nat.le_trans (Nat.le_trans (Nat.le_trans Z0 E1.1) E2.1) (Keep.of_wr W4).1) (Keep.of_wr W6).1)  ) e6 (by decide) own_pd5 d2_98 rfl rfl rfl (fun T7 L7 v7 X7 hQ7 => ?_)
  obtain ⟨rfl, Nq7, eq7⟩ := hQ7
  have N7 := Fr.app N6 Nq7
  show gs T7 m 101 #[vi 3, .val (.long q1), .second] [(.int (own_ch q1 (2 : Int32))), (.int 2), (.ref b2), (.ref b2), (.ref b1), (.ref b1)]
  obtain ⟨cl8, Ar8, qa8, qs8, qn8, qh8, qg8⟩ := id R6
  obtain ⟨T8, h8, X8, e8, W8, st8⟩ := stC X7 hx hZ eq7 Ar8 (j := (2 : Int32)) (inb_of qs8 ⟨by decide, by decide⟩) (g := (mkF m 101 #[vi 3, .val (.long q1), .second] [(.int (own_ch q1 (2 : Int32))), (.int 2), (.ref b2), (.ref b2), (.ref b1), (.ref b1)])) rfl rfl (hb hby d2_101)
  have N8 := Fr.snoc X8 N7 ge_b2
  have K8 := K6.wr W8 (Or.inr sz_b2)
  have O8 := O6.wr W8 ge_b2
  have R8 : Arv Z h8 b2 k2 .char (3 : Int32) [(.int (nar .char (own_ch q1 (0 : Int32)))), (.int (nar .char (own_ch q1 (1 : Int32)))), (.int (nar .char (own_ch q1 (2 : Int32))))] (.int 0) := Arv.set Ar8 qa8 qs8 qn8 qh8 qg8 (fits_nar_char _) W8 2 rfl (Nat.le_of_ble_eq_true rfl)
  refine own_st st8 ?_
  show gs T8 m 102 #[vi 3, .val (.long q1), .second] [(.ref b2), (.ref b1), (.ref b1)]
  have RP : Arv Z h8 b2 k2 .char (3 : Int32) [(.int (own_ch q1 (0 : Int32))), (.int (own_ch q1 (1 : Int32))), (.int (own_ch q1 (2 : Int32)))] (.int 0) := by
    have z := R8
    rw [own_nch q1 0, own_nch q1 1, own_nch q1 2] at z
    exact z
  refine oN 1 X8 hx hZ hby hml hown (own_w hw 53 rfl) (own_w hw 54 rfl) (own_w hw 47 rfl) (own_w hw 55 rfl) (rm_init1_3 l Z a0 hw [] b1 b2 k2 (own_ch q1 (0 : Int32)) (own_ch q1 (1 : Int32)) (own_ch q1 (2 : Int32)) zCS h8 n0 (Nat.le_trans (Nat.le_trans (Nat.le_trans (Nat.le_trans (Nat.le_trans Z0 E1.1) E2.1) (Keep.of_wr W4).1) (Keep.of_wr W6).1) (Keep.of_wr W8).1) O8 (Exa.wr W8 (Exa.wr W6 (Exa.wr W4 (Exa.ext E2 A1)))) ge_b1 (Fld.other W8 (Fld.other W6 (Fld.other W4 (Fld.ext E2 F1_value) (Or.inl ne_b1_b2)) (Or.inl ne_b1_b2)) (Or.inl ne_b1_b2)) (Fld.other W8 (Fld.other W6 (Fld.other W4 (Fld.ext E2 F1_coder) (Or.inl ne_b1_b2)) (Or.inl ne_b1_b2)) (Or.inl ne_b1_b2)) ne_b1_b2 RP (own_chb _ _) (own_chb _ _) (own_chb _ _) S_CS P_CS) e8 rfl (by decide) own_pd4 d2_102 rfl rfl rfl (fun T9 L9 v9 X9 hQ9 => ?_)
  obtain ⟨tN_9, kN_9, rfl, Nq9, Kc9, P9_0, P9_1, P9_2, P9_3⟩ := hQ9
  have N9 := Fr.app N8 Nq9
  have K9 := K8.trans Kc9 (allS (Or.inr sz_b1) all0)
  have O9 := O8.keep Kc9 (allS ge_b1 all0)
  show gs T9 m 105 #[vi 3, .val (.long q1), .second] [(.ref b1)]
  exact own_retA X9 hx hlk hret rfl rfl (hb hby d2_105) (by decide) (by decide) (show Q_make3 Z q1 zCS h0 n0 _ _ _ from ⟨b1, tN_9, kN_9, ⟨rfl, N9, K9, sz_b1, P9_0, P9_1, P9_2, P9_3⟩⟩)
theorem d11_0 : dk B7 0 (.aload_n 0) 1 := by decide +kernel
theorem d11_1 : dk B7 1 (.ifnonnull 12) 3 := by decide +kernel
theorem d11_4 : dk B7 4 (.new 84) 3 := by decide +kernel
theorem d11_7 : dk B7 7 (.dup) 1 := by decide +kernel
theorem d11_8 : dk B7 8 (.aload_n 1) 1 := by decide +kernel
theorem d11_9 : dk B7 9 (.invokespecial 87) 3 := by decide +kernel
theorem d11_12 : dk B7 12 (.athrow) 1 := by decide +kernel
theorem d11_13 : dk B7 13 (.aload_n 0) 1 := by decide +kernel
theorem d11_14 : dk B7 14 (.areturn) 1 := by decide +kernel
theorem pn_11 : plainName "java/util/Objects" = true := by first | (simp [plainName, overriddenIn]; done) | decide +kernel
theorem ef_rnn (m : MethodId) (x0 : Addr) (x1 : Addr) : entryFrame m #[(.ref x0), (.ref x1)] 2 = mkF m 0 #[.val (.ref x0), .val (.ref x1)] [] := by first | (simp [entryFrame, mkF, argsToLocals, Value.category]; done) | rfl
def Q_rnn (Z : State) (a1 : Addr) (a2 : Addr) (h0 : Heap) (n0 : Nat) (v : Option Value) (h : Heap) (L : List Loc) : Prop := v = some (.ref a1) ∧ Fr n0 L ∧ h = h0
theorem rm_rnn (l : Launch) (Z : State) (a0 : Array Value) (hw : HW a0 Z) (ws : List Jvm.Cond) (a1 : Addr) (a2 : Addr) (h0 : Heap) (n0 : Nat) (Z0 : n0 ≤ h0.size)  :
    M7 l ws (rmk 0 0 0 0) Z #[(.ref a1), (.ref a2)] h0 (Q_rnn Z a1 a2 h0 n0) := by
  refine own_go "java/util/Objects" rfl (plainFor_of_name pn_11) (fun m => ef_rnn m a1 a2) (fun p e s m below meth c s₁ hx hby hml hown hnm hlk hret hZ X0 e0 => ?_)
  have N0 := Fr.nil n0
  show gs s₁ m 0 #[vr a1, vr a2] []
  refine oaloadN X0 hx hby d11_0 rfl rfl ?_
  refine own_st (fun _ kS => XT.ifnonnullYes X0.here hx rfl (pc0 := 1) (pc' := 13) rfl (hb hby d11_1) rfl (by decide) (by decide) kS) ?_
  show gs s₁ m 13 #[vr a1, vr a2] []
  refine oaloadN X0 hx hby d11_13 rfl rfl ?_
  exact own_retA X0 hx hlk hret rfl rfl (hb hby d11_14) (by decide) (by decide) (by rw [e0]; exact ⟨rfl, N0, rfl⟩)
theorem d10_0 : dk B8 0 (.aload_n 0) 1 := by decide +kernel
theorem d10_1 : dk B8 1 (.invokespecial 1) 3 := by decide +kernel
theorem d10_4 : dk B8 4 (.aload_n 0) 1 := by decide +kernel
theorem d10_5 : dk B8 5 (.aload_n 1) 1 := by decide +kernel
theorem d10_6 : dk B8 6 (.ldc 7) 2 := by decide +kernel
theorem d10_8 : dk B8 8 (.invokestatic 9) 3 := by decide +kernel
theorem d10_11 : dk B8 11 (.checkcast 15) 3 := by decide +kernel
theorem d10_14 : dk B8 14 (.putfield 17) 3 := by decide +kernel
theorem d10_17 : dk B8 17 (.aload_n 0) 1 := by decide +kernel
theorem d10_18 : dk B8 18 (.aload_n 2) 1 := by decide +kernel
theorem d10_19 : dk B8 19 (.ldc 22) 2 := by decide +kernel
theorem d10_21 : dk B8 21 (.invokestatic 9) 3 := by decide +kernel
theorem d10_24 : dk B8 24 (.checkcast 24) 3 := by decide +kernel
theorem d10_27 : dk B8 27 (.putfield 26) 3 := by decide +kernel
theorem d10_30 : dk B8 30 (.return_) 1 := by decide +kernel
theorem pn_10 : plainName "com/example/cartouche/cartouche/crosswalks/DcValue" = true := by first | (simp [plainName, overriddenIn]; done) | decide +kernel
theorem own_pd6 : parseMethodDescriptor "(Ljava/lang/Object;Ljava/lang/String;)Ljava/lang/Object;" = some ⟨[(.object "java/lang/Object"), (.object "java/lang/String")], some (.object "java/lang/Object")⟩ := by decide +kernel
theorem ef_dcInit (m : MethodId) (x0 : Addr) (x1 : Addr) (x2 : Addr) : entryFrame m #[(.ref x0), (.ref x1), (.ref x2)] 3 = mkF m 0 #[.val (.ref x0), .val (.ref x1), .val (.ref x2)] [] := by first | (simp [entryFrame, mkF, argsToLocals, Value.category]; done) | rfl
def Q_dcInit (Z : State) (a0d : Addr) (v1 : Addr) (s1 : Addr) (h0 : Heap) (n0 : Nat) (v : Option Value) (h : Heap) (L : List Loc) : Prop := v = none ∧ Fr n0 L ∧ Keep h0 h [a0d] ∧ ek22 Z h a0d ∧ fk18 Z h a0d (.ref v1) ∧ fk19 Z h a0d (.ref s1)
theorem rm_dcInit (l : Launch) (Z : State) (a0 : Array Value) (hw : HW a0 Z) (ws : List Jvm.Cond) (a0d : Addr) (v1 : Addr) (s1 : Addr) (h0 : Heap) (n0 : Nat) (Z0 : n0 ≤ h0.size) (E_d : ek22 Z h0 a0d) (g_d : n0 ≤ a0d) (E_v : ek23 Z h0 v1) (E_s : ek21 Z h0 s1) (Fe : fk18 Z h0 a0d .null) (Ft : fk19 Z h0 a0d .null) :
    MetFree l (⟨"com/example/cartouche/cartouche/crosswalks/DcValue", "<init>", "(Lcom/example/cartouche/cartouche/crosswalks/DcElement;Ljava/lang/String;)V"⟩ : MethodName) (head1 (Jvm.Cond.code (⟨"com/example/cartouche/cartouche/crosswalks/DcValue", "<init>", "(Lcom/example/cartouche/cartouche/crosswalks/DcElement;Ljava/lang/String;)V"⟩ : MethodName) prog_44_method_1_code 3 none :: ws) (rmk 1 4 52 14)) (fun a U => a = #[(.ref a0d), (.ref v1), (.ref s1)] ∧ Z.Warmed39 U.vm ∧ U.heap = h0 ∧ CHv Z EL0 U.vm h0) (fun _ _ _ _ _ => True) (fun _ U o U' => ∃ v L, o = .returned v ∧ Q_dcInit Z a0d v1 s1 h0 n0 v U'.heap L ∧ CHr Z EL0 U.vm U.heap U'.vm U'.heap ∧ ReturnedEndW U o U' L (rmk 1 4 52 14).cells (rmk 1 4 52 14).slots) := by
  refine MetFree.of_bodySF (plainFor_of_name pn_10) hisR ?_
  intro p e s m args below meth c s₁ Bd hml0 hP hK
  obtain ⟨rfl, hZ, hh, hCH⟩ := hP
  have hx := Bd.exec
  have hby := Bd.bytes
  have hml : c.maxLocals = 3 := hml0
  have hown : s.vm.findClass "com/example/cartouche/cartouche/crosswalks/DcValue" = some m.cls := findClass_of_methodNamed Bd.named
  have hnm := (name_of_methodNamed Bd.named Bd.method).1
  have hlk := Bd.notSynchronized
  have hret := Bd.returns
  have X0 : Stand p l e (rmk 1 4 52 14) (s.setVm s.vm) m #[(.ref a0d), (.ref v1), (.ref s1)] below meth c s₁ [] 0 0 := Stand.of_body Bd
  have hS : s.Since s.vm 0 := (State.WarmedH.refl s).since 0
  have e0 : s₁.heap = h0 := by rw [← hh, Bd.state]; rfl
  have N0 := Fr.nil n0
  have K0 := Keep.refl h0 [a0d]
  have hEL : EW Z a0 EL0 := own_ELw hw
  have CR0 : CHr Z EL0 s.vm s.heap s.vm h0 := by rw [hh]; exact CHr.refl hCH
  refine own_inH (rmk 1 4 52 14).cells (rmk 1 4 52 14).slots (Q_dcInit Z a0d v1 s1 h0 n0) (ef_dcInit m a0d v1 s1) ?_
  show gs s₁ m 0 #[vr a0d, vr v1, vr s1] []
  refine oaloadN X0 hx hby d10_0 rfl rfl ?_
  obtain ⟨T1, X1, e1, st1⟩ := initO X0 hx hZ hown (own_w hw 82 rfl) (own_w hw 61 rfl) (own_w hw 62 rfl) e0 (g := (mkF m 1 #[vr a0d, vr v1, vr s1] [(.ref a0d)])) rfl (by rw [hml]; rfl) rfl (hb hby d10_1) (by decide) (W := 0) (by show 2 * 0 + _ ≤ _; exact Nat.le_of_eq rfl) (by decide)
  refine own_st st1 ?_
  show gs T1 m 4 #[vr a0d, vr v1, vr s1] []
  refine oaloadN X1 hx hby d10_4 rfl rfl ?_
  refine oaloadN X1 hx hby d10_5 rfl rfl ?_
  show gs T1 m 6 #[vr a0d, vr v1, vr s1] [(.ref v1), (.ref a0d)]
  have wS : ∀ a ∈ Bundle.stringAtoms, a.before a0 Z = true := fun d hd => hw d ((by decide +kernel : ∀ d ∈ Bundle.stringAtoms, d ∈ tables_1) d hd)
  obtain ⟨lit3, T3, h3, k3, X3, e3, E3, hS, hk3, hZ, hown, C3, Lt3, st3⟩ := ldcOH X1 hx hZ hown (own_w hw 83 rfl) wS e1 hS (Nat.zero_le _) hEL hCH (g := (mkF m 6 #[vr a0d, vr v1, vr s1] [(.ref v1), (.ref a0d)])) rfl (hb hby d10_6) (n := 28) (by decide) (by decide) (by decide) (by decide)
  have K3 := K0.ext E3
  have CR3 := CR0.trans C3
  have CH3 := C3.1
  refine own_st st3 ?_
  show gs T3 m 8 #[vr a0d, vr v1, vr s1] [(.ref lit3), (.ref v1), (.ref a0d)]
  refine oS 1 X3 hx hZ hby hml hown (own_w hw 86 rfl) (own_w hw 87 rfl) (own_w hw 88 rfl) (own_w hw 89 rfl) (rm_rnn l Z a0 hw [] v1 lit3 h3 n0 (Nat.le_trans Z0 E3.1)  ) e3 (by decide) own_pd6 d10_8 rfl rfl rfl (fun T4 L4 v4 X4 hQ4 => ?_)
  obtain ⟨rfl, Nq4, eq4⟩ := hQ4
  have N4 := Fr.app N0 Nq4
  show gs T4 m 11 #[vr a0d, vr v1, vr s1] [(.ref v1), (.ref a0d)]
  obtain ⟨T5, X5, e5, st5⟩ := castY X4 hx hZ hown (own_w hw 90 rfl) eq4 (Ins.self (Exa.ext E3 E_v)) (g := (mkF m 11 #[vr a0d, vr v1, vr s1] [(.ref v1), (.ref a0d)])) rfl rfl (hb hby d10_11)
  refine own_st st5 ?_
  show gs T5 m 14 #[vr a0d, vr v1, vr s1] [(.ref v1), (.ref a0d)]
  obtain ⟨T6, h6, X6, e6, W6, st6⟩ := putF X5 hx hZ hown (host := "") (Or.inl (own_w hw 91 rfl)) Via.refl e5 (Fld.ext E3 Fe) (Exa.ext E3 E_d) (Or.inr ⟨(own_w hw 92 rfl), rfl, hnm⟩) (own_w hw 2 rfl) (ty := (.object "com/example/cartouche/cartouche/crosswalks/DcElement")) (by decide) rfl rfl (g := (mkF m 14 #[vr a0d, vr v1, vr s1] [(.ref v1), (.ref a0d)])) rfl rfl (hb hby d10_14)
  refine own_st st6 ?_
  have Sw6 : Safe Z EL0 _ _ a0d := (Safe.exa hZ.alike (Exa.ext E3 E_d) (by decide) (by decide))
  have N6 := Fr.snoc X6 N4 g_d
  have K6 := K3.wr W6 (Or.inl (List.mem_of_getElem? (i := 0) rfl))
  have CR6 := CR3.trans (CHr.wr W6 Sw6 CH3)
  have CH6 := CHv.wr W6 Sw6 CH3
  have Fw6 := Fld.same W6 (Fld.ext E3 Fe)
  show gs T6 m 17 #[vr a0d, vr v1, vr s1] []
  refine oaloadN X6 hx hby d10_17 rfl rfl ?_
  refine oaloadN X6 hx hby d10_18 rfl rfl ?_
  show gs T6 m 19 #[vr a0d, vr v1, vr s1] [(.ref s1), (.ref a0d)]
  obtain ⟨lit8, T8, h8, k8, X8, e8, E8, hS, hk8, hZ, hown, C8, Lt8, st8⟩ := ldcOH X6 hx hZ hown (own_w hw 93 rfl) wS e6 hS (Nat.le_trans hk3 (Keep.of_wr W6).1) hEL CH6 (g := (mkF m 19 #[vr a0d, vr v1, vr s1] [(.ref s1), (.ref a0d)])) rfl (hb hby d10_19) (n := 16) (by decide) (by decide) (by decide) (by decide)
  have K8 := K6.ext E8
  have CR8 := CR6.trans C8
  have CH8 := C8.1
  refine own_st st8 ?_
  show gs T8 m 21 #[vr a0d, vr v1, vr s1] [(.ref lit8), (.ref s1), (.ref a0d)]
  refine oS 1 X8 hx hZ hby hml hown (own_w hw 86 rfl) (own_w hw 87 rfl) (own_w hw 88 rfl) (own_w hw 89 rfl) (rm_rnn l Z a0 hw [] s1 lit8 h8 n0 (Nat.le_trans (Nat.le_trans (Nat.le_trans Z0 E3.1) (Keep.of_wr W6).1) E8.1)  ) e8 (by decide) own_pd6 d10_21 rfl rfl rfl (fun T9 L9 v9 X9 hQ9 => ?_)
  obtain ⟨rfl, Nq9, eq9⟩ := hQ9
  have N9 := Fr.app N6 Nq9
  show gs T9 m 24 #[vr a0d, vr v1, vr s1] [(.ref s1), (.ref a0d)]
  obtain ⟨T10, X10, e10, st10⟩ := castY X9 hx hZ hown (own_w hw 94 rfl) eq9 (Ins.self (Exa.ext E8 (Exa.wr W6 (Exa.ext E3 E_s)))) (g := (mkF m 24 #[vr a0d, vr v1, vr s1] [(.ref s1), (.ref a0d)])) rfl rfl (hb hby d10_24)
  refine own_st st10 ?_
  show gs T10 m 27 #[vr a0d, vr v1, vr s1] [(.ref s1), (.ref a0d)]
  obtain ⟨T11, h11, X11, e11, W11, st11⟩ := putF X10 hx hZ hown (host := "") (Or.inl (own_w hw 95 rfl)) Via.refl e10 (Fld.ext E8 (Fld.other W6 (Fld.ext E3 Ft) (Or.inr (slot_ne (Or.inr (own_w hw 96 rfl)) (Or.inr (own_w hw 92 rfl)) (by decide) (t := (.object "java/lang/String")) (t' := (.object "com/example/cartouche/cartouche/crosswalks/DcElement")) (by decide) (by decide))))) (Exa.ext E8 (Exa.wr W6 (Exa.ext E3 E_d))) (Or.inr ⟨(own_w hw 96 rfl), rfl, hnm⟩) (own_w hw 2 rfl) (ty := (.object "java/lang/String")) (by decide) rfl rfl (g := (mkF m 27 #[vr a0d, vr v1, vr s1] [(.ref s1), (.ref a0d)])) rfl rfl (hb hby d10_27)
  refine own_st st11 ?_
  have Sw11 : Safe Z EL0 _ _ a0d := (Safe.exa hZ.alike (Exa.ext E8 (Exa.wr W6 (Exa.ext E3 E_d))) (by decide) (by decide))
  have N11 := Fr.snoc X11 N9 g_d
  have K11 := K8.wr W11 (Or.inl (List.mem_of_getElem? (i := 0) rfl))
  have CR11 := CR8.trans (CHr.wr W11 Sw11 CH8)
  have CH11 := CHv.wr W11 Sw11 CH8
  have Fw11 := Fld.same W11 (Fld.ext E8 (Fld.other W6 (Fld.ext E3 Ft) (Or.inr (slot_ne (Or.inr (own_w hw 96 rfl)) (Or.inr (own_w hw 92 rfl)) (by decide) (t := (.object "java/lang/String")) (t' := (.object "com/example/cartouche/cartouche/crosswalks/DcElement")) (by decide) (by decide)))))
  show gs T11 m 30 #[vr a0d, vr v1, vr s1] []
  exact own_retVH hZ hEL (by rw [e11]; exact CR11) hS (own_le e11 (Nat.le_trans hk8 (Keep.of_wr W11).1)) X11 hx hlk hret (hb hby d10_30) (by decide) (by decide) (by rw [e11]; exact ⟨rfl, N11, K11, (Exa.wr W11 (Exa.ext E8 (Exa.wr W6 (Exa.ext E3 E_d)))), (Fld.other W11 (Fld.ext E8 Fw6) (Or.inr (slot_ne (Or.inr (own_w hw 92 rfl)) (Or.inr (own_w hw 96 rfl)) (by decide) (t := (.object "com/example/cartouche/cartouche/crosswalks/DcElement")) (t' := (.object "java/lang/String")) (by decide) (by decide)))), Fw11⟩)
theorem d1_0 : dk B9 0 (.bipush 15) 2 := by decide +kernel
theorem d1_2 : dk B9 2 (.anewarray 7) 3 := by decide +kernel
theorem d1_5 : dk B9 5 (.dup) 1 := by decide +kernel
theorem d1_6 : dk B9 6 (.iconst 0) 1 := by decide +kernel
theorem d1_7 : dk B9 7 (.getstatic 9) 3 := by decide +kernel
theorem d1_10 : dk B9 10 (.aastore) 1 := by decide +kernel
theorem d1_11 : dk B9 11 (.dup) 1 := by decide +kernel
theorem d1_12 : dk B9 12 (.iconst 1) 1 := by decide +kernel
theorem d1_13 : dk B9 13 (.getstatic 13) 3 := by decide +kernel
theorem d1_16 : dk B9 16 (.aastore) 1 := by decide +kernel
theorem d1_17 : dk B9 17 (.dup) 1 := by decide +kernel
theorem d1_18 : dk B9 18 (.iconst 2) 1 := by decide +kernel
theorem d1_19 : dk B9 19 (.getstatic 16) 3 := by decide +kernel
theorem d1_22 : dk B9 22 (.aastore) 1 := by decide +kernel
theorem d1_23 : dk B9 23 (.dup) 1 := by decide +kernel
theorem d1_24 : dk B9 24 (.iconst 3) 1 := by decide +kernel
theorem d1_25 : dk B9 25 (.getstatic 19) 3 := by decide +kernel
theorem d1_28 : dk B9 28 (.aastore) 1 := by decide +kernel
theorem d1_29 : dk B9 29 (.dup) 1 := by decide +kernel
theorem d1_30 : dk B9 30 (.iconst 4) 1 := by decide +kernel
theorem d1_31 : dk B9 31 (.getstatic 22) 3 := by decide +kernel
theorem d1_34 : dk B9 34 (.aastore) 1 := by decide +kernel
theorem d1_35 : dk B9 35 (.dup) 1 := by decide +kernel
theorem d1_36 : dk B9 36 (.iconst 5) 1 := by decide +kernel
theorem d1_37 : dk B9 37 (.getstatic 25) 3 := by decide +kernel
theorem d1_40 : dk B9 40 (.aastore) 1 := by decide +kernel
theorem d1_41 : dk B9 41 (.dup) 1 := by decide +kernel
theorem d1_42 : dk B9 42 (.bipush 6) 2 := by decide +kernel
theorem d1_44 : dk B9 44 (.getstatic 28) 3 := by decide +kernel
theorem d1_47 : dk B9 47 (.aastore) 1 := by decide +kernel
theorem d1_48 : dk B9 48 (.dup) 1 := by decide +kernel
theorem d1_49 : dk B9 49 (.bipush 7) 2 := by decide +kernel
theorem d1_51 : dk B9 51 (.getstatic 31) 3 := by decide +kernel
theorem d1_54 : dk B9 54 (.aastore) 1 := by decide +kernel
theorem d1_55 : dk B9 55 (.dup) 1 := by decide +kernel
theorem d1_56 : dk B9 56 (.bipush 8) 2 := by decide +kernel
theorem d1_58 : dk B9 58 (.getstatic 34) 3 := by decide +kernel
theorem d1_61 : dk B9 61 (.aastore) 1 := by decide +kernel
theorem d1_62 : dk B9 62 (.dup) 1 := by decide +kernel
theorem d1_63 : dk B9 63 (.bipush 9) 2 := by decide +kernel
theorem d1_65 : dk B9 65 (.getstatic 37) 3 := by decide +kernel
theorem d1_68 : dk B9 68 (.aastore) 1 := by decide +kernel
theorem d1_69 : dk B9 69 (.dup) 1 := by decide +kernel
theorem d1_70 : dk B9 70 (.bipush 10) 2 := by decide +kernel
theorem d1_72 : dk B9 72 (.getstatic 40) 3 := by decide +kernel
theorem d1_75 : dk B9 75 (.aastore) 1 := by decide +kernel
theorem d1_76 : dk B9 76 (.dup) 1 := by decide +kernel
theorem d1_77 : dk B9 77 (.bipush 11) 2 := by decide +kernel
theorem d1_79 : dk B9 79 (.getstatic 43) 3 := by decide +kernel
theorem d1_82 : dk B9 82 (.aastore) 1 := by decide +kernel
theorem d1_83 : dk B9 83 (.dup) 1 := by decide +kernel
theorem d1_84 : dk B9 84 (.bipush 12) 2 := by decide +kernel
theorem d1_86 : dk B9 86 (.getstatic 46) 3 := by decide +kernel
theorem d1_89 : dk B9 89 (.aastore) 1 := by decide +kernel
theorem d1_90 : dk B9 90 (.dup) 1 := by decide +kernel
theorem d1_91 : dk B9 91 (.bipush 13) 2 := by decide +kernel
theorem d1_93 : dk B9 93 (.getstatic 49) 3 := by decide +kernel
theorem d1_96 : dk B9 96 (.aastore) 1 := by decide +kernel
theorem d1_97 : dk B9 97 (.dup) 1 := by decide +kernel
theorem d1_98 : dk B9 98 (.bipush 14) 2 := by decide +kernel
theorem d1_100 : dk B9 100 (.getstatic 52) 3 := by decide +kernel
theorem d1_103 : dk B9 103 (.aastore) 1 := by decide +kernel
theorem d1_104 : dk B9 104 (.astore_n 1) 1 := by decide +kernel
theorem d1_105 : dk B9 105 (.aload_n 1) 1 := by decide +kernel
theorem d1_106 : dk B9 106 (.iload_n 0) 1 := by decide +kernel
theorem d1_107 : dk B9 107 (.aaload) 1 := by decide +kernel
theorem d1_108 : dk B9 108 (.areturn) 1 := by decide +kernel
theorem pn_1 : plainName "com/example/cartouche/cartouche/crosswalks/DcValueEqualsPinLaw" = true := by first | (simp [plainName, overriddenIn]; done) | decide +kernel
theorem ef_el (m : MethodId) (x0 : Int32) : entryFrame m #[(.int x0)] 2 = mkF m 0 #[.val (.int x0), .unset] [] := by first | (simp [entryFrame, mkF, argsToLocals, Value.category]; done) | rfl
def Q_el (Z : State) (kx : Int32) (vx : Addr) (w_TITLE : Addr) (w_CREATOR : Addr) (w_SUBJECT : Addr) (w_DESCRIPTION : Addr) (w_PUBLISHER : Addr) (w_CONTRIBUTOR : Addr) (w_DATE : Addr) (w_TYPE : Addr) (w_FORMAT : Addr) (w_IDENTIFIER : Addr) (w_SOURCE : Addr) (w_LANGUAGE : Addr) (w_RELATION : Addr) (w_COVERAGE : Addr) (w_RIGHTS : Addr) (h0 : Heap) (n0 : Nat) (v : Option Value) (h : Heap) (L : List Loc) : Prop := v = some (.ref vx) ∧ Fr n0 L ∧ Keep h0 h []
theorem rm_el (l : Launch) (Z : State) (a0 : Array Value) (hw : HW a0 Z) (ws : List Jvm.Cond) (kx : Int32) (vx : Addr) (w_TITLE : Addr) (w_CREATOR : Addr) (w_SUBJECT : Addr) (w_DESCRIPTION : Addr) (w_PUBLISHER : Addr) (w_CONTRIBUTOR : Addr) (w_DATE : Addr) (w_TYPE : Addr) (w_FORMAT : Addr) (w_IDENTIFIER : Addr) (w_SOURCE : Addr) (w_LANGUAGE : Addr) (w_RELATION : Addr) (w_COVERAGE : Addr) (w_RIGHTS : Addr) (h0 : Heap) (n0 : Nat) (Z0 : n0 ≤ h0.size) (O0 : Old Z n0 h0) (S_TITLE : sk1 Z Z.heap (.ref w_TITLE)) (S_CREATOR : sk2 Z Z.heap (.ref w_CREATOR)) (S_SUBJECT : sk3 Z Z.heap (.ref w_SUBJECT)) (S_DESCRIPTION : sk4 Z Z.heap (.ref w_DESCRIPTION)) (S_PUBLISHER : sk5 Z Z.heap (.ref w_PUBLISHER)) (S_CONTRIBUTOR : sk6 Z Z.heap (.ref w_CONTRIBUTOR)) (S_DATE : sk7 Z Z.heap (.ref w_DATE)) (S_TYPE : sk8 Z Z.heap (.ref w_TYPE)) (S_FORMAT : sk9 Z Z.heap (.ref w_FORMAT)) (S_IDENTIFIER : sk10 Z Z.heap (.ref w_IDENTIFIER)) (S_SOURCE : sk11 Z Z.heap (.ref w_SOURCE)) (S_LANGUAGE : sk12 Z Z.heap (.ref w_LANGUAGE)) (S_RELATION : sk13 Z Z.heap (.ref w_RELATION)) (S_COVERAGE : sk14 Z Z.heap (.ref w_COVERAGE)) (S_RIGHTS : sk15 Z Z.heap (.ref w_RIGHTS)) (E_TITLE : ek23 Z Z.heap w_TITLE) (E_CREATOR : ek23 Z Z.heap w_CREATOR) (E_SUBJECT : ek23 Z Z.heap w_SUBJECT) (E_DESCRIPTION : ek23 Z Z.heap w_DESCRIPTION) (E_PUBLISHER : ek23 Z Z.heap w_PUBLISHER) (E_CONTRIBUTOR : ek23 Z Z.heap w_CONTRIBUTOR) (E_DATE : ek23 Z Z.heap w_DATE) (E_TYPE : ek23 Z Z.heap w_TYPE) (E_FORMAT : ek23 Z Z.heap w_FORMAT) (E_IDENTIFIER : ek23 Z Z.heap w_IDENTIFIER) (E_SOURCE : ek23 Z Z.heap w_SOURCE) (E_LANGUAGE : ek23 Z Z.heap w_LANGUAGE) (E_RELATION : ek23 Z Z.heap w_RELATION) (E_COVERAGE : ek23 Z Z.heap w_COVERAGE) (E_RIGHTS : ek23 Z Z.heap w_RIGHTS) (hE : own_el kx vx w_TITLE w_CREATOR w_SUBJECT w_DESCRIPTION w_PUBLISHER w_CONTRIBUTOR w_DATE w_TYPE w_FORMAT w_IDENTIFIER w_SOURCE w_LANGUAGE w_RELATION w_COVERAGE w_RIGHTS) :
    M8 l ws (rmk 0 1 15 0) Z #[(.int kx)] h0 (Q_el Z kx vx w_TITLE w_CREATOR w_SUBJECT w_DESCRIPTION w_PUBLISHER w_CONTRIBUTOR w_DATE w_TYPE w_FORMAT w_IDENTIFIER w_SOURCE w_LANGUAGE w_RELATION w_COVERAGE w_RIGHTS h0 n0) := by
  refine own_go "com/example/cartouche/cartouche/crosswalks/DcValueEqualsPinLaw" rfl (plainFor_of_name pn_1) (fun m => ef_el m kx) (fun p e s m below meth c s₁ hx hby hml hown hnm hlk hret hZ X0 e0 => ?_)
  have N0 := Fr.nil n0
  have K0 := Keep.refl h0 []
  show gs s₁ m 0 #[vi kx, .unset] []
  refine own_st (fun _ kS => XS.bipush X0.here hx rfl (hb hby d1_0) kS) ?_
  show gs s₁ m 2 #[vi kx, .unset] [(.int 15)]
  obtain ⟨T1, h1, k1, X1, e1, E1, A1, V1, st1⟩ := newR X0 hx hZ hown (own_w hw 8 rfl) (own_w hw 9 rfl) e0 (g := (mkF m 2 #[vi kx, .unset] [(.int 15)])) rfl (hb hby d1_2) rfl (by decide) (cap := 15) (by decide) (by decide) (by decide) (by decide)
  obtain ⟨b1, g1⟩ : ∃ z, z = h0.size := ⟨_, rfl⟩
  have ge_b1 : n0 ≤ b1 := Nat.le_trans Z0 (Nat.le_of_eq g1.symm)
  have sz_b1 : h0.size ≤ b1 := Nat.le_trans K0.1 (Nat.le_of_eq g1.symm)
  rw [← g1] at A1 st1
  have K1 := K0.ext E1
  have O1 := O0.ext E1
  have R1 : Arv Z h1 b1 k1 (.object "com/example/cartouche/cartouche/crosswalks/DcElement") (15 : Int32) [.null, .null, .null, .null, .null, .null, .null, .null, .null, .null, .null, .null, .null, .null, .null] .null := (Arv.new A1 (by decide)).pad (pad_rep [] .null 15)
  refine own_st st1 ?_
  show gs T1 m 5 #[vi kx, .unset] [(.ref b1)]
  refine own_st (fun _ kS => XS.dup X1.here hx rfl (hb hby d1_5) rfl rfl kS) ?_
  refine oiconst X1 hx hby d1_6 ?_
  obtain ⟨T2, X2, e2, st2⟩ := getS2 X1 hx hZ hown (host := "") (Or.inl (own_w hw 10 rfl)) Via.refl e1 (Sta.ext O1.2 S_TITLE) (g := (mkF m 7 #[vi kx, .unset] [(.int 0), (.ref b1), (.ref b1)])) rfl (hb hby d1_7)
  refine own_st st2 ?_
  show gs T2 m 10 #[vi kx, .unset] [(.ref w_TITLE), (.int 0), (.ref b1), (.ref b1)]
  obtain ⟨cl3, Ar3, qa3, qs3, qn3, qh3, qg3⟩ := id R1
  obtain ⟨T3, h3, X3, e3, W3, st3⟩ := stR X2 hx hZ e2 Ar3 (j := (0 : Int32)) (inb_of qs3 ⟨by decide, by decide⟩) rfl (Sto.ofV Ar3 qa3 V1 (Ins.self (Exa.ext O1.2 E_TITLE))) (g := (mkF m 10 #[vi kx, .unset] [(.ref w_TITLE), (.int 0), (.ref b1), (.ref b1)])) rfl rfl (hb hby d1_10)
  have N3 := Fr.snoc X3 N0 ge_b1
  have K3 := K1.wr W3 (Or.inr sz_b1)
  have O3 := O1.wr W3 ge_b1
  have R3 : Arv Z h3 b1 k1 (.object "com/example/cartouche/cartouche/crosswalks/DcElement") (15 : Int32) [(.ref w_TITLE), .null, .null, .null, .null, .null, .null, .null, .null, .null, .null, .null, .null, .null, .null] .null := Arv.set Ar3 qa3 qs3 qn3 qh3 qg3 rfl W3 0 rfl (Nat.le_of_ble_eq_true rfl)
  refine own_st st3 ?_
  show gs T3 m 11 #[vi kx, .unset] [(.ref b1)]
  refine own_st (fun _ kS => XS.dup X3.here hx rfl (hb hby d1_11) rfl rfl kS) ?_
  refine oiconst X3 hx hby d1_12 ?_
  obtain ⟨T4, X4, e4, st4⟩ := getS2 X3 hx hZ hown (host := "") (Or.inl (own_w hw 14 rfl)) Via.refl e3 (Sta.ext O3.2 S_CREATOR) (g := (mkF m 13 #[vi kx, .unset] [(.int 1), (.ref b1), (.ref b1)])) rfl (hb hby d1_13)
  refine own_st st4 ?_
  show gs T4 m 16 #[vi kx, .unset] [(.ref w_CREATOR), (.int 1), (.ref b1), (.ref b1)]
  obtain ⟨cl5, Ar5, qa5, qs5, qn5, qh5, qg5⟩ := id R3
  obtain ⟨T5, h5, X5, e5, W5, st5⟩ := stR X4 hx hZ e4 Ar5 (j := (1 : Int32)) (inb_of qs5 ⟨by decide, by decide⟩) rfl (Sto.ofV Ar5 qa5 V1 (Ins.self (Exa.ext O3.2 E_CREATOR))) (g := (mkF m 16 #[vi kx, .unset] [(.ref w_CREATOR), (.int 1), (.ref b1), (.ref b1)])) rfl rfl (hb hby d1_16)
  have N5 := Fr.snoc X5 N3 ge_b1
  have K5 := K3.wr W5 (Or.inr sz_b1)
  have O5 := O3.wr W5 ge_b1
  have R5 : Arv Z h5 b1 k1 (.object "com/example/cartouche/cartouche/crosswalks/DcElement") (15 : Int32) [(.ref w_TITLE), (.ref w_CREATOR), .null, .null, .null, .null, .null, .null, .null, .null, .null, .null, .null, .null, .null] .null := Arv.set Ar5 qa5 qs5 qn5 qh5 qg5 rfl W5 1 rfl (Nat.le_of_ble_eq_true rfl)
  refine own_st st5 ?_
  show gs T5 m 17 #[vi kx, .unset] [(.ref b1)]
  refine own_st (fun _ kS => XS.dup X5.here hx rfl (hb hby d1_17) rfl rfl kS) ?_
  refine oiconst X5 hx hby d1_18 ?_
  obtain ⟨T6, X6, e6, st6⟩ := getS2 X5 hx hZ hown (host := "") (Or.inl (own_w hw 16 rfl)) Via.refl e5 (Sta.ext O5.2 S_SUBJECT) (g := (mkF m 19 #[vi kx, .unset] [(.int 2), (.ref b1), (.ref b1)])) rfl (hb hby d1_19)
  refine own_st st6 ?_
  show gs T6 m 22 #[vi kx, .unset] [(.ref w_SUBJECT), (.int 2), (.ref b1), (.ref b1)]
  obtain ⟨cl7, Ar7, qa7, qs7, qn7, qh7, qg7⟩ := id R5
  obtain ⟨T7, h7, X7, e7, W7, st7⟩ := stR X6 hx hZ e6 Ar7 (j := (2 : Int32)) (inb_of qs7 ⟨by decide, by decide⟩) rfl (Sto.ofV Ar7 qa7 V1 (Ins.self (Exa.ext O5.2 E_SUBJECT))) (g := (mkF m 22 #[vi kx, .unset] [(.ref w_SUBJECT), (.int 2), (.ref b1), (.ref b1)])) rfl rfl (hb hby d1_22)
  have N7 := Fr.snoc X7 N5 ge_b1
  have K7 := K5.wr W7 (Or.inr sz_b1)
  have O7 := O5.wr W7 ge_b1
  have R7 : Arv Z h7 b1 k1 (.object "com/example/cartouche/cartouche/crosswalks/DcElement") (15 : Int32) [(.ref w_TITLE), (.ref w_CREATOR), (.ref w_SUBJECT), .null, .null, .null, .null, .null, .null, .null, .null, .null, .null, .null, .null] .null := Arv.set Ar7 qa7 qs7 qn7 qh7 qg7 rfl W7 2 rfl (Nat.le_of_ble_eq_true rfl)
  refine own_st st7 ?_
  show gs T7 m 23 #[vi kx, .unset] [(.ref b1)]
  refine own_st (fun _ kS => XS.dup X7.here hx rfl (hb hby d1_23) rfl rfl kS) ?_
  refine oiconst X7 hx hby d1_24 ?_
  obtain ⟨T8, X8, e8, st8⟩ := getS2 X7 hx hZ hown (host := "") (Or.inl (own_w hw 18 rfl)) Via.refl e7 (Sta.ext O7.2 S_DESCRIPTION) (g := (mkF m 25 #[vi kx, .unset] [(.int 3), (.ref b1), (.ref b1)])) rfl (hb hby d1_25)
  refine own_st st8 ?_
  show gs T8 m 28 #[vi kx, .unset] [(.ref w_DESCRIPTION), (.int 3), (.ref b1), (.ref b1)]
  obtain ⟨cl9, Ar9, qa9, qs9, qn9, qh9, qg9⟩ := id R7
  obtain ⟨T9, h9, X9, e9, W9, st9⟩ := stR X8 hx hZ e8 Ar9 (j := (3 : Int32)) (inb_of qs9 ⟨by decide, by decide⟩) rfl (Sto.ofV Ar9 qa9 V1 (Ins.self (Exa.ext O7.2 E_DESCRIPTION))) (g := (mkF m 28 #[vi kx, .unset] [(.ref w_DESCRIPTION), (.int 3), (.ref b1), (.ref b1)])) rfl rfl (hb hby d1_28)
  have N9 := Fr.snoc X9 N7 ge_b1
  have K9 := K7.wr W9 (Or.inr sz_b1)
  have O9 := O7.wr W9 ge_b1
  have R9 : Arv Z h9 b1 k1 (.object "com/example/cartouche/cartouche/crosswalks/DcElement") (15 : Int32) [(.ref w_TITLE), (.ref w_CREATOR), (.ref w_SUBJECT), (.ref w_DESCRIPTION), .null, .null, .null, .null, .null, .null, .null, .null, .null, .null, .null] .null := Arv.set Ar9 qa9 qs9 qn9 qh9 qg9 rfl W9 3 rfl (Nat.le_of_ble_eq_true rfl)
  refine own_st st9 ?_
  show gs T9 m 29 #[vi kx, .unset] [(.ref b1)]
  refine own_st (fun _ kS => XS.dup X9.here hx rfl (hb hby d1_29) rfl rfl kS) ?_
  refine oiconst X9 hx hby d1_30 ?_
  obtain ⟨T10, X10, e10, st10⟩ := getS2 X9 hx hZ hown (host := "") (Or.inl (own_w hw 20 rfl)) Via.refl e9 (Sta.ext O9.2 S_PUBLISHER) (g := (mkF m 31 #[vi kx, .unset] [(.int 4), (.ref b1), (.ref b1)])) rfl (hb hby d1_31)
  refine own_st st10 ?_
  show gs T10 m 34 #[vi kx, .unset] [(.ref w_PUBLISHER), (.int 4), (.ref b1), (.ref b1)]
  obtain ⟨cl11, Ar11, qa11, qs11, qn11, qh11, qg11⟩ := id R9
  obtain ⟨T11, h11, X11, e11, W11, st11⟩ := stR X10 hx hZ e10 Ar11 (j := (4 : Int32)) (inb_of qs11 ⟨by decide, by decide⟩) rfl (Sto.ofV Ar11 qa11 V1 (Ins.self (Exa.ext O9.2 E_PUBLISHER))) (g := (mkF m 34 #[vi kx, .unset] [(.ref w_PUBLISHER), (.int 4), (.ref b1), (.ref b1)])) rfl rfl (hb hby d1_34)
  have N11 := Fr.snoc X11 N9 ge_b1
  have K11 := K9.wr W11 (Or.inr sz_b1)
  have O11 := O9.wr W11 ge_b1
  have R11 : Arv Z h11 b1 k1 (.object "com/example/cartouche/cartouche/crosswalks/DcElement") (15 : Int32) [(.ref w_TITLE), (.ref w_CREATOR), (.ref w_SUBJECT), (.ref w_DESCRIPTION), (.ref w_PUBLISHER), .null, .null, .null, .null, .null, .null, .null, .null, .null, .null] .null := Arv.set Ar11 qa11 qs11 qn11 qh11 qg11 rfl W11 4 rfl (Nat.le_of_ble_eq_true rfl)
  refine own_st st11 ?_
  show gs T11 m 35 #[vi kx, .unset] [(.ref b1)]
  refine own_st (fun _ kS => XS.dup X11.here hx rfl (hb hby d1_35) rfl rfl kS) ?_
  refine oiconst X11 hx hby d1_36 ?_
  obtain ⟨T12, X12, e12, st12⟩ := getS2 X11 hx hZ hown (host := "") (Or.inl (own_w hw 22 rfl)) Via.refl e11 (Sta.ext O11.2 S_CONTRIBUTOR) (g := (mkF m 37 #[vi kx, .unset] [(.int 5), (.ref b1), (.ref b1)])) rfl (hb hby d1_37)
  refine own_st st12 ?_
  show gs T12 m 40 #[vi kx, .unset] [(.ref w_CONTRIBUTOR), (.int 5), (.ref b1), (.ref b1)]
  obtain ⟨cl13, Ar13, qa13, qs13, qn13, qh13, qg13⟩ := id R11
  obtain ⟨T13, h13, X13, e13, W13, st13⟩ := stR X12 hx hZ e12 Ar13 (j := (5 : Int32)) (inb_of qs13 ⟨by decide, by decide⟩) rfl (Sto.ofV Ar13 qa13 V1 (Ins.self (Exa.ext O11.2 E_CONTRIBUTOR))) (g := (mkF m 40 #[vi kx, .unset] [(.ref w_CONTRIBUTOR), (.int 5), (.ref b1), (.ref b1)])) rfl rfl (hb hby d1_40)
  have N13 := Fr.snoc X13 N11 ge_b1
  have K13 := K11.wr W13 (Or.inr sz_b1)
  have O13 := O11.wr W13 ge_b1
  have R13 : Arv Z h13 b1 k1 (.object "com/example/cartouche/cartouche/crosswalks/DcElement") (15 : Int32) [(.ref w_TITLE), (.ref w_CREATOR), (.ref w_SUBJECT), (.ref w_DESCRIPTION), (.ref w_PUBLISHER), (.ref w_CONTRIBUTOR), .null, .null, .null, .null, .null, .null, .null, .null, .null] .null := Arv.set Ar13 qa13 qs13 qn13 qh13 qg13 rfl W13 5 rfl (Nat.le_of_ble_eq_true rfl)
  refine own_st st13 ?_
  show gs T13 m 41 #[vi kx, .unset] [(.ref b1)]
  refine own_st (fun _ kS => XS.dup X13.here hx rfl (hb hby d1_41) rfl rfl kS) ?_
  refine own_st (fun _ kS => XS.bipush X13.here hx rfl (hb hby d1_42) kS) ?_
  show gs T13 m 44 #[vi kx, .unset] [(.int 6), (.ref b1), (.ref b1)]
  obtain ⟨T14, X14, e14, st14⟩ := getS2 X13 hx hZ hown (host := "") (Or.inl (own_w hw 24 rfl)) Via.refl e13 (Sta.ext O13.2 S_DATE) (g := (mkF m 44 #[vi kx, .unset] [(.int 6), (.ref b1), (.ref b1)])) rfl (hb hby d1_44)
  refine own_st st14 ?_
  show gs T14 m 47 #[vi kx, .unset] [(.ref w_DATE), (.int 6), (.ref b1), (.ref b1)]
  obtain ⟨cl15, Ar15, qa15, qs15, qn15, qh15, qg15⟩ := id R13
  obtain ⟨T15, h15, X15, e15, W15, st15⟩ := stR X14 hx hZ e14 Ar15 (j := (6 : Int32)) (inb_of qs15 ⟨by decide, by decide⟩) rfl (Sto.ofV Ar15 qa15 V1 (Ins.self (Exa.ext O13.2 E_DATE))) (g := (mkF m 47 #[vi kx, .unset] [(.ref w_DATE), (.int 6), (.ref b1), (.ref b1)])) rfl rfl (hb hby d1_47)
  have N15 := Fr.snoc X15 N13 ge_b1
  have K15 := K13.wr W15 (Or.inr sz_b1)
  have O15 := O13.wr W15 ge_b1
  have R15 : Arv Z h15 b1 k1 (.object "com/example/cartouche/cartouche/crosswalks/DcElement") (15 : Int32) [(.ref w_TITLE), (.ref w_CREATOR), (.ref w_SUBJECT), (.ref w_DESCRIPTION), (.ref w_PUBLISHER), (.ref w_CONTRIBUTOR), (.ref w_DATE), .null, .null, .null, .null, .null, .null, .null, .null] .null := Arv.set Ar15 qa15 qs15 qn15 qh15 qg15 rfl W15 6 rfl (Nat.le_of_ble_eq_true rfl)
  refine own_st st15 ?_
  show gs T15 m 48 #[vi kx, .unset] [(.ref b1)]
  refine own_st (fun _ kS => XS.dup X15.here hx rfl (hb hby d1_48) rfl rfl kS) ?_
  refine own_st (fun _ kS => XS.bipush X15.here hx rfl (hb hby d1_49) kS) ?_
  show gs T15 m 51 #[vi kx, .unset] [(.int 7), (.ref b1), (.ref b1)]
  obtain ⟨T16, X16, e16, st16⟩ := getS2 X15 hx hZ hown (host := "") (Or.inl (own_w hw 26 rfl)) Via.refl e15 (Sta.ext O15.2 S_TYPE) (g := (mkF m 51 #[vi kx, .unset] [(.int 7), (.ref b1), (.ref b1)])) rfl (hb hby d1_51)
  refine own_st st16 ?_
  show gs T16 m 54 #[vi kx, .unset] [(.ref w_TYPE), (.int 7), (.ref b1), (.ref b1)]
  obtain ⟨cl17, Ar17, qa17, qs17, qn17, qh17, qg17⟩ := id R15
  obtain ⟨T17, h17, X17, e17, W17, st17⟩ := stR X16 hx hZ e16 Ar17 (j := (7 : Int32)) (inb_of qs17 ⟨by decide, by decide⟩) rfl (Sto.ofV Ar17 qa17 V1 (Ins.self (Exa.ext O15.2 E_TYPE))) (g := (mkF m 54 #[vi kx, .unset] [(.ref w_TYPE), (.int 7), (.ref b1), (.ref b1)])) rfl rfl (hb hby d1_54)
  have N17 := Fr.snoc X17 N15 ge_b1
  have K17 := K15.wr W17 (Or.inr sz_b1)
  have O17 := O15.wr W17 ge_b1
  have R17 : Arv Z h17 b1 k1 (.object "com/example/cartouche/cartouche/crosswalks/DcElement") (15 : Int32) [(.ref w_TITLE), (.ref w_CREATOR), (.ref w_SUBJECT), (.ref w_DESCRIPTION), (.ref w_PUBLISHER), (.ref w_CONTRIBUTOR), (.ref w_DATE), (.ref w_TYPE), .null, .null, .null, .null, .null, .null, .null] .null := Arv.set Ar17 qa17 qs17 qn17 qh17 qg17 rfl W17 7 rfl (Nat.le_of_ble_eq_true rfl)
  refine own_st st17 ?_
  show gs T17 m 55 #[vi kx, .unset] [(.ref b1)]
  refine own_st (fun _ kS => XS.dup X17.here hx rfl (hb hby d1_55) rfl rfl kS) ?_
  refine own_st (fun _ kS => XS.bipush X17.here hx rfl (hb hby d1_56) kS) ?_
  show gs T17 m 58 #[vi kx, .unset] [(.int 8), (.ref b1), (.ref b1)]
  obtain ⟨T18, X18, e18, st18⟩ := getS2 X17 hx hZ hown (host := "") (Or.inl (own_w hw 28 rfl)) Via.refl e17 (Sta.ext O17.2 S_FORMAT) (g := (mkF m 58 #[vi kx, .unset] [(.int 8), (.ref b1), (.ref b1)])) rfl (hb hby d1_58)
  refine own_st st18 ?_
  show gs T18 m 61 #[vi kx, .unset] [(.ref w_FORMAT), (.int 8), (.ref b1), (.ref b1)]
  obtain ⟨cl19, Ar19, qa19, qs19, qn19, qh19, qg19⟩ := id R17
  obtain ⟨T19, h19, X19, e19, W19, st19⟩ := stR X18 hx hZ e18 Ar19 (j := (8 : Int32)) (inb_of qs19 ⟨by decide, by decide⟩) rfl (Sto.ofV Ar19 qa19 V1 (Ins.self (Exa.ext O17.2 E_FORMAT))) (g := (mkF m 61 #[vi kx, .unset] [(.ref w_FORMAT), (.int 8), (.ref b1), (.ref b1)])) rfl rfl (hb hby d1_61)
  have N19 := Fr.snoc X19 N17 ge_b1
  have K19 := K17.wr W19 (Or.inr sz_b1)
  have O19 := O17.wr W19 ge_b1
  have R19 : Arv Z h19 b1 k1 (.object "com/example/cartouche/cartouche/crosswalks/DcElement") (15 : Int32) [(.ref w_TITLE), (.ref w_CREATOR), (.ref w_SUBJECT), (.ref w_DESCRIPTION), (.ref w_PUBLISHER), (.ref w_CONTRIBUTOR), (.ref w_DATE), (.ref w_TYPE), (.ref w_FORMAT), .null, .null, .null, .null, .null, .null] .null := Arv.set Ar19 qa19 qs19 qn19 qh19 qg19 rfl W19 8 rfl (Nat.le_of_ble_eq_true rfl)
  refine own_st st19 ?_
  show gs T19 m 62 #[vi kx, .unset] [(.ref b1)]
  refine own_st (fun _ kS => XS.dup X19.here hx rfl (hb hby d1_62) rfl rfl kS) ?_
  refine own_st (fun _ kS => XS.bipush X19.here hx rfl (hb hby d1_63) kS) ?_
  show gs T19 m 65 #[vi kx, .unset] [(.int 9), (.ref b1), (.ref b1)]
  obtain ⟨T20, X20, e20, st20⟩ := getS2 X19 hx hZ hown (host := "") (Or.inl (own_w hw 30 rfl)) Via.refl e19 (Sta.ext O19.2 S_IDENTIFIER) (g := (mkF m 65 #[vi kx, .unset] [(.int 9), (.ref b1), (.ref b1)])) rfl (hb hby d1_65)
  refine own_st st20 ?_
  show gs T20 m 68 #[vi kx, .unset] [(.ref w_IDENTIFIER), (.int 9), (.ref b1), (.ref b1)]
  obtain ⟨cl21, Ar21, qa21, qs21, qn21, qh21, qg21⟩ := id R19
  obtain ⟨T21, h21, X21, e21, W21, st21⟩ := stR X20 hx hZ e20 Ar21 (j := (9 : Int32)) (inb_of qs21 ⟨by decide, by decide⟩) rfl (Sto.ofV Ar21 qa21 V1 (Ins.self (Exa.ext O19.2 E_IDENTIFIER))) (g := (mkF m 68 #[vi kx, .unset] [(.ref w_IDENTIFIER), (.int 9), (.ref b1), (.ref b1)])) rfl rfl (hb hby d1_68)
  have N21 := Fr.snoc X21 N19 ge_b1
  have K21 := K19.wr W21 (Or.inr sz_b1)
  have O21 := O19.wr W21 ge_b1
  have R21 : Arv Z h21 b1 k1 (.object "com/example/cartouche/cartouche/crosswalks/DcElement") (15 : Int32) [(.ref w_TITLE), (.ref w_CREATOR), (.ref w_SUBJECT), (.ref w_DESCRIPTION), (.ref w_PUBLISHER), (.ref w_CONTRIBUTOR), (.ref w_DATE), (.ref w_TYPE), (.ref w_FORMAT), (.ref w_IDENTIFIER), .null, .null, .null, .null, .null] .null := Arv.set Ar21 qa21 qs21 qn21 qh21 qg21 rfl W21 9 rfl (Nat.le_of_ble_eq_true rfl)
  refine own_st st21 ?_
  show gs T21 m 69 #[vi kx, .unset] [(.ref b1)]
  refine own_st (fun _ kS => XS.dup X21.here hx rfl (hb hby d1_69) rfl rfl kS) ?_
  refine own_st (fun _ kS => XS.bipush X21.here hx rfl (hb hby d1_70) kS) ?_
  show gs T21 m 72 #[vi kx, .unset] [(.int 10), (.ref b1), (.ref b1)]
  obtain ⟨T22, X22, e22, st22⟩ := getS2 X21 hx hZ hown (host := "") (Or.inl (own_w hw 32 rfl)) Via.refl e21 (Sta.ext O21.2 S_SOURCE) (g := (mkF m 72 #[vi kx, .unset] [(.int 10), (.ref b1), (.ref b1)])) rfl (hb hby d1_72)
  refine own_st st22 ?_
  show gs T22 m 75 #[vi kx, .unset] [(.ref w_SOURCE), (.int 10), (.ref b1), (.ref b1)]
  obtain ⟨cl23, Ar23, qa23, qs23, qn23, qh23, qg23⟩ := id R21
  obtain ⟨T23, h23, X23, e23, W23, st23⟩ := stR X22 hx hZ e22 Ar23 (j := (10 : Int32)) (inb_of qs23 ⟨by decide, by decide⟩) rfl (Sto.ofV Ar23 qa23 V1 (Ins.self (Exa.ext O21.2 E_SOURCE))) (g := (mkF m 75 #[vi kx, .unset] [(.ref w_SOURCE), (.int 10), (.ref b1), (.ref b1)])) rfl rfl (hb hby d1_75)
  have N23 := Fr.snoc X23 N21 ge_b1
  have K23 := K21.wr W23 (Or.inr sz_b1)
  have O23 := O21.wr W23 ge_b1
  have R23 : Arv Z h23 b1 k1 (.object "com/example/cartouche/cartouche/crosswalks/DcElement") (15 : Int32) [(.ref w_TITLE), (.ref w_CREATOR), (.ref w_SUBJECT), (.ref w_DESCRIPTION), (.ref w_PUBLISHER), (.ref w_CONTRIBUTOR), (.ref w_DATE), (.ref w_TYPE), (.ref w_FORMAT), (.ref w_IDENTIFIER), (.ref w_SOURCE), .null, .null, .null, .null] .null := Arv.set Ar23 qa23 qs23 qn23 qh23 qg23 rfl W23 10 rfl (Nat.le_of_ble_eq_true rfl)
  refine own_st st23 ?_
  show gs T23 m 76 #[vi kx, .unset] [(.ref b1)]
  refine own_st (fun _ kS => XS.dup X23.here hx rfl (hb hby d1_76) rfl rfl kS) ?_
  refine own_st (fun _ kS => XS.bipush X23.here hx rfl (hb hby d1_77) kS) ?_
  show gs T23 m 79 #[vi kx, .unset] [(.int 11), (.ref b1), (.ref b1)]
  obtain ⟨T24, X24, e24, st24⟩ := getS2 X23 hx hZ hown (host := "") (Or.inl (own_w hw 34 rfl)) Via.refl e23 (Sta.ext O23.2 S_LANGUAGE) (g := (mkF m 79 #[vi kx, .unset] [(.int 11), (.ref b1), (.ref b1)])) rfl (hb hby d1_79)
  refine own_st st24 ?_
  show gs T24 m 82 #[vi kx, .unset] [(.ref w_LANGUAGE), (.int 11), (.ref b1), (.ref b1)]
  obtain ⟨cl25, Ar25, qa25, qs25, qn25, qh25, qg25⟩ := id R23
  obtain ⟨T25, h25, X25, e25, W25, st25⟩ := stR X24 hx hZ e24 Ar25 (j := (11 : Int32)) (inb_of qs25 ⟨by decide, by decide⟩) rfl (Sto.ofV Ar25 qa25 V1 (Ins.self (Exa.ext O23.2 E_LANGUAGE))) (g := (mkF m 82 #[vi kx, .unset] [(.ref w_LANGUAGE), (.int 11), (.ref b1), (.ref b1)])) rfl rfl (hb hby d1_82)
  have N25 := Fr.snoc X25 N23 ge_b1
  have K25 := K23.wr W25 (Or.inr sz_b1)
  have O25 := O23.wr W25 ge_b1
  have R25 : Arv Z h25 b1 k1 (.object "com/example/cartouche/cartouche/crosswalks/DcElement") (15 : Int32) [(.ref w_TITLE), (.ref w_CREATOR), (.ref w_SUBJECT), (.ref w_DESCRIPTION), (.ref w_PUBLISHER), (.ref w_CONTRIBUTOR), (.ref w_DATE), (.ref w_TYPE), (.ref w_FORMAT), (.ref w_IDENTIFIER), (.ref w_SOURCE), (.ref w_LANGUAGE), .null, .null, .null] .null := Arv.set Ar25 qa25 qs25 qn25 qh25 qg25 rfl W25 11 rfl (Nat.le_of_ble_eq_true rfl)
  refine own_st st25 ?_
  show gs T25 m 83 #[vi kx, .unset] [(.ref b1)]
  refine own_st (fun _ kS => XS.dup X25.here hx rfl (hb hby d1_83) rfl rfl kS) ?_
  refine own_st (fun _ kS => XS.bipush X25.here hx rfl (hb hby d1_84) kS) ?_
  show gs T25 m 86 #[vi kx, .unset] [(.int 12), (.ref b1), (.ref b1)]
  obtain ⟨T26, X26, e26, st26⟩ := getS2 X25 hx hZ hown (host := "") (Or.inl (own_w hw 36 rfl)) Via.refl e25 (Sta.ext O25.2 S_RELATION) (g := (mkF m 86 #[vi kx, .unset] [(.int 12), (.ref b1), (.ref b1)])) rfl (hb hby d1_86)
  refine own_st st26 ?_
  show gs T26 m 89 #[vi kx, .unset] [(.ref w_RELATION), (.int 12), (.ref b1), (.ref b1)]
  obtain ⟨cl27, Ar27, qa27, qs27, qn27, qh27, qg27⟩ := id R25
  obtain ⟨T27, h27, X27, e27, W27, st27⟩ := stR X26 hx hZ e26 Ar27 (j := (12 : Int32)) (inb_of qs27 ⟨by decide, by decide⟩) rfl (Sto.ofV Ar27 qa27 V1 (Ins.self (Exa.ext O25.2 E_RELATION))) (g := (mkF m 89 #[vi kx, .unset] [(.ref w_RELATION), (.int 12), (.ref b1), (.ref b1)])) rfl rfl (hb hby d1_89)
  have N27 := Fr.snoc X27 N25 ge_b1
  have K27 := K25.wr W27 (Or.inr sz_b1)
  have O27 := O25.wr W27 ge_b1
  have R27 : Arv Z h27 b1 k1 (.object "com/example/cartouche/cartouche/crosswalks/DcElement") (15 : Int32) [(.ref w_TITLE), (.ref w_CREATOR), (.ref w_SUBJECT), (.ref w_DESCRIPTION), (.ref w_PUBLISHER), (.ref w_CONTRIBUTOR), (.ref w_DATE), (.ref w_TYPE), (.ref w_FORMAT), (.ref w_IDENTIFIER), (.ref w_SOURCE), (.ref w_LANGUAGE), (.ref w_RELATION), .null, .null] .null := Arv.set Ar27 qa27 qs27 qn27 qh27 qg27 rfl W27 12 rfl (Nat.le_of_ble_eq_true rfl)
  refine own_st st27 ?_
  show gs T27 m 90 #[vi kx, .unset] [(.ref b1)]
  refine own_st (fun _ kS => XS.dup X27.here hx rfl (hb hby d1_90) rfl rfl kS) ?_
  refine own_st (fun _ kS => XS.bipush X27.here hx rfl (hb hby d1_91) kS) ?_
  show gs T27 m 93 #[vi kx, .unset] [(.int 13), (.ref b1), (.ref b1)]
  obtain ⟨T28, X28, e28, st28⟩ := getS2 X27 hx hZ hown (host := "") (Or.inl (own_w hw 38 rfl)) Via.refl e27 (Sta.ext O27.2 S_COVERAGE) (g := (mkF m 93 #[vi kx, .unset] [(.int 13), (.ref b1), (.ref b1)])) rfl (hb hby d1_93)
  refine own_st st28 ?_
  show gs T28 m 96 #[vi kx, .unset] [(.ref w_COVERAGE), (.int 13), (.ref b1), (.ref b1)]
  obtain ⟨cl29, Ar29, qa29, qs29, qn29, qh29, qg29⟩ := id R27
  obtain ⟨T29, h29, X29, e29, W29, st29⟩ := stR X28 hx hZ e28 Ar29 (j := (13 : Int32)) (inb_of qs29 ⟨by decide, by decide⟩) rfl (Sto.ofV Ar29 qa29 V1 (Ins.self (Exa.ext O27.2 E_COVERAGE))) (g := (mkF m 96 #[vi kx, .unset] [(.ref w_COVERAGE), (.int 13), (.ref b1), (.ref b1)])) rfl rfl (hb hby d1_96)
  have N29 := Fr.snoc X29 N27 ge_b1
  have K29 := K27.wr W29 (Or.inr sz_b1)
  have O29 := O27.wr W29 ge_b1
  have R29 : Arv Z h29 b1 k1 (.object "com/example/cartouche/cartouche/crosswalks/DcElement") (15 : Int32) [(.ref w_TITLE), (.ref w_CREATOR), (.ref w_SUBJECT), (.ref w_DESCRIPTION), (.ref w_PUBLISHER), (.ref w_CONTRIBUTOR), (.ref w_DATE), (.ref w_TYPE), (.ref w_FORMAT), (.ref w_IDENTIFIER), (.ref w_SOURCE), (.ref w_LANGUAGE), (.ref w_RELATION), (.ref w_COVERAGE), .null] .null := Arv.set Ar29 qa29 qs29 qn29 qh29 qg29 rfl W29 13 rfl (Nat.le_of_ble_eq_true rfl)
  refine own_st st29 ?_
  show gs T29 m 97 #[vi kx, .unset] [(.ref b1)]
  refine own_st (fun _ kS => XS.dup X29.here hx rfl (hb hby d1_97) rfl rfl kS) ?_
  refine own_st (fun _ kS => XS.bipush X29.here hx rfl (hb hby d1_98) kS) ?_
  show gs T29 m 100 #[vi kx, .unset] [(.int 14), (.ref b1), (.ref b1)]
  obtain ⟨T30, X30, e30, st30⟩ := getS2 X29 hx hZ hown (host := "") (Or.inl (own_w hw 40 rfl)) Via.refl e29 (Sta.ext O29.2 S_RIGHTS) (g := (mkF m 100 #[vi kx, .unset] [(.int 14), (.ref b1), (.ref b1)])) rfl (hb hby d1_100)
  refine own_st st30 ?_
  show gs T30 m 103 #[vi kx, .unset] [(.ref w_RIGHTS), (.int 14), (.ref b1), (.ref b1)]
  obtain ⟨cl31, Ar31, qa31, qs31, qn31, qh31, qg31⟩ := id R29
  obtain ⟨T31, h31, X31, e31, W31, st31⟩ := stR X30 hx hZ e30 Ar31 (j := (14 : Int32)) (inb_of qs31 ⟨by decide, by decide⟩) rfl (Sto.ofV Ar31 qa31 V1 (Ins.self (Exa.ext O29.2 E_RIGHTS))) (g := (mkF m 103 #[vi kx, .unset] [(.ref w_RIGHTS), (.int 14), (.ref b1), (.ref b1)])) rfl rfl (hb hby d1_103)
  have N31 := Fr.snoc X31 N29 ge_b1
  have K31 := K29.wr W31 (Or.inr sz_b1)
  have O31 := O29.wr W31 ge_b1
  have R31 : Arv Z h31 b1 k1 (.object "com/example/cartouche/cartouche/crosswalks/DcElement") (15 : Int32) [(.ref w_TITLE), (.ref w_CREATOR), (.ref w_SUBJECT), (.ref w_DESCRIPTION), (.ref w_PUBLISHER), (.ref w_CONTRIBUTOR), (.ref w_DATE), (.ref w_TYPE), (.ref w_FORMAT), (.ref w_IDENTIFIER), (.ref w_SOURCE), (.ref w_LANGUAGE), (.ref w_RELATION), (.ref w_COVERAGE), (.ref w_RIGHTS)] .null := Arv.set Ar31 qa31 qs31 qn31 qh31 qg31 rfl W31 14 rfl (Nat.le_of_ble_eq_true rfl)
  refine own_st st31 ?_
  show gs T31 m 104 #[vi kx, .unset] [(.ref b1)]
  refine own_st (fun _ kS => XS.astoreN X31.here hx rfl (hb hby d1_104) rfl rfl (l' := #[vi kx, vr b1]) rfl kS) ?_
  refine oaloadN X31 hx hby d1_105 rfl rfl ?_
  refine oiloadN X31 hx hby d1_106 rfl ?_
  show gs T31 m 107 #[vi kx, vr b1] [(.int kx), (.ref b1)]
  rcases hE with ⟨hk, hv⟩ | ⟨hk, hv⟩ | ⟨hk, hv⟩ | ⟨hk, hv⟩ | ⟨hk, hv⟩ | ⟨hk, hv⟩ | ⟨hk, hv⟩ | ⟨hk, hv⟩ | ⟨hk, hv⟩ | ⟨hk, hv⟩ | ⟨hk, hv⟩ | ⟨hk, hv⟩ | ⟨hk, hv⟩ | ⟨hk, hv⟩ | ⟨hk, hv⟩
  · rw [hk, hv]
    show gs T31 m 107 #[vi 0, vr b1] [(.int 0), (.ref b1)]
    obtain ⟨cl32, Ar32, qa32, qs32, qn32, qh32, qg32⟩ := id R31
    refine own_st (fun _ kS => X31.aaload hx (j := (0 : Int32)) (v := (.ref w_TITLE)) (by rw [e31]; exact Ar32.1) (State.isArrayOf_alike hZ.alike Ar32.2.1) rfl Ar32.2.2 (inb_of qs32 ⟨by decide, by decide⟩) (qh32.at (inb_of qs32 ⟨by decide, by decide⟩) rfl) (g := (mkF m 107 #[vi 0, vr b1] [(.int 0), (.ref b1)])) rfl rfl (hb hby d1_107) _ kS) ?_
    show gs T31 m 108 #[vi 0, vr b1] [(.ref w_TITLE)]
    exact own_retA X31 hx hlk hret rfl rfl (hb hby d1_108) (by decide) (by decide) (by rw [e31]; exact ⟨rfl, N31, K31⟩)
  · rw [hk, hv]
    show gs T31 m 107 #[vi 1, vr b1] [(.int 1), (.ref b1)]
    obtain ⟨cl33, Ar33, qa33, qs33, qn33, qh33, qg33⟩ := id R31
    refine own_st (fun _ kS => X31.aaload hx (j := (1 : Int32)) (v := (.ref w_CREATOR)) (by rw [e31]; exact Ar33.1) (State.isArrayOf_alike hZ.alike Ar33.2.1) rfl Ar33.2.2 (inb_of qs33 ⟨by decide, by decide⟩) (qh33.at (inb_of qs33 ⟨by decide, by decide⟩) rfl) (g := (mkF m 107 #[vi 1, vr b1] [(.int 1), (.ref b1)])) rfl rfl (hb hby d1_107) _ kS) ?_
    show gs T31 m 108 #[vi 1, vr b1] [(.ref w_CREATOR)]
    exact own_retA X31 hx hlk hret rfl rfl (hb hby d1_108) (by decide) (by decide) (by rw [e31]; exact ⟨rfl, N31, K31⟩)
  · rw [hk, hv]
    show gs T31 m 107 #[vi 2, vr b1] [(.int 2), (.ref b1)]
    obtain ⟨cl34, Ar34, qa34, qs34, qn34, qh34, qg34⟩ := id R31
    refine own_st (fun _ kS => X31.aaload hx (j := (2 : Int32)) (v := (.ref w_SUBJECT)) (by rw [e31]; exact Ar34.1) (State.isArrayOf_alike hZ.alike Ar34.2.1) rfl Ar34.2.2 (inb_of qs34 ⟨by decide, by decide⟩) (qh34.at (inb_of qs34 ⟨by decide, by decide⟩) rfl) (g := (mkF m 107 #[vi 2, vr b1] [(.int 2), (.ref b1)])) rfl rfl (hb hby d1_107) _ kS) ?_
    show gs T31 m 108 #[vi 2, vr b1] [(.ref w_SUBJECT)]
    exact own_retA X31 hx hlk hret rfl rfl (hb hby d1_108) (by decide) (by decide) (by rw [e31]; exact ⟨rfl, N31, K31⟩)
  · rw [hk, hv]
    show gs T31 m 107 #[vi 3, vr b1] [(.int 3), (.ref b1)]
    obtain ⟨cl35, Ar35, qa35, qs35, qn35, qh35, qg35⟩ := id R31
    refine own_st (fun _ kS => X31.aaload hx (j := (3 : Int32)) (v := (.ref w_DESCRIPTION)) (by rw [e31]; exact Ar35.1) (State.isArrayOf_alike hZ.alike Ar35.2.1) rfl Ar35.2.2 (inb_of qs35 ⟨by decide, by decide⟩) (qh35.at (inb_of qs35 ⟨by decide, by decide⟩) rfl) (g := (mkF m 107 #[vi 3, vr b1] [(.int 3), (.ref b1)])) rfl rfl (hb hby d1_107) _ kS) ?_
    show gs T31 m 108 #[vi 3, vr b1] [(.ref w_DESCRIPTION)]
    exact own_retA X31 hx hlk hret rfl rfl (hb hby d1_108) (by decide) (by decide) (by rw [e31]; exact ⟨rfl, N31, K31⟩)
  · rw [hk, hv]
    show gs T31 m 107 #[vi 4, vr b1] [(.int 4), (.ref b1)]
    obtain ⟨cl36, Ar36, qa36, qs36, qn36, qh36, qg36⟩ := id R31
    refine own_st (fun _ kS => X31.aaload hx (j := (4 : Int32)) (v := (.ref w_PUBLISHER)) (by rw [e31]; exact Ar36.1) (State.isArrayOf_alike hZ.alike Ar36.2.1) rfl Ar36.2.2 (inb_of qs36 ⟨by decide, by decide⟩) (qh36.at (inb_of qs36 ⟨by decide, by decide⟩) rfl) (g := (mkF m 107 #[vi 4, vr b1] [(.int 4), (.ref b1)])) rfl rfl (hb hby d1_107) _ kS) ?_
    show gs T31 m 108 #[vi 4, vr b1] [(.ref w_PUBLISHER)]
    exact own_retA X31 hx hlk hret rfl rfl (hb hby d1_108) (by decide) (by decide) (by rw [e31]; exact ⟨rfl, N31, K31⟩)
  · rw [hk, hv]
    show gs T31 m 107 #[vi 5, vr b1] [(.int 5), (.ref b1)]
    obtain ⟨cl37, Ar37, qa37, qs37, qn37, qh37, qg37⟩ := id R31
    refine own_st (fun _ kS => X31.aaload hx (j := (5 : Int32)) (v := (.ref w_CONTRIBUTOR)) (by rw [e31]; exact Ar37.1) (State.isArrayOf_alike hZ.alike Ar37.2.1) rfl Ar37.2.2 (inb_of qs37 ⟨by decide, by decide⟩) (qh37.at (inb_of qs37 ⟨by decide, by decide⟩) rfl) (g := (mkF m 107 #[vi 5, vr b1] [(.int 5), (.ref b1)])) rfl rfl (hb hby d1_107) _ kS) ?_
    show gs T31 m 108 #[vi 5, vr b1] [(.ref w_CONTRIBUTOR)]
    exact own_retA X31 hx hlk hret rfl rfl (hb hby d1_108) (by decide) (by decide) (by rw [e31]; exact ⟨rfl, N31, K31⟩)
  · rw [hk, hv]
    show gs T31 m 107 #[vi 6, vr b1] [(.int 6), (.ref b1)]
    obtain ⟨cl38, Ar38, qa38, qs38, qn38, qh38, qg38⟩ := id R31
    refine own_st (fun _ kS => X31.aaload hx (j := (6 : Int32)) (v := (.ref w_DATE)) (by rw [e31]; exact Ar38.1) (State.isArrayOf_alike hZ.alike Ar38.2.1) rfl Ar38.2.2 (inb_of qs38 ⟨by decide, by decide⟩) (qh38.at (inb_of qs38 ⟨by decide, by decide⟩) rfl) (g := (mkF m 107 #[vi 6, vr b1] [(.int 6), (.ref b1)])) rfl rfl (hb hby d1_107) _ kS) ?_
    show gs T31 m 108 #[vi 6, vr b1] [(.ref w_DATE)]
    exact own_retA X31 hx hlk hret rfl rfl (hb hby d1_108) (by decide) (by decide) (by rw [e31]; exact ⟨rfl, N31, K31⟩)
  · rw [hk, hv]
    show gs T31 m 107 #[vi 7, vr b1] [(.int 7), (.ref b1)]
    obtain ⟨cl39, Ar39, qa39, qs39, qn39, qh39, qg39⟩ := id R31
    refine own_st (fun _ kS => X31.aaload hx (j := (7 : Int32)) (v := (.ref w_TYPE)) (by rw [e31]; exact Ar39.1) (State.isArrayOf_alike hZ.alike Ar39.2.1) rfl Ar39.2.2 (inb_of qs39 ⟨by decide, by decide⟩) (qh39.at (inb_of qs39 ⟨by decide, by decide⟩) rfl) (g := (mkF m 107 #[vi 7, vr b1] [(.int 7), (.ref b1)])) rfl rfl (hb hby d1_107) _ kS) ?_
    show gs T31 m 108 #[vi 7, vr b1] [(.ref w_TYPE)]
    exact own_retA X31 hx hlk hret rfl rfl (hb hby d1_108) (by decide) (by decide) (by rw [e31]; exact ⟨rfl, N31, K31⟩)
  · rw [hk, hv]
    show gs T31 m 107 #[vi 8, vr b1] [(.int 8), (.ref b1)]
    obtain ⟨cl40, Ar40, qa40, qs40, qn40, qh40, qg40⟩ := id R31
    refine own_st (fun _ kS => X31.aaload hx (j := (8 : Int32)) (v := (.ref w_FORMAT)) (by rw [e31]; exact Ar40.1) (State.isArrayOf_alike hZ.alike Ar40.2.1) rfl Ar40.2.2 (inb_of qs40 ⟨by decide, by decide⟩) (qh40.at (inb_of qs40 ⟨by decide, by decide⟩) rfl) (g := (mkF m 107 #[vi 8, vr b1] [(.int 8), (.ref b1)])) rfl rfl (hb hby d1_107) _ kS) ?_
    show gs T31 m 108 #[vi 8, vr b1] [(.ref w_FORMAT)]
    exact own_retA X31 hx hlk hret rfl rfl (hb hby d1_108) (by decide) (by decide) (by rw [e31]; exact ⟨rfl, N31, K31⟩)
  · rw [hk, hv]
    show gs T31 m 107 #[vi 9, vr b1] [(.int 9), (.ref b1)]
    obtain ⟨cl41, Ar41, qa41, qs41, qn41, qh41, qg41⟩ := id R31
    refine own_st (fun _ kS => X31.aaload hx (j := (9 : Int32)) (v := (.ref w_IDENTIFIER)) (by rw [e31]; exact Ar41.1) (State.isArrayOf_alike hZ.alike Ar41.2.1) rfl Ar41.2.2 (inb_of qs41 ⟨by decide, by decide⟩) (qh41.at (inb_of qs41 ⟨by decide, by decide⟩) rfl) (g := (mkF m 107 #[vi 9, vr b1] [(.int 9), (.ref b1)])) rfl rfl (hb hby d1_107) _ kS) ?_
    show gs T31 m 108 #[vi 9, vr b1] [(.ref w_IDENTIFIER)]
    exact own_retA X31 hx hlk hret rfl rfl (hb hby d1_108) (by decide) (by decide) (by rw [e31]; exact ⟨rfl, N31, K31⟩)
  · rw [hk, hv]
    show gs T31 m 107 #[vi 10, vr b1] [(.int 10), (.ref b1)]
    obtain ⟨cl42, Ar42, qa42, qs42, qn42, qh42, qg42⟩ := id R31
    refine own_st (fun _ kS => X31.aaload hx (j := (10 : Int32)) (v := (.ref w_SOURCE)) (by rw [e31]; exact Ar42.1) (State.isArrayOf_alike hZ.alike Ar42.2.1) rfl Ar42.2.2 (inb_of qs42 ⟨by decide, by decide⟩) (qh42.at (inb_of qs42 ⟨by decide, by decide⟩) rfl) (g := (mkF m 107 #[vi 10, vr b1] [(.int 10), (.ref b1)])) rfl rfl (hb hby d1_107) _ kS) ?_
    show gs T31 m 108 #[vi 10, vr b1] [(.ref w_SOURCE)]
    exact own_retA X31 hx hlk hret rfl rfl (hb hby d1_108) (by decide) (by decide) (by rw [e31]; exact ⟨rfl, N31, K31⟩)
  · rw [hk, hv]
    show gs T31 m 107 #[vi 11, vr b1] [(.int 11), (.ref b1)]
    obtain ⟨cl43, Ar43, qa43, qs43, qn43, qh43, qg43⟩ := id R31
    refine own_st (fun _ kS => X31.aaload hx (j := (11 : Int32)) (v := (.ref w_LANGUAGE)) (by rw [e31]; exact Ar43.1) (State.isArrayOf_alike hZ.alike Ar43.2.1) rfl Ar43.2.2 (inb_of qs43 ⟨by decide, by decide⟩) (qh43.at (inb_of qs43 ⟨by decide, by decide⟩) rfl) (g := (mkF m 107 #[vi 11, vr b1] [(.int 11), (.ref b1)])) rfl rfl (hb hby d1_107) _ kS) ?_
    show gs T31 m 108 #[vi 11, vr b1] [(.ref w_LANGUAGE)]
    exact own_retA X31 hx hlk hret rfl rfl (hb hby d1_108) (by decide) (by decide) (by rw [e31]; exact ⟨rfl, N31, K31⟩)
  · rw [hk, hv]
    show gs T31 m 107 #[vi 12, vr b1] [(.int 12), (.ref b1)]
    obtain ⟨cl44, Ar44, qa44, qs44, qn44, qh44, qg44⟩ := id R31
    refine own_st (fun _ kS => X31.aaload hx (j := (12 : Int32)) (v := (.ref w_RELATION)) (by rw [e31]; exact Ar44.1) (State.isArrayOf_alike hZ.alike Ar44.2.1) rfl Ar44.2.2 (inb_of qs44 ⟨by decide, by decide⟩) (qh44.at (inb_of qs44 ⟨by decide, by decide⟩) rfl) (g := (mkF m 107 #[vi 12, vr b1] [(.int 12), (.ref b1)])) rfl rfl (hb hby d1_107) _ kS) ?_
    show gs T31 m 108 #[vi 12, vr b1] [(.ref w_RELATION)]
    exact own_retA X31 hx hlk hret rfl rfl (hb hby d1_108) (by decide) (by decide) (by rw [e31]; exact ⟨rfl, N31, K31⟩)
  · rw [hk, hv]
    show gs T31 m 107 #[vi 13, vr b1] [(.int 13), (.ref b1)]
    obtain ⟨cl45, Ar45, qa45, qs45, qn45, qh45, qg45⟩ := id R31
    refine own_st (fun _ kS => X31.aaload hx (j := (13 : Int32)) (v := (.ref w_COVERAGE)) (by rw [e31]; exact Ar45.1) (State.isArrayOf_alike hZ.alike Ar45.2.1) rfl Ar45.2.2 (inb_of qs45 ⟨by decide, by decide⟩) (qh45.at (inb_of qs45 ⟨by decide, by decide⟩) rfl) (g := (mkF m 107 #[vi 13, vr b1] [(.int 13), (.ref b1)])) rfl rfl (hb hby d1_107) _ kS) ?_
    show gs T31 m 108 #[vi 13, vr b1] [(.ref w_COVERAGE)]
    exact own_retA X31 hx hlk hret rfl rfl (hb hby d1_108) (by decide) (by decide) (by rw [e31]; exact ⟨rfl, N31, K31⟩)
  · rw [hk, hv]
    show gs T31 m 107 #[vi 14, vr b1] [(.int 14), (.ref b1)]
    obtain ⟨cl46, Ar46, qa46, qs46, qn46, qh46, qg46⟩ := id R31
    refine own_st (fun _ kS => X31.aaload hx (j := (14 : Int32)) (v := (.ref w_RIGHTS)) (by rw [e31]; exact Ar46.1) (State.isArrayOf_alike hZ.alike Ar46.2.1) rfl Ar46.2.2 (inb_of qs46 ⟨by decide, by decide⟩) (qh46.at (inb_of qs46 ⟨by decide, by decide⟩) rfl) (g := (mkF m 107 #[vi 14, vr b1] [(.int 14), (.ref b1)])) rfl rfl (hb hby d1_107) _ kS) ?_
    show gs T31 m 108 #[vi 14, vr b1] [(.ref w_RIGHTS)]
    exact own_retA X31 hx hlk hret rfl rfl (hb hby d1_108) (by decide) (by decide) (by rw [e31]; exact ⟨rfl, N31, K31⟩)
theorem d16_0 : dk B10 0 (.aload_n 0) 1 := by decide +kernel
theorem d16_1 : dk B10 1 (.arraylength) 1 := by decide +kernel
theorem d16_2 : dk B10 2 (.aload_n 1) 1 := by decide +kernel
theorem d16_3 : dk B10 3 (.arraylength) 1 := by decide +kernel
theorem d16_4 : dk B10 4 (.if_icmp .ne 30) 3 := by decide +kernel
theorem d16_7 : dk B10 7 (.iconst 0) 1 := by decide +kernel
theorem d16_8 : dk B10 8 (.istore_n 2) 1 := by decide +kernel
theorem d16_9 : dk B10 9 (.iload_n 2) 1 := by decide +kernel
theorem d16_10 : dk B10 10 (.aload_n 0) 1 := by decide +kernel
theorem d16_11 : dk B10 11 (.arraylength) 1 := by decide +kernel
theorem d16_12 : dk B10 12 (.if_icmp .ge 20) 3 := by decide +kernel
theorem d16_15 : dk B10 15 (.aload_n 0) 1 := by decide +kernel
theorem d16_16 : dk B10 16 (.iload_n 2) 1 := by decide +kernel
theorem d16_17 : dk B10 17 (.baload) 1 := by decide +kernel
theorem d16_18 : dk B10 18 (.aload_n 1) 1 := by decide +kernel
theorem d16_19 : dk B10 19 (.iload_n 2) 1 := by decide +kernel
theorem d16_20 : dk B10 20 (.baload) 1 := by decide +kernel
theorem d16_21 : dk B10 21 (.if_icmp .eq 5) 3 := by decide +kernel
theorem d16_24 : dk B10 24 (.iconst 0) 1 := by decide +kernel
theorem d16_25 : dk B10 25 (.ireturn) 1 := by decide +kernel
theorem d16_26 : dk B10 26 (.iinc 2 1) 3 := by decide +kernel
theorem d16_29 : dk B10 29 (.goto (-20)) 3 := by decide +kernel
theorem d16_32 : dk B10 32 (.iconst 1) 1 := by decide +kernel
theorem d16_33 : dk B10 33 (.ireturn) 1 := by decide +kernel
theorem d16_34 : dk B10 34 (.iconst 0) 1 := by decide +kernel
theorem d16_35 : dk B10 35 (.ireturn) 1 := by decide +kernel
theorem pn_16 : plainName "java/lang/StringLatin1" = true := by first | (simp [plainName, overriddenIn]; done) | decide +kernel
theorem ef_latE_0_T (m : MethodId) (x0 : Addr) (x1 : Addr) : entryFrame m #[(.ref x0), (.ref x1)] 3 = mkF m 0 #[.val (.ref x0), .val (.ref x1), .unset] [] := by first | (simp [entryFrame, mkF, argsToLocals, Value.category]; done) | rfl
def Q_latE_0_T (Z : State) (t1 : Addr) (t2 : Addr) (k1a : ClassId) (k2a : ClassId) (h0 : Heap) (n0 : Nat) (v : Option Value) (h : Heap) (L : List Loc) : Prop := v = some (.int 1) ∧ Fr n0 L ∧ h = h0
theorem rm_latE_0_T (l : Launch) (Z : State) (a0 : Array Value) (hw : HW a0 Z) (ws : List Jvm.Cond) (t1 : Addr) (t2 : Addr) (k1a : ClassId) (k2a : ClassId) (h0 : Heap) (n0 : Nat) (Z0 : n0 ≤ h0.size) (R_1 : Arv Z h0 t1 k1a .byte (0 : Int32) [] (.int 0)) (R_2 : Arv Z h0 t2 k2a .byte (0 : Int32) [] (.int 0)) :
    M9 l ws (rmk 0 0 0 0) Z #[(.ref t1), (.ref t2)] h0 (Q_latE_0_T Z t1 t2 k1a k2a h0 n0) := by
  refine own_go "java/lang/StringLatin1" rfl (plainFor_of_name pn_16) (fun m => ef_latE_0_T m t1 t2) (fun p e s m below meth c s₁ hx hby hml hown hnm hlk hret hZ X0 e0 => ?_)
  have N0 := Fr.nil n0
  show gs s₁ m 0 #[vr t1, vr t2, .unset] []
  refine oaloadN X0 hx hby d16_0 rfl rfl ?_
  show gs s₁ m 1 #[vr t1, vr t2, .unset] [(.ref t1)]
  obtain ⟨cl1, Ar1, qa1, qs1, qn1, qh1, qg1⟩ := id R_1
  refine own_st (fun _ kS => X0.arraylength hx (by rw [e0]; exact Ar1.1) (State.isArrayOf_alike hZ.alike Ar1.2.1) (g := (mkF m 1 #[vr t1, vr t2, .unset] [(.ref t1)])) rfl rfl (hb hby d16_1) _ kS) ?_
  rw [len_of qs1 qn1]
  show gs s₁ m 2 #[vr t1, vr t2, .unset] [(.int 0)]
  refine oaloadN X0 hx hby d16_2 rfl rfl ?_
  show gs s₁ m 3 #[vr t1, vr t2, .unset] [(.ref t2), (.int 0)]
  obtain ⟨cl2, Ar2, qa2, qs2, qn2, qh2, qg2⟩ := id R_2
  refine own_st (fun _ kS => X0.arraylength hx (by rw [e0]; exact Ar2.1) (State.isArrayOf_alike hZ.alike Ar2.2.1) (g := (mkF m 3 #[vr t1, vr t2, .unset] [(.ref t2), (.int 0)])) rfl rfl (hb hby d16_3) _ kS) ?_
  rw [len_of qs2 qn2]
  show gs s₁ m 4 #[vr t1, vr t2, .unset] [(.int 0), (.int 0)]
  refine own_st (fun _ kS => XS.icmpNo X0.here hx rfl (hb hby d16_4) rfl (teq (by decide : (0 : Int32) = (0 : Int32))).2 kS) ?_
  show gs s₁ m 7 #[vr t1, vr t2, .unset] []
  refine oiconst X0 hx hby d16_7 ?_
  refine own_st (fun _ kS => XS.istoreN X0.here hx rfl (hb hby d16_8) rfl (l' := #[vr t1, vr t2, vi 0]) rfl kS) ?_
  refine oiloadN X0 hx hby d16_9 rfl ?_
  refine oaloadN X0 hx hby d16_10 rfl rfl ?_
  show gs s₁ m 11 #[vr t1, vr t2, vi 0] [(.ref t1), (.int 0)]
  obtain ⟨cl3, Ar3, qa3, qs3, qn3, qh3, qg3⟩ := id R_1
  refine own_st (fun _ kS => X0.arraylength hx (by rw [e0]; exact Ar3.1) (State.isArrayOf_alike hZ.alike Ar3.2.1) (g := (mkF m 11 #[vr t1, vr t2, vi 0] [(.ref t1), (.int 0)])) rfl rfl (hb hby d16_11) _ kS) ?_
  rw [len_of qs3 qn3]
  show gs s₁ m 12 #[vr t1, vr t2, vi 0] [(.int 0), (.int 0)]
  refine own_st (fun _ kS => XS.icmpYes X0.here hx rfl (pc0 := 12) (pc' := 32) rfl (hb hby d16_12) rfl (flt (by decide : ¬ ((0 : Int32) < (0 : Int32)))).2.1 (by decide) (by decide) kS) ?_
  show gs s₁ m 32 #[vr t1, vr t2, vi 0] []
  refine oiconst X0 hx hby d16_32 ?_
  exact own_retN X0 hx hlk (t := .boolean) hret (by simp) (hb hby d16_33) (by decide) (by decide) (v' := (1 : Int32)) rfl (by rw [e0]; exact ⟨rfl, N0, rfl⟩)
theorem d13_0 : dk B11 0 (.aload_n 0) 1 := by decide +kernel
theorem d13_1 : dk B11 1 (.aload_n 1) 1 := by decide +kernel
theorem d13_2 : dk B11 2 (.if_acmp .ne 5) 3 := by decide +kernel
theorem d13_5 : dk B11 5 (.iconst 1) 1 := by decide +kernel
theorem d13_6 : dk B11 6 (.ireturn) 1 := by decide +kernel
theorem d13_7 : dk B11 7 (.aload_n 1) 1 := by decide +kernel
theorem d13_8 : dk B11 8 (.instanceof 10) 3 := by decide +kernel
theorem d13_11 : dk B11 11 (.ifCond .eq 43) 3 := by decide +kernel
theorem d13_14 : dk B11 14 (.aload_n 1) 1 := by decide +kernel
theorem d13_15 : dk B11 15 (.checkcast 10) 3 := by decide +kernel
theorem d13_18 : dk B11 18 (.astore_n 2) 1 := by decide +kernel
theorem d13_19 : dk B11 19 (.getstatic 38) 3 := by decide +kernel
theorem d13_22 : dk B11 22 (.ifCond .eq 14) 3 := by decide +kernel
theorem d13_25 : dk B11 25 (.aload_n 0) 1 := by decide +kernel
theorem d13_26 : dk B11 26 (.getfield 15) 3 := by decide +kernel
theorem d13_29 : dk B11 29 (.aload_n 2) 1 := by decide +kernel
theorem d13_30 : dk B11 30 (.getfield 15) 3 := by decide +kernel
theorem d13_33 : dk B11 33 (.if_icmp .ne 21) 3 := by decide +kernel
theorem d13_36 : dk B11 36 (.aload_n 0) 1 := by decide +kernel
theorem d13_37 : dk B11 37 (.getfield 9) 3 := by decide +kernel
theorem d13_40 : dk B11 40 (.aload_n 2) 1 := by decide +kernel
theorem d13_41 : dk B11 41 (.getfield 9) 3 := by decide +kernel
theorem d13_44 : dk B11 44 (.invokestatic 541) 3 := by decide +kernel
theorem d13_47 : dk B11 47 (.ifCond .eq 7) 3 := by decide +kernel
theorem d13_50 : dk B11 50 (.iconst 1) 1 := by decide +kernel
theorem d13_51 : dk B11 51 (.goto 4) 3 := by decide +kernel
theorem d13_54 : dk B11 54 (.iconst 0) 1 := by decide +kernel
theorem d13_55 : dk B11 55 (.ireturn) 1 := by decide +kernel
theorem pn_13 : plainName "java/lang/String" = true := by first | (simp [plainName, overriddenIn]; done) | decide +kernel
theorem own_pd7 : parseMethodDescriptor "([B[B)Z" = some ⟨[(.array .byte), (.array .byte)], some .boolean⟩ := by decide +kernel
theorem ef_strE_0_T (m : MethodId) (x0 : Addr) (x1 : Addr) : entryFrame m #[(.ref x0), (.ref x1)] 3 = mkF m 0 #[.val (.ref x0), .val (.ref x1), .unset] [] := by first | (simp [entryFrame, mkF, argsToLocals, Value.category]; done) | rfl
def Q_strE_0_T (Z : State) (s1 : Addr) (s2 : Addr) (t1 : Addr) (t2 : Addr) (k1a : ClassId) (k2a : ClassId) (zCS : Int32) (h0 : Heap) (n0 : Nat) (v : Option Value) (h : Heap) (L : List Loc) : Prop := v = some (.int 1) ∧ Fr n0 L ∧ h = h0
theorem rm_strE_0_T (l : Launch) (Z : State) (a0 : Array Value) (hw : HW a0 Z) (ws : List Jvm.Cond) (s1 : Addr) (s2 : Addr) (t1 : Addr) (t2 : Addr) (k1a : ClassId) (k2a : ClassId) (zCS : Int32) (h0 : Heap) (n0 : Nat) (Z0 : n0 ≤ h0.size) (O0 : Old Z n0 h0) (ne12 : s1 ≠ s2) (E_1 : ek21 Z h0 s1) (E_2 : ek21 Z h0 s2) (F1v : fk17 Z h0 s1 (.ref t1)) (F2v : fk17 Z h0 s2 (.ref t2)) (F1c : fk16 Z h0 s1 (.int 0)) (F2c : fk16 Z h0 s2 (.int 0)) (R_1 : Arv Z h0 t1 k1a .byte (0 : Int32) [] (.int 0)) (R_2 : Arv Z h0 t2 k2a .byte (0 : Int32) [] (.int 0)) (S_CS : sk0 Z Z.heap (.int zCS)) (P_CS : ¬ zCS = 0) :
    M10 l ws (rmk 1 0 0 14) Z #[(.ref s1), (.ref s2)] h0 (Q_strE_0_T Z s1 s2 t1 t2 k1a k2a zCS h0 n0) := by
  refine own_go "java/lang/String" rfl (plainFor_of_name pn_13) (fun m => ef_strE_0_T m s1 s2) (fun p e s m below meth c s₁ hx hby hml hown hnm hlk hret hZ X0 e0 => ?_)
  have N0 := Fr.nil n0
  show gs s₁ m 0 #[vr s1, vr s2, .unset] []
  refine oaloadN X0 hx hby d13_0 rfl rfl ?_
  refine oaloadN X0 hx hby d13_1 rfl rfl ?_
  show gs s₁ m 2 #[vr s1, vr s2, .unset] [(.ref s2), (.ref s1)]
  refine own_st (fun _ kS => Jvm.RoadKit.acmp (g := (mkF m 2 #[vr s1, vr s2, .unset] [(.ref s2), (.ref s1)])) X0 hx rfl rfl rfl (pc0 := 2) (pc' := 7) (same := false) rfl (hb hby d13_2) rfl (decide_eq_false fun q => ne12 (Value.ref.inj q)) (by decide) (by decide) kS) ?_
  show gs s₁ m 7 #[vr s1, vr s2, .unset] []
  refine oaloadN X0 hx hby d13_7 rfl rfl ?_
  obtain ⟨T1, X1, e1, st1⟩ := instY X0 hx hZ hown (own_w hw 120 rfl) e0 (Ins.self E_2) (g := (mkF m 8 #[vr s1, vr s2, .unset] [(.ref s2)])) rfl rfl (hb hby d13_8)
  refine own_st st1 ?_
  show gs T1 m 11 #[vr s1, vr s2, .unset] [(.int 1)]
  refine own_st (fun _ kS => XS.ifNo X1.here hx rfl (hb hby d13_11) rfl ((if0 _ _).trans (feq (by decide : ¬ ((1 : Int32) = (0 : Int32)))).1) kS) ?_
  show gs T1 m 14 #[vr s1, vr s2, .unset] []
  refine oaloadN X1 hx hby d13_14 rfl rfl ?_
  obtain ⟨T2, X2, e2, st2⟩ := castY X1 hx hZ hown (own_w hw 120 rfl) e1 (Ins.self E_2) (g := (mkF m 15 #[vr s1, vr s2, .unset] [(.ref s2)])) rfl rfl (hb hby d13_15)
  refine own_st st2 ?_
  show gs T2 m 18 #[vr s1, vr s2, .unset] [(.ref s2)]
  refine own_st (fun _ kS => XS.astoreN X2.here hx rfl (hb hby d13_18) rfl rfl (l' := #[vr s1, vr s2, vr s2]) rfl kS) ?_
  show gs T2 m 19 #[vr s1, vr s2, vr s2] []
  obtain ⟨T3, X3, e3, st3⟩ := getS2 X2 hx hZ hown (host := "") (Or.inl (own_w hw 63 rfl)) Via.refl e2 (Sta.ext O0.2 S_CS) (g := (mkF m 19 #[vr s1, vr s2, vr s2] [])) rfl (hb hby d13_19)
  refine own_st st3 ?_
  show gs T3 m 22 #[vr s1, vr s2, vr s2] [(.int zCS)]
  refine own_st (fun _ kS => XS.ifNo X3.here hx rfl (hb hby d13_22) rfl ((if0 _ _).trans (feq (P_CS : ¬ (zCS = (0 : Int32)))).1) kS) ?_
  show gs T3 m 25 #[vr s1, vr s2, vr s2] []
  refine oaloadN X3 hx hby d13_25 rfl rfl ?_
  obtain ⟨T4, X4, e4, st4⟩ := getF X3 hx hZ hown (host := "") (Or.inl (own_w hw 75 rfl)) Via.refl e3 F1c (g := (mkF m 26 #[vr s1, vr s2, vr s2] [(.ref s1)])) rfl rfl (hb hby d13_26)
  refine own_st st4 ?_
  show gs T4 m 29 #[vr s1, vr s2, vr s2] [(.int 0)]
  refine oaloadN X4 hx hby d13_29 rfl rfl ?_
  obtain ⟨T5, X5, e5, st5⟩ := getF X4 hx hZ hown (host := "") (Or.inl (own_w hw 75 rfl)) Via.refl e4 F2c (g := (mkF m 30 #[vr s1, vr s2, vr s2] [(.ref s2), (.int 0)])) rfl rfl (hb hby d13_30)
  refine own_st st5 ?_
  show gs T5 m 33 #[vr s1, vr s2, vr s2] [(.int 0), (.int 0)]
  refine own_st (fun _ kS => XS.icmpNo X5.here hx rfl (hb hby d13_33) rfl (teq (by decide : (0 : Int32) = (0 : Int32))).2 kS) ?_
  show gs T5 m 36 #[vr s1, vr s2, vr s2] []
  refine oaloadN X5 hx hby d13_36 rfl rfl ?_
  obtain ⟨T6, X6, e6, st6⟩ := getF X5 hx hZ hown (host := "") (Or.inl (own_w hw 77 rfl)) Via.refl e5 F1v (g := (mkF m 37 #[vr s1, vr s2, vr s2] [(.ref s1)])) rfl rfl (hb hby d13_37)
  refine own_st st6 ?_
  show gs T6 m 40 #[vr s1, vr s2, vr s2] [(.ref t1)]
  refine oaloadN X6 hx hby d13_40 rfl rfl ?_
  obtain ⟨T7, X7, e7, st7⟩ := getF X6 hx hZ hown (host := "") (Or.inl (own_w hw 77 rfl)) Via.refl e6 F2v (g := (mkF m 41 #[vr s1, vr s2, vr s2] [(.ref s2), (.ref t1)])) rfl rfl (hb hby d13_41)
  refine own_st st7 ?_
  show gs T7 m 44 #[vr s1, vr s2, vr s2] [(.ref t2), (.ref t1)]
  refine oS 0 X7 hx hZ hby hml hown (own_w hw 121 rfl) (own_w hw 122 rfl) (own_w hw 123 rfl) (own_w hw 124 rfl) (rm_latE_0_T l Z a0 hw [] t1 t2 k1a k2a h0 n0 Z0  R_1 R_2) e7 (by decide) own_pd7 d13_44 rfl rfl rfl (fun T8 L8 v8 X8 hQ8 => ?_)
  obtain ⟨rfl, Nq8, eq8⟩ := hQ8
  have N8 := Fr.app N0 Nq8
  show gs T8 m 47 #[vr s1, vr s2, vr s2] [(.int 1)]
  refine own_st (fun _ kS => XS.ifNo X8.here hx rfl (hb hby d13_47) rfl ((if0 _ _).trans (feq (by decide : ¬ ((1 : Int32) = (0 : Int32)))).1) kS) ?_
  show gs T8 m 50 #[vr s1, vr s2, vr s2] []
  refine oiconst X8 hx hby d13_50 ?_
  refine own_st (fun _ kS => XS.goto X8.here hx rfl (pc0 := 51) (pc' := 55) rfl (hb hby d13_51) (by decide) (by decide) kS) ?_
  show gs T8 m 55 #[vr s1, vr s2, vr s2] [(.int 1)]
  exact own_retN X8 hx hlk (t := .boolean) hret (by simp) (hb hby d13_55) (by decide) (by decide) (v' := (1 : Int32)) rfl (by rw [eq8]; exact ⟨rfl, N8, rfl⟩)
theorem d12_0 : dk B12 0 (.aload_n 1) 1 := by decide +kernel
theorem d12_1 : dk B12 1 (.instanceof 18) 3 := by decide +kernel
theorem d12_4 : dk B12 4 (.ifCond .eq 37) 3 := by decide +kernel
theorem d12_7 : dk B12 7 (.aload_n 1) 1 := by decide +kernel
theorem d12_8 : dk B12 8 (.checkcast 18) 3 := by decide +kernel
theorem d12_11 : dk B12 11 (.astore_n 2) 1 := by decide +kernel
theorem d12_12 : dk B12 12 (.aload_n 0) 1 := by decide +kernel
theorem d12_13 : dk B12 13 (.getfield 17) 3 := by decide +kernel
theorem d12_16 : dk B12 16 (.aload_n 2) 1 := by decide +kernel
theorem d12_17 : dk B12 17 (.getfield 17) 3 := by decide +kernel
theorem d12_20 : dk B12 20 (.if_acmp .ne 21) 3 := by decide +kernel
theorem d12_23 : dk B12 23 (.aload_n 0) 1 := by decide +kernel
theorem d12_24 : dk B12 24 (.getfield 26) 3 := by decide +kernel
theorem d12_27 : dk B12 27 (.aload_n 2) 1 := by decide +kernel
theorem d12_28 : dk B12 28 (.getfield 26) 3 := by decide +kernel
theorem d12_31 : dk B12 31 (.invokevirtual 29) 3 := by decide +kernel
theorem d12_34 : dk B12 34 (.ifCond .eq 7) 3 := by decide +kernel
theorem d12_37 : dk B12 37 (.iconst 1) 1 := by decide +kernel
theorem d12_38 : dk B12 38 (.goto 4) 3 := by decide +kernel
theorem d12_41 : dk B12 41 (.iconst 0) 1 := by decide +kernel
theorem d12_42 : dk B12 42 (.ireturn) 1 := by decide +kernel
theorem pn_12 : plainName "com/example/cartouche/cartouche/crosswalks/DcValue" = true := by first | (simp [plainName, overriddenIn]; done) | decide +kernel
theorem own_pd8 : parseMethodDescriptor "(Ljava/lang/Object;)Z" = some ⟨[(.object "java/lang/Object")], some .boolean⟩ := by decide +kernel
theorem ef_dcE_0_T (m : MethodId) (x0 : Addr) (x1 : Addr) : entryFrame m #[(.ref x0), (.ref x1)] 3 = mkF m 0 #[.val (.ref x0), .val (.ref x1), .unset] [] := by first | (simp [entryFrame, mkF, argsToLocals, Value.category]; done) | rfl
def Q_dcE_0_T (Z : State) (a1 : Addr) (a2 : Addr) (v1 : Addr) (s1 : Addr) (s2 : Addr) (t1 : Addr) (t2 : Addr) (k1a : ClassId) (k2a : ClassId) (zCS : Int32) (h0 : Heap) (n0 : Nat) (v : Option Value) (h : Heap) (L : List Loc) : Prop := v = some (.int 1) ∧ Fr n0 L ∧ h = h0
theorem rm_dcE_0_T (l : Launch) (Z : State) (a0 : Array Value) (hw : HW a0 Z) (ws : List Jvm.Cond) (a1 : Addr) (a2 : Addr) (v1 : Addr) (s1 : Addr) (s2 : Addr) (t1 : Addr) (t2 : Addr) (k1a : ClassId) (k2a : ClassId) (zCS : Int32) (h0 : Heap) (n0 : Nat) (Z0 : n0 ≤ h0.size) (O0 : Old Z n0 h0) (E_a : ek22 Z h0 a1) (E_b : ek22 Z h0 a2) (Fe1 : fk18 Z h0 a1 (.ref v1)) (Ft1 : fk19 Z h0 a1 (.ref s1)) (Fe2 : fk18 Z h0 a2 (.ref v1)) (Ft2 : fk19 Z h0 a2 (.ref s2)) (ne12 : s1 ≠ s2) (E_1 : ek21 Z h0 s1) (E_2 : ek21 Z h0 s2) (F1v : fk17 Z h0 s1 (.ref t1)) (F2v : fk17 Z h0 s2 (.ref t2)) (F1c : fk16 Z h0 s1 (.int 0)) (F2c : fk16 Z h0 s2 (.int 0)) (R_1 : Arv Z h0 t1 k1a .byte (0 : Int32) [] (.int 0)) (R_2 : Arv Z h0 t2 k2a .byte (0 : Int32) [] (.int 0)) (S_CS : sk0 Z Z.heap (.int zCS)) (P_CS : ¬ zCS = 0) :
    M11 l ws (rmk 2 0 0 28) Z #[(.ref a1), (.ref a2)] h0 (Q_dcE_0_T Z a1 a2 v1 s1 s2 t1 t2 k1a k2a zCS h0 n0) := by
  refine own_go "com/example/cartouche/cartouche/crosswalks/DcValue" rfl (plainFor_of_name pn_12) (fun m => ef_dcE_0_T m a1 a2) (fun p e s m below meth c s₁ hx hby hml hown hnm hlk hret hZ X0 e0 => ?_)
  have N0 := Fr.nil n0
  show gs s₁ m 0 #[vr a1, vr a2, .unset] []
  refine oaloadN X0 hx hby d12_0 rfl rfl ?_
  obtain ⟨T1, X1, e1, st1⟩ := instY X0 hx hZ hown (own_w hw 103 rfl) e0 (Ins.self E_b) (g := (mkF m 1 #[vr a1, vr a2, .unset] [(.ref a2)])) rfl rfl (hb hby d12_1)
  refine own_st st1 ?_
  show gs T1 m 4 #[vr a1, vr a2, .unset] [(.int 1)]
  refine own_st (fun _ kS => XS.ifNo X1.here hx rfl (hb hby d12_4) rfl ((if0 _ _).trans (feq (by decide : ¬ ((1 : Int32) = (0 : Int32)))).1) kS) ?_
  show gs T1 m 7 #[vr a1, vr a2, .unset] []
  refine oaloadN X1 hx hby d12_7 rfl rfl ?_
  obtain ⟨T2, X2, e2, st2⟩ := castY X1 hx hZ hown (own_w hw 103 rfl) e1 (Ins.self E_b) (g := (mkF m 8 #[vr a1, vr a2, .unset] [(.ref a2)])) rfl rfl (hb hby d12_8)
  refine own_st st2 ?_
  show gs T2 m 11 #[vr a1, vr a2, .unset] [(.ref a2)]
  refine own_st (fun _ kS => XS.astoreN X2.here hx rfl (hb hby d12_11) rfl rfl (l' := #[vr a1, vr a2, vr a2]) rfl kS) ?_
  refine oaloadN X2 hx hby d12_12 rfl rfl ?_
  obtain ⟨T3, X3, e3, st3⟩ := getF X2 hx hZ hown (host := "") (Or.inl (own_w hw 91 rfl)) Via.refl e2 Fe1 (g := (mkF m 13 #[vr a1, vr a2, vr a2] [(.ref a1)])) rfl rfl (hb hby d12_13)
  refine own_st st3 ?_
  show gs T3 m 16 #[vr a1, vr a2, vr a2] [(.ref v1)]
  refine oaloadN X3 hx hby d12_16 rfl rfl ?_
  obtain ⟨T4, X4, e4, st4⟩ := getF X3 hx hZ hown (host := "") (Or.inl (own_w hw 91 rfl)) Via.refl e3 Fe2 (g := (mkF m 17 #[vr a1, vr a2, vr a2] [(.ref a2), (.ref v1)])) rfl rfl (hb hby d12_17)
  refine own_st st4 ?_
  show gs T4 m 20 #[vr a1, vr a2, vr a2] [(.ref v1), (.ref v1)]
  refine own_st (fun _ kS => Jvm.RoadKit.acmp (g := (mkF m 20 #[vr a1, vr a2, vr a2] [(.ref v1), (.ref v1)])) X4 hx rfl rfl rfl (pc0 := 20) (pc' := 23) (same := true) rfl (hb hby d12_20) rfl (decide_eq_true rfl) (by decide) (by decide) kS) ?_
  show gs T4 m 23 #[vr a1, vr a2, vr a2] []
  refine oaloadN X4 hx hby d12_23 rfl rfl ?_
  obtain ⟨T5, X5, e5, st5⟩ := getF X4 hx hZ hown (host := "") (Or.inl (own_w hw 95 rfl)) Via.refl e4 Ft1 (g := (mkF m 24 #[vr a1, vr a2, vr a2] [(.ref a1)])) rfl rfl (hb hby d12_24)
  refine own_st st5 ?_
  show gs T5 m 27 #[vr a1, vr a2, vr a2] [(.ref s1)]
  refine oaloadN X5 hx hby d12_27 rfl rfl ?_
  obtain ⟨T6, X6, e6, st6⟩ := getF X5 hx hZ hown (host := "") (Or.inl (own_w hw 95 rfl)) Via.refl e5 Ft2 (g := (mkF m 28 #[vr a1, vr a2, vr a2] [(.ref a2), (.ref s1)])) rfl rfl (hb hby d12_28)
  refine own_st st6 ?_
  show gs T6 m 31 #[vr a1, vr a2, vr a2] [(.ref s2), (.ref s1)]
  refine oV 0 X6 hx hZ hby hml hown (own_w hw 105 rfl) (own_w hw 106 rfl) (own_w hw 108 rfl) (own_w hw 107 rfl) (rm_strE_0_T l Z a0 hw [] s1 s2 t1 t2 k1a k2a zCS h0 n0 Z0 O0 ne12 E_1 E_2 F1v F2v F1c F2c R_1 R_2 S_CS P_CS) (own_w hw 109 rfl) (own_w hw 47 rfl) e6 E_1 (by decide) own_pd8 d12_31 rfl rfl rfl (fun T7 L7 v7 X7 hQ7 => ?_)
  obtain ⟨rfl, Nq7, eq7⟩ := hQ7
  have N7 := Fr.app N0 Nq7
  show gs T7 m 34 #[vr a1, vr a2, vr a2] [(.int 1)]
  refine own_st (fun _ kS => XS.ifNo X7.here hx rfl (hb hby d12_34) rfl ((if0 _ _).trans (feq (by decide : ¬ ((1 : Int32) = (0 : Int32)))).1) kS) ?_
  show gs T7 m 37 #[vr a1, vr a2, vr a2] []
  refine oiconst X7 hx hby d12_37 ?_
  refine own_st (fun _ kS => XS.goto X7.here hx rfl (pc0 := 38) (pc' := 42) rfl (hb hby d12_38) (by decide) (by decide) kS) ?_
  show gs T7 m 42 #[vr a1, vr a2, vr a2] [(.int 1)]
  exact own_retN X7 hx hlk (t := .boolean) hret (by simp) (hb hby d12_42) (by decide) (by decide) (v' := (1 : Int32)) rfl (by rw [eq7]; exact ⟨rfl, N7, rfl⟩)
theorem d15_0 : dk B13 0 (.iload_n 0) 1 := by decide +kernel
theorem d15_1 : dk B13 1 (.iload_n 3) 1 := by decide +kernel
theorem d15_2 : dk B13 2 (.if_icmp .eq 5) 3 := by decide +kernel
theorem d15_5 : dk B13 5 (.iconst 0) 1 := by decide +kernel
theorem d15_6 : dk B13 6 (.ireturn) 1 := by decide +kernel
theorem d15_7 : dk B13 7 (.iload_n 0) 1 := by decide +kernel
theorem d15_8 : dk B13 8 (.iconst 1) 1 := by decide +kernel
theorem d15_9 : dk B13 9 (.if_icmp .lt 17) 3 := by decide +kernel
theorem d15_12 : dk B13 12 (.lload_n 1) 1 := by decide +kernel
theorem d15_13 : dk B13 13 (.iconst 0) 1 := by decide +kernel
theorem d15_14 : dk B13 14 (.invokestatic 62) 3 := by decide +kernel
theorem d15_17 : dk B13 17 (.lload 4) 2 := by decide +kernel
theorem d15_19 : dk B13 19 (.iconst 0) 1 := by decide +kernel
theorem d15_20 : dk B13 20 (.invokestatic 62) 3 := by decide +kernel
theorem d15_23 : dk B13 23 (.if_icmp .ne 7) 3 := by decide +kernel
theorem d15_26 : dk B13 26 (.iconst 1) 1 := by decide +kernel
theorem d15_27 : dk B13 27 (.goto 4) 3 := by decide +kernel
theorem d15_30 : dk B13 30 (.iconst 0) 1 := by decide +kernel
theorem d15_31 : dk B13 31 (.istore 6) 2 := by decide +kernel
theorem d15_33 : dk B13 33 (.iload_n 0) 1 := by decide +kernel
theorem d15_34 : dk B13 34 (.iconst 2) 1 := by decide +kernel
theorem d15_35 : dk B13 35 (.if_icmp .lt 17) 3 := by decide +kernel
theorem d15_38 : dk B13 38 (.lload_n 1) 1 := by decide +kernel
theorem d15_39 : dk B13 39 (.iconst 1) 1 := by decide +kernel
theorem d15_40 : dk B13 40 (.invokestatic 62) 3 := by decide +kernel
theorem d15_43 : dk B13 43 (.lload 4) 2 := by decide +kernel
theorem d15_45 : dk B13 45 (.iconst 1) 1 := by decide +kernel
theorem d15_46 : dk B13 46 (.invokestatic 62) 3 := by decide +kernel
theorem d15_49 : dk B13 49 (.if_icmp .ne 7) 3 := by decide +kernel
theorem d15_52 : dk B13 52 (.iconst 1) 1 := by decide +kernel
theorem d15_53 : dk B13 53 (.goto 4) 3 := by decide +kernel
theorem d15_56 : dk B13 56 (.iconst 0) 1 := by decide +kernel
theorem d15_57 : dk B13 57 (.istore 7) 2 := by decide +kernel
theorem d15_59 : dk B13 59 (.iload_n 0) 1 := by decide +kernel
theorem d15_60 : dk B13 60 (.iconst 3) 1 := by decide +kernel
theorem d15_61 : dk B13 61 (.if_icmp .lt 17) 3 := by decide +kernel
theorem d15_64 : dk B13 64 (.lload_n 1) 1 := by decide +kernel
theorem d15_65 : dk B13 65 (.iconst 2) 1 := by decide +kernel
theorem d15_66 : dk B13 66 (.invokestatic 62) 3 := by decide +kernel
theorem d15_69 : dk B13 69 (.lload 4) 2 := by decide +kernel
theorem d15_71 : dk B13 71 (.iconst 2) 1 := by decide +kernel
theorem d15_72 : dk B13 72 (.invokestatic 62) 3 := by decide +kernel
theorem d15_75 : dk B13 75 (.if_icmp .ne 7) 3 := by decide +kernel
theorem d15_78 : dk B13 78 (.iconst 1) 1 := by decide +kernel
theorem d15_79 : dk B13 79 (.goto 4) 3 := by decide +kernel
theorem d15_82 : dk B13 82 (.iconst 0) 1 := by decide +kernel
theorem d15_83 : dk B13 83 (.istore 8) 2 := by decide +kernel
theorem d15_85 : dk B13 85 (.iload 6) 2 := by decide +kernel
theorem d15_87 : dk B13 87 (.ifCond .eq 17) 3 := by decide +kernel
theorem d15_90 : dk B13 90 (.iload 7) 2 := by decide +kernel
theorem d15_92 : dk B13 92 (.ifCond .eq 12) 3 := by decide +kernel
theorem d15_95 : dk B13 95 (.iload 8) 2 := by decide +kernel
theorem d15_97 : dk B13 97 (.ifCond .eq 7) 3 := by decide +kernel
theorem d15_100 : dk B13 100 (.iconst 1) 1 := by decide +kernel
theorem d15_101 : dk B13 101 (.goto 4) 3 := by decide +kernel
theorem d15_104 : dk B13 104 (.iconst 0) 1 := by decide +kernel
theorem d15_105 : dk B13 105 (.ireturn) 1 := by decide +kernel
theorem pn_15 : plainName "com/example/cartouche/cartouche/crosswalks/DcValueEqualsPinLaw" = true := by first | (simp [plainName, overriddenIn]; done) | decide +kernel
theorem ef_samT_0_T (m : MethodId) (x0 : Int64) (x1 : Int64) : entryFrame m #[(.int 0), (.long x0), (.int 0), (.long x1)] 9 = mkF m 0 #[.val (.int 0), .val (.long x0), .second, .val (.int 0), .val (.long x1), .second, .unset, .unset, .unset] [] := by first | (simp [entryFrame, mkF, argsToLocals, Value.category]; done) | rfl
def Q_samT_0_T (Z : State) (q1 : Int64) (q2 : Int64) (h0 : Heap) (n0 : Nat) (v : Option Value) (h : Heap) (L : List Loc) : Prop := v = some (.int 1) ∧ Fr n0 L ∧ h = h0
theorem rm_samT_0_T (l : Launch) (Z : State) (a0 : Array Value) (hw : HW a0 Z) (ws : List Jvm.Cond) (q1 : Int64) (q2 : Int64) (h0 : Heap) (n0 : Nat) (Z0 : n0 ≤ h0.size)  :
    M12 l ws (rmk 0 0 0 0) Z #[(.int 0), (.long q1), (.int 0), (.long q2)] h0 (Q_samT_0_T Z q1 q2 h0 n0) := by
  refine own_go "com/example/cartouche/cartouche/crosswalks/DcValueEqualsPinLaw" rfl (plainFor_of_name pn_15) (fun m => ef_samT_0_T m q1 q2) (fun p e s m below meth c s₁ hx hby hml hown hnm hlk hret hZ X0 e0 => ?_)
  have N0 := Fr.nil n0
  show gs s₁ m 0 #[vi 0, .val (.long q1), .second, vi 0, .val (.long q2), .second, .unset, .unset, .unset] []
  refine oiloadN X0 hx hby d15_0 rfl ?_
  refine oiloadN X0 hx hby d15_1 rfl ?_
  refine own_st (fun _ kS => XS.icmpYes X0.here hx rfl (pc0 := 2) (pc' := 7) rfl (hb hby d15_2) rfl (teq (by decide : (0 : Int32) = (0 : Int32))).1 (by decide) (by decide) kS) ?_
  show gs s₁ m 7 #[vi 0, .val (.long q1), .second, vi 0, .val (.long q2), .second, .unset, .unset, .unset] []
  refine oiloadN X0 hx hby d15_7 rfl ?_
  refine oiconst X0 hx hby d15_8 ?_
  refine own_st (fun _ kS => XS.icmpYes X0.here hx rfl (pc0 := 9) (pc' := 26) rfl (hb hby d15_9) rfl (tlt (by decide : (0 : Int32) < (1 : Int32))).1 (by decide) (by decide) kS) ?_
  show gs s₁ m 26 #[vi 0, .val (.long q1), .second, vi 0, .val (.long q2), .second, .unset, .unset, .unset] []
  refine oiconst X0 hx hby d15_26 ?_
  refine own_st (fun _ kS => XS.goto X0.here hx rfl (pc0 := 27) (pc' := 31) rfl (hb hby d15_27) (by decide) (by decide) kS) ?_
  refine own_st (fun _ kS => XS.istore X0.here hx rfl (hb hby d15_31) rfl (l' := #[vi 0, .val (.long q1), .second, vi 0, .val (.long q2), .second, vi 1, .unset, .unset]) rfl kS) ?_
  refine oiloadN X0 hx hby d15_33 rfl ?_
  refine oiconst X0 hx hby d15_34 ?_
  refine own_st (fun _ kS => XS.icmpYes X0.here hx rfl (pc0 := 35) (pc' := 52) rfl (hb hby d15_35) rfl (tlt (by decide : (0 : Int32) < (2 : Int32))).1 (by decide) (by decide) kS) ?_
  show gs s₁ m 52 #[vi 0, .val (.long q1), .second, vi 0, .val (.long q2), .second, vi 1, .unset, .unset] []
  refine oiconst X0 hx hby d15_52 ?_
  refine own_st (fun _ kS => XS.goto X0.here hx rfl (pc0 := 53) (pc' := 57) rfl (hb hby d15_53) (by decide) (by decide) kS) ?_
  refine own_st (fun _ kS => XS.istore X0.here hx rfl (hb hby d15_57) rfl (l' := #[vi 0, .val (.long q1), .second, vi 0, .val (.long q2), .second, vi 1, vi 1, .unset]) rfl kS) ?_
  refine oiloadN X0 hx hby d15_59 rfl ?_
  refine oiconst X0 hx hby d15_60 ?_
  refine own_st (fun _ kS => XS.icmpYes X0.here hx rfl (pc0 := 61) (pc' := 78) rfl (hb hby d15_61) rfl (tlt (by decide : (0 : Int32) < (3 : Int32))).1 (by decide) (by decide) kS) ?_
  show gs s₁ m 78 #[vi 0, .val (.long q1), .second, vi 0, .val (.long q2), .second, vi 1, vi 1, .unset] []
  refine oiconst X0 hx hby d15_78 ?_
  refine own_st (fun _ kS => XS.goto X0.here hx rfl (pc0 := 79) (pc' := 83) rfl (hb hby d15_79) (by decide) (by decide) kS) ?_
  refine own_st (fun _ kS => XS.istore X0.here hx rfl (hb hby d15_83) rfl (l' := #[vi 0, .val (.long q1), .second, vi 0, .val (.long q2), .second, vi 1, vi 1, vi 1]) rfl kS) ?_
  refine oiload X0 hx hby d15_85 rfl ?_
  refine own_st (fun _ kS => XS.ifNo X0.here hx rfl (hb hby d15_87) rfl ((if0 _ _).trans (feq (by decide : ¬ ((1 : Int32) = (0 : Int32)))).1) kS) ?_
  show gs s₁ m 90 #[vi 0, .val (.long q1), .second, vi 0, .val (.long q2), .second, vi 1, vi 1, vi 1] []
  refine oiload X0 hx hby d15_90 rfl ?_
  refine own_st (fun _ kS => XS.ifNo X0.here hx rfl (hb hby d15_92) rfl ((if0 _ _).trans (feq (by decide : ¬ ((1 : Int32) = (0 : Int32)))).1) kS) ?_
  show gs s₁ m 95 #[vi 0, .val (.long q1), .second, vi 0, .val (.long q2), .second, vi 1, vi 1, vi 1] []
  refine oiload X0 hx hby d15_95 rfl ?_
  refine own_st (fun _ kS => XS.ifNo X0.here hx rfl (hb hby d15_97) rfl ((if0 _ _).trans (feq (by decide : ¬ ((1 : Int32) = (0 : Int32)))).1) kS) ?_
  show gs s₁ m 100 #[vi 0, .val (.long q1), .second, vi 0, .val (.long q2), .second, vi 1, vi 1, vi 1] []
  refine oiconst X0 hx hby d15_100 ?_
  refine own_st (fun _ kS => XS.goto X0.here hx rfl (pc0 := 101) (pc' := 105) rfl (hb hby d15_101) (by decide) (by decide) kS) ?_
  show gs s₁ m 105 #[vi 0, .val (.long q1), .second, vi 0, .val (.long q2), .second, vi 1, vi 1, vi 1] [(.int 1)]
  exact own_retN X0 hx hlk (t := .boolean) hret (by simp) (hb hby d15_105) (by decide) (by decide) (v' := (1 : Int32)) rfl (by rw [e0]; exact ⟨rfl, N0, rfl⟩)
theorem ef_latE_1_T (m : MethodId) (x0 : Addr) (x1 : Addr) : entryFrame m #[(.ref x0), (.ref x1)] 3 = mkF m 0 #[.val (.ref x0), .val (.ref x1), .unset] [] := by first | (simp [entryFrame, mkF, argsToLocals, Value.category]; done) | rfl
def Q_latE_1_T (Z : State) (t1 : Addr) (t2 : Addr) (k1a : ClassId) (k2a : ClassId) (y0 : Int32) (z0 : Int32) (h0 : Heap) (n0 : Nat) (v : Option Value) (h : Heap) (L : List Loc) : Prop := v = some (.int 1) ∧ Fr n0 L ∧ h = h0
theorem rm_latE_1_T (l : Launch) (Z : State) (a0 : Array Value) (hw : HW a0 Z) (ws : List Jvm.Cond) (t1 : Addr) (t2 : Addr) (k1a : ClassId) (k2a : ClassId) (y0 : Int32) (z0 : Int32) (h0 : Heap) (n0 : Nat) (Z0 : n0 ≤ h0.size) (R_1 : Arv Z h0 t1 k1a .byte (1 : Int32) [(.int y0)] (.int 0)) (R_2 : Arv Z h0 t2 k2a .byte (1 : Int32) [(.int z0)] (.int 0)) (hq0 : y0 = z0) :
    M9 l ws (rmk 0 0 0 0) Z #[(.ref t1), (.ref t2)] h0 (Q_latE_1_T Z t1 t2 k1a k2a y0 z0 h0 n0) := by
  refine own_go "java/lang/StringLatin1" rfl (plainFor_of_name pn_16) (fun m => ef_latE_1_T m t1 t2) (fun p e s m below meth c s₁ hx hby hml hown hnm hlk hret hZ X0 e0 => ?_)
  have N0 := Fr.nil n0
  show gs s₁ m 0 #[vr t1, vr t2, .unset] []
  refine oaloadN X0 hx hby d16_0 rfl rfl ?_
  show gs s₁ m 1 #[vr t1, vr t2, .unset] [(.ref t1)]
  obtain ⟨cl1, Ar1, qa1, qs1, qn1, qh1, qg1⟩ := id R_1
  refine own_st (fun _ kS => X0.arraylength hx (by rw [e0]; exact Ar1.1) (State.isArrayOf_alike hZ.alike Ar1.2.1) (g := (mkF m 1 #[vr t1, vr t2, .unset] [(.ref t1)])) rfl rfl (hb hby d16_1) _ kS) ?_
  rw [len_of qs1 qn1]
  show gs s₁ m 2 #[vr t1, vr t2, .unset] [(.int 1)]
  refine oaloadN X0 hx hby d16_2 rfl rfl ?_
  show gs s₁ m 3 #[vr t1, vr t2, .unset] [(.ref t2), (.int 1)]
  obtain ⟨cl2, Ar2, qa2, qs2, qn2, qh2, qg2⟩ := id R_2
  refine own_st (fun _ kS => X0.arraylength hx (by rw [e0]; exact Ar2.1) (State.isArrayOf_alike hZ.alike Ar2.2.1) (g := (mkF m 3 #[vr t1, vr t2, .unset] [(.ref t2), (.int 1)])) rfl rfl (hb hby d16_3) _ kS) ?_
  rw [len_of qs2 qn2]
  show gs s₁ m 4 #[vr t1, vr t2, .unset] [(.int 1), (.int 1)]
  refine own_st (fun _ kS => XS.icmpNo X0.here hx rfl (hb hby d16_4) rfl (teq (by decide : (1 : Int32) = (1 : Int32))).2 kS) ?_
  show gs s₁ m 7 #[vr t1, vr t2, .unset] []
  refine oiconst X0 hx hby d16_7 ?_
  refine own_st (fun _ kS => XS.istoreN X0.here hx rfl (hb hby d16_8) rfl (l' := #[vr t1, vr t2, vi 0]) rfl kS) ?_
  refine oiloadN X0 hx hby d16_9 rfl ?_
  refine oaloadN X0 hx hby d16_10 rfl rfl ?_
  show gs s₁ m 11 #[vr t1, vr t2, vi 0] [(.ref t1), (.int 0)]
  obtain ⟨cl3, Ar3, qa3, qs3, qn3, qh3, qg3⟩ := id R_1
  refine own_st (fun _ kS => X0.arraylength hx (by rw [e0]; exact Ar3.1) (State.isArrayOf_alike hZ.alike Ar3.2.1) (g := (mkF m 11 #[vr t1, vr t2, vi 0] [(.ref t1), (.int 0)])) rfl rfl (hb hby d16_11) _ kS) ?_
  rw [len_of qs3 qn3]
  show gs s₁ m 12 #[vr t1, vr t2, vi 0] [(.int 1), (.int 0)]
  refine own_st (fun _ kS => XS.icmpNo X0.here hx rfl (hb hby d16_12) rfl (tlt (by decide : (0 : Int32) < (1 : Int32))).2.1 kS) ?_
  show gs s₁ m 15 #[vr t1, vr t2, vi 0] []
  refine oaloadN X0 hx hby d16_15 rfl rfl ?_
  refine oiloadN X0 hx hby d16_16 rfl ?_
  show gs s₁ m 17 #[vr t1, vr t2, vi 0] [(.int 0), (.ref t1)]
  obtain ⟨cl4, Ar4, qa4, qs4, qn4, qh4, qg4⟩ := id R_1
  refine own_st (fun _ kS => X0.baloadBytes hx (j := (0 : Int32)) (v := (.int y0)) (by rw [e0]; exact Ar4.1) (State.isArrayOf_alike hZ.alike Ar4.2.1) Ar4.2.2 (inb_of qs4 ⟨by decide, by decide⟩) (qh4.at (inb_of qs4 ⟨by decide, by decide⟩) rfl) (g := (mkF m 17 #[vr t1, vr t2, vi 0] [(.int 0), (.ref t1)])) rfl rfl (hb hby d16_17) _ kS) ?_
  show gs s₁ m 18 #[vr t1, vr t2, vi 0] [(.int y0)]
  refine oaloadN X0 hx hby d16_18 rfl rfl ?_
  refine oiloadN X0 hx hby d16_19 rfl ?_
  show gs s₁ m 20 #[vr t1, vr t2, vi 0] [(.int 0), (.ref t2), (.int y0)]
  obtain ⟨cl5, Ar5, qa5, qs5, qn5, qh5, qg5⟩ := id R_2
  refine own_st (fun _ kS => X0.baloadBytes hx (j := (0 : Int32)) (v := (.int z0)) (by rw [e0]; exact Ar5.1) (State.isArrayOf_alike hZ.alike Ar5.2.1) Ar5.2.2 (inb_of qs5 ⟨by decide, by decide⟩) (qh5.at (inb_of qs5 ⟨by decide, by decide⟩) rfl) (g := (mkF m 20 #[vr t1, vr t2, vi 0] [(.int 0), (.ref t2), (.int y0)])) rfl rfl (hb hby d16_20) _ kS) ?_
  show gs s₁ m 21 #[vr t1, vr t2, vi 0] [(.int z0), (.int y0)]
  refine own_st (fun _ kS => XS.icmpYes X0.here hx rfl (pc0 := 21) (pc' := 26) rfl (hb hby d16_21) rfl (teq (hq0 : y0 = z0)).1 (by decide) (by decide) kS) ?_
  show gs s₁ m 26 #[vr t1, vr t2, vi 0] []
  refine own_st (fun _ kS => XS.iinc X0.here hx rfl (hb hby d16_26) rfl (l' := #[vr t1, vr t2, vi 1]) rfl kS) ?_
  refine own_st (fun _ kS => XS.goto X0.here hx rfl (pc0 := 29) (pc' := 9) rfl (hb hby d16_29) (by decide) (by decide) kS) ?_
  refine oiloadN X0 hx hby d16_9 rfl ?_
  refine oaloadN X0 hx hby d16_10 rfl rfl ?_
  show gs s₁ m 11 #[vr t1, vr t2, vi 1] [(.ref t1), (.int 1)]
  obtain ⟨cl6, Ar6, qa6, qs6, qn6, qh6, qg6⟩ := id R_1
  refine own_st (fun _ kS => X0.arraylength hx (by rw [e0]; exact Ar6.1) (State.isArrayOf_alike hZ.alike Ar6.2.1) (g := (mkF m 11 #[vr t1, vr t2, vi 1] [(.ref t1), (.int 1)])) rfl rfl (hb hby d16_11) _ kS) ?_
  rw [len_of qs6 qn6]
  show gs s₁ m 12 #[vr t1, vr t2, vi 1] [(.int 1), (.int 1)]
  refine own_st (fun _ kS => XS.icmpYes X0.here hx rfl (pc0 := 12) (pc' := 32) rfl (hb hby d16_12) rfl (flt (by decide : ¬ ((1 : Int32) < (1 : Int32)))).2.1 (by decide) (by decide) kS) ?_
  show gs s₁ m 32 #[vr t1, vr t2, vi 1] []
  refine oiconst X0 hx hby d16_32 ?_
  exact own_retN X0 hx hlk (t := .boolean) hret (by simp) (hb hby d16_33) (by decide) (by decide) (v' := (1 : Int32)) rfl (by rw [e0]; exact ⟨rfl, N0, rfl⟩)
theorem ef_strE_1_T (m : MethodId) (x0 : Addr) (x1 : Addr) : entryFrame m #[(.ref x0), (.ref x1)] 3 = mkF m 0 #[.val (.ref x0), .val (.ref x1), .unset] [] := by first | (simp [entryFrame, mkF, argsToLocals, Value.category]; done) | rfl
def Q_strE_1_T (Z : State) (s1 : Addr) (s2 : Addr) (t1 : Addr) (t2 : Addr) (k1a : ClassId) (k2a : ClassId) (y0 : Int32) (z0 : Int32) (zCS : Int32) (h0 : Heap) (n0 : Nat) (v : Option Value) (h : Heap) (L : List Loc) : Prop := v = some (.int 1) ∧ Fr n0 L ∧ h = h0
theorem rm_strE_1_T (l : Launch) (Z : State) (a0 : Array Value) (hw : HW a0 Z) (ws : List Jvm.Cond) (s1 : Addr) (s2 : Addr) (t1 : Addr) (t2 : Addr) (k1a : ClassId) (k2a : ClassId) (y0 : Int32) (z0 : Int32) (zCS : Int32) (h0 : Heap) (n0 : Nat) (Z0 : n0 ≤ h0.size) (O0 : Old Z n0 h0) (ne12 : s1 ≠ s2) (E_1 : ek21 Z h0 s1) (E_2 : ek21 Z h0 s2) (F1v : fk17 Z h0 s1 (.ref t1)) (F2v : fk17 Z h0 s2 (.ref t2)) (F1c : fk16 Z h0 s1 (.int 0)) (F2c : fk16 Z h0 s2 (.int 0)) (R_1 : Arv Z h0 t1 k1a .byte (1 : Int32) [(.int y0)] (.int 0)) (R_2 : Arv Z h0 t2 k2a .byte (1 : Int32) [(.int z0)] (.int 0)) (hq0 : y0 = z0) (S_CS : sk0 Z Z.heap (.int zCS)) (P_CS : ¬ zCS = 0) :
    M10 l ws (rmk 1 0 0 14) Z #[(.ref s1), (.ref s2)] h0 (Q_strE_1_T Z s1 s2 t1 t2 k1a k2a y0 z0 zCS h0 n0) := by
  refine own_go "java/lang/String" rfl (plainFor_of_name pn_13) (fun m => ef_strE_1_T m s1 s2) (fun p e s m below meth c s₁ hx hby hml hown hnm hlk hret hZ X0 e0 => ?_)
  have N0 := Fr.nil n0
  show gs s₁ m 0 #[vr s1, vr s2, .unset] []
  refine oaloadN X0 hx hby d13_0 rfl rfl ?_
  refine oaloadN X0 hx hby d13_1 rfl rfl ?_
  show gs s₁ m 2 #[vr s1, vr s2, .unset] [(.ref s2), (.ref s1)]
  refine own_st (fun _ kS => Jvm.RoadKit.acmp (g := (mkF m 2 #[vr s1, vr s2, .unset] [(.ref s2), (.ref s1)])) X0 hx rfl rfl rfl (pc0 := 2) (pc' := 7) (same := false) rfl (hb hby d13_2) rfl (decide_eq_false fun q => ne12 (Value.ref.inj q)) (by decide) (by decide) kS) ?_
  show gs s₁ m 7 #[vr s1, vr s2, .unset] []
  refine oaloadN X0 hx hby d13_7 rfl rfl ?_
  obtain ⟨T1, X1, e1, st1⟩ := instY X0 hx hZ hown (own_w hw 120 rfl) e0 (Ins.self E_2) (g := (mkF m 8 #[vr s1, vr s2, .unset] [(.ref s2)])) rfl rfl (hb hby d13_8)
  refine own_st st1 ?_
  show gs T1 m 11 #[vr s1, vr s2, .unset] [(.int 1)]
  refine own_st (fun _ kS => XS.ifNo X1.here hx rfl (hb hby d13_11) rfl ((if0 _ _).trans (feq (by decide : ¬ ((1 : Int32) = (0 : Int32)))).1) kS) ?_
  show gs T1 m 14 #[vr s1, vr s2, .unset] []
  refine oaloadN X1 hx hby d13_14 rfl rfl ?_
  obtain ⟨T2, X2, e2, st2⟩ := castY X1 hx hZ hown (own_w hw 120 rfl) e1 (Ins.self E_2) (g := (mkF m 15 #[vr s1, vr s2, .unset] [(.ref s2)])) rfl rfl (hb hby d13_15)
  refine own_st st2 ?_
  show gs T2 m 18 #[vr s1, vr s2, .unset] [(.ref s2)]
  refine own_st (fun _ kS => XS.astoreN X2.here hx rfl (hb hby d13_18) rfl rfl (l' := #[vr s1, vr s2, vr s2]) rfl kS) ?_
  show gs T2 m 19 #[vr s1, vr s2, vr s2] []
  obtain ⟨T3, X3, e3, st3⟩ := getS2 X2 hx hZ hown (host := "") (Or.inl (own_w hw 63 rfl)) Via.refl e2 (Sta.ext O0.2 S_CS) (g := (mkF m 19 #[vr s1, vr s2, vr s2] [])) rfl (hb hby d13_19)
  refine own_st st3 ?_
  show gs T3 m 22 #[vr s1, vr s2, vr s2] [(.int zCS)]
  refine own_st (fun _ kS => XS.ifNo X3.here hx rfl (hb hby d13_22) rfl ((if0 _ _).trans (feq (P_CS : ¬ (zCS = (0 : Int32)))).1) kS) ?_
  show gs T3 m 25 #[vr s1, vr s2, vr s2] []
  refine oaloadN X3 hx hby d13_25 rfl rfl ?_
  obtain ⟨T4, X4, e4, st4⟩ := getF X3 hx hZ hown (host := "") (Or.inl (own_w hw 75 rfl)) Via.refl e3 F1c (g := (mkF m 26 #[vr s1, vr s2, vr s2] [(.ref s1)])) rfl rfl (hb hby d13_26)
  refine own_st st4 ?_
  show gs T4 m 29 #[vr s1, vr s2, vr s2] [(.int 0)]
  refine oaloadN X4 hx hby d13_29 rfl rfl ?_
  obtain ⟨T5, X5, e5, st5⟩ := getF X4 hx hZ hown (host := "") (Or.inl (own_w hw 75 rfl)) Via.refl e4 F2c (g := (mkF m 30 #[vr s1, vr s2, vr s2] [(.ref s2), (.int 0)])) rfl rfl (hb hby d13_30)
  refine own_st st5 ?_
  show gs T5 m 33 #[vr s1, vr s2, vr s2] [(.int 0), (.int 0)]
  refine own_st (fun _ kS => XS.icmpNo X5.here hx rfl (hb hby d13_33) rfl (teq (by decide : (0 : Int32) = (0 : Int32))).2 kS) ?_
  show gs T5 m 36 #[vr s1, vr s2, vr s2] []
  refine oaloadN X5 hx hby d13_36 rfl rfl ?_
  obtain ⟨T6, X6, e6, st6⟩ := getF X5 hx hZ hown (host := "") (Or.inl (own_w hw 77 rfl)) Via.refl e5 F1v (g := (mkF m 37 #[vr s1, vr s2, vr s2] [(.ref s1)])) rfl rfl (hb hby d13_37)
  refine own_st st6 ?_
  show gs T6 m 40 #[vr s1, vr s2, vr s2] [(.ref t1)]
  refine oaloadN X6 hx hby d13_40 rfl rfl ?_
  obtain ⟨T7, X7, e7, st7⟩ := getF X6 hx hZ hown (host := "") (Or.inl (own_w hw 77 rfl)) Via.refl e6 F2v (g := (mkF m 41 #[vr s1, vr s2, vr s2] [(.ref s2), (.ref t1)])) rfl rfl (hb hby d13_41)
  refine own_st st7 ?_
  show gs T7 m 44 #[vr s1, vr s2, vr s2] [(.ref t2), (.ref t1)]
  refine oS 0 X7 hx hZ hby hml hown (own_w hw 121 rfl) (own_w hw 122 rfl) (own_w hw 123 rfl) (own_w hw 124 rfl) (rm_latE_1_T l Z a0 hw [] t1 t2 k1a k2a y0 z0 h0 n0 Z0  R_1 R_2 hq0) e7 (by decide) own_pd7 d13_44 rfl rfl rfl (fun T8 L8 v8 X8 hQ8 => ?_)
  obtain ⟨rfl, Nq8, eq8⟩ := hQ8
  have N8 := Fr.app N0 Nq8
  show gs T8 m 47 #[vr s1, vr s2, vr s2] [(.int 1)]
  refine own_st (fun _ kS => XS.ifNo X8.here hx rfl (hb hby d13_47) rfl ((if0 _ _).trans (feq (by decide : ¬ ((1 : Int32) = (0 : Int32)))).1) kS) ?_
  show gs T8 m 50 #[vr s1, vr s2, vr s2] []
  refine oiconst X8 hx hby d13_50 ?_
  refine own_st (fun _ kS => XS.goto X8.here hx rfl (pc0 := 51) (pc' := 55) rfl (hb hby d13_51) (by decide) (by decide) kS) ?_
  show gs T8 m 55 #[vr s1, vr s2, vr s2] [(.int 1)]
  exact own_retN X8 hx hlk (t := .boolean) hret (by simp) (hb hby d13_55) (by decide) (by decide) (v' := (1 : Int32)) rfl (by rw [eq8]; exact ⟨rfl, N8, rfl⟩)
theorem ef_dcE_1_T (m : MethodId) (x0 : Addr) (x1 : Addr) : entryFrame m #[(.ref x0), (.ref x1)] 3 = mkF m 0 #[.val (.ref x0), .val (.ref x1), .unset] [] := by first | (simp [entryFrame, mkF, argsToLocals, Value.category]; done) | rfl
def Q_dcE_1_T (Z : State) (a1 : Addr) (a2 : Addr) (v1 : Addr) (s1 : Addr) (s2 : Addr) (t1 : Addr) (t2 : Addr) (k1a : ClassId) (k2a : ClassId) (y0 : Int32) (z0 : Int32) (zCS : Int32) (h0 : Heap) (n0 : Nat) (v : Option Value) (h : Heap) (L : List Loc) : Prop := v = some (.int 1) ∧ Fr n0 L ∧ h = h0
theorem rm_dcE_1_T (l : Launch) (Z : State) (a0 : Array Value) (hw : HW a0 Z) (ws : List Jvm.Cond) (a1 : Addr) (a2 : Addr) (v1 : Addr) (s1 : Addr) (s2 : Addr) (t1 : Addr) (t2 : Addr) (k1a : ClassId) (k2a : ClassId) (y0 : Int32) (z0 : Int32) (zCS : Int32) (h0 : Heap) (n0 : Nat) (Z0 : n0 ≤ h0.size) (O0 : Old Z n0 h0) (E_a : ek22 Z h0 a1) (E_b : ek22 Z h0 a2) (Fe1 : fk18 Z h0 a1 (.ref v1)) (Ft1 : fk19 Z h0 a1 (.ref s1)) (Fe2 : fk18 Z h0 a2 (.ref v1)) (Ft2 : fk19 Z h0 a2 (.ref s2)) (ne12 : s1 ≠ s2) (E_1 : ek21 Z h0 s1) (E_2 : ek21 Z h0 s2) (F1v : fk17 Z h0 s1 (.ref t1)) (F2v : fk17 Z h0 s2 (.ref t2)) (F1c : fk16 Z h0 s1 (.int 0)) (F2c : fk16 Z h0 s2 (.int 0)) (R_1 : Arv Z h0 t1 k1a .byte (1 : Int32) [(.int y0)] (.int 0)) (R_2 : Arv Z h0 t2 k2a .byte (1 : Int32) [(.int z0)] (.int 0)) (hq0 : y0 = z0) (S_CS : sk0 Z Z.heap (.int zCS)) (P_CS : ¬ zCS = 0) :
    M11 l ws (rmk 2 0 0 28) Z #[(.ref a1), (.ref a2)] h0 (Q_dcE_1_T Z a1 a2 v1 s1 s2 t1 t2 k1a k2a y0 z0 zCS h0 n0) := by
  refine own_go "com/example/cartouche/cartouche/crosswalks/DcValue" rfl (plainFor_of_name pn_12) (fun m => ef_dcE_1_T m a1 a2) (fun p e s m below meth c s₁ hx hby hml hown hnm hlk hret hZ X0 e0 => ?_)
  have N0 := Fr.nil n0
  show gs s₁ m 0 #[vr a1, vr a2, .unset] []
  refine oaloadN X0 hx hby d12_0 rfl rfl ?_
  obtain ⟨T1, X1, e1, st1⟩ := instY X0 hx hZ hown (own_w hw 103 rfl) e0 (Ins.self E_b) (g := (mkF m 1 #[vr a1, vr a2, .unset] [(.ref a2)])) rfl rfl (hb hby d12_1)
  refine own_st st1 ?_
  show gs T1 m 4 #[vr a1, vr a2, .unset] [(.int 1)]
  refine own_st (fun _ kS => XS.ifNo X1.here hx rfl (hb hby d12_4) rfl ((if0 _ _).trans (feq (by decide : ¬ ((1 : Int32) = (0 : Int32)))).1) kS) ?_
  show gs T1 m 7 #[vr a1, vr a2, .unset] []
  refine oaloadN X1 hx hby d12_7 rfl rfl ?_
  obtain ⟨T2, X2, e2, st2⟩ := castY X1 hx hZ hown (own_w hw 103 rfl) e1 (Ins.self E_b) (g := (mkF m 8 #[vr a1, vr a2, .unset] [(.ref a2)])) rfl rfl (hb hby d12_8)
  refine own_st st2 ?_
  show gs T2 m 11 #[vr a1, vr a2, .unset] [(.ref a2)]
  refine own_st (fun _ kS => XS.astoreN X2.here hx rfl (hb hby d12_11) rfl rfl (l' := #[vr a1, vr a2, vr a2]) rfl kS) ?_
  refine oaloadN X2 hx hby d12_12 rfl rfl ?_
  obtain ⟨T3, X3, e3, st3⟩ := getF X2 hx hZ hown (host := "") (Or.inl (own_w hw 91 rfl)) Via.refl e2 Fe1 (g := (mkF m 13 #[vr a1, vr a2, vr a2] [(.ref a1)])) rfl rfl (hb hby d12_13)
  refine own_st st3 ?_
  show gs T3 m 16 #[vr a1, vr a2, vr a2] [(.ref v1)]
  refine oaloadN X3 hx hby d12_16 rfl rfl ?_
  obtain ⟨T4, X4, e4, st4⟩ := getF X3 hx hZ hown (host := "") (Or.inl (own_w hw 91 rfl)) Via.refl e3 Fe2 (g := (mkF m 17 #[vr a1, vr a2, vr a2] [(.ref a2), (.ref v1)])) rfl rfl (hb hby d12_17)
  refine own_st st4 ?_
  show gs T4 m 20 #[vr a1, vr a2, vr a2] [(.ref v1), (.ref v1)]
  refine own_st (fun _ kS => Jvm.RoadKit.acmp (g := (mkF m 20 #[vr a1, vr a2, vr a2] [(.ref v1), (.ref v1)])) X4 hx rfl rfl rfl (pc0 := 20) (pc' := 23) (same := true) rfl (hb hby d12_20) rfl (decide_eq_true rfl) (by decide) (by decide) kS) ?_
  show gs T4 m 23 #[vr a1, vr a2, vr a2] []
  refine oaloadN X4 hx hby d12_23 rfl rfl ?_
  obtain ⟨T5, X5, e5, st5⟩ := getF X4 hx hZ hown (host := "") (Or.inl (own_w hw 95 rfl)) Via.refl e4 Ft1 (g := (mkF m 24 #[vr a1, vr a2, vr a2] [(.ref a1)])) rfl rfl (hb hby d12_24)
  refine own_st st5 ?_
  show gs T5 m 27 #[vr a1, vr a2, vr a2] [(.ref s1)]
  refine oaloadN X5 hx hby d12_27 rfl rfl ?_
  obtain ⟨T6, X6, e6, st6⟩ := getF X5 hx hZ hown (host := "") (Or.inl (own_w hw 95 rfl)) Via.refl e5 Ft2 (g := (mkF m 28 #[vr a1, vr a2, vr a2] [(.ref a2), (.ref s1)])) rfl rfl (hb hby d12_28)
  refine own_st st6 ?_
  show gs T6 m 31 #[vr a1, vr a2, vr a2] [(.ref s2), (.ref s1)]
  refine oV 0 X6 hx hZ hby hml hown (own_w hw 105 rfl) (own_w hw 106 rfl) (own_w hw 108 rfl) (own_w hw 107 rfl) (rm_strE_1_T l Z a0 hw [] s1 s2 t1 t2 k1a k2a y0 z0 zCS h0 n0 Z0 O0 ne12 E_1 E_2 F1v F2v F1c F2c R_1 R_2 hq0 S_CS P_CS) (own_w hw 109 rfl) (own_w hw 47 rfl) e6 E_1 (by decide) own_pd8 d12_31 rfl rfl rfl (fun T7 L7 v7 X7 hQ7 => ?_)
  obtain ⟨rfl, Nq7, eq7⟩ := hQ7
  have N7 := Fr.app N0 Nq7
  show gs T7 m 34 #[vr a1, vr a2, vr a2] [(.int 1)]
  refine own_st (fun _ kS => XS.ifNo X7.here hx rfl (hb hby d12_34) rfl ((if0 _ _).trans (feq (by decide : ¬ ((1 : Int32) = (0 : Int32)))).1) kS) ?_
  show gs T7 m 37 #[vr a1, vr a2, vr a2] []
  refine oiconst X7 hx hby d12_37 ?_
  refine own_st (fun _ kS => XS.goto X7.here hx rfl (pc0 := 38) (pc' := 42) rfl (hb hby d12_38) (by decide) (by decide) kS) ?_
  show gs T7 m 42 #[vr a1, vr a2, vr a2] [(.int 1)]
  exact own_retN X7 hx hlk (t := .boolean) hret (by simp) (hb hby d12_42) (by decide) (by decide) (v' := (1 : Int32)) rfl (by rw [eq7]; exact ⟨rfl, N7, rfl⟩)
theorem ef_samT_1_T (m : MethodId) (x0 : Int64) (x1 : Int64) : entryFrame m #[(.int 1), (.long x0), (.int 1), (.long x1)] 9 = mkF m 0 #[.val (.int 1), .val (.long x0), .second, .val (.int 1), .val (.long x1), .second, .unset, .unset, .unset] [] := by first | (simp [entryFrame, mkF, argsToLocals, Value.category]; done) | rfl
def Q_samT_1_T (Z : State) (q1 : Int64) (q2 : Int64) (h0 : Heap) (n0 : Nat) (v : Option Value) (h : Heap) (L : List Loc) : Prop := v = some (.int 1) ∧ Fr n0 L ∧ h = h0
theorem rm_samT_1_T (l : Launch) (Z : State) (a0 : Array Value) (hw : HW a0 Z) (ws : List Jvm.Cond) (q1 : Int64) (q2 : Int64) (h0 : Heap) (n0 : Nat) (Z0 : n0 ≤ h0.size) (hq0 : (own_ch q1 (0 : Int32)) = (own_ch q2 (0 : Int32))) :
    M12 l ws (rmk 1 0 0 15) Z #[(.int 1), (.long q1), (.int 1), (.long q2)] h0 (Q_samT_1_T Z q1 q2 h0 n0) := by
  refine own_go "com/example/cartouche/cartouche/crosswalks/DcValueEqualsPinLaw" rfl (plainFor_of_name pn_15) (fun m => ef_samT_1_T m q1 q2) (fun p e s m below meth c s₁ hx hby hml hown hnm hlk hret hZ X0 e0 => ?_)
  have N0 := Fr.nil n0
  show gs s₁ m 0 #[vi 1, .val (.long q1), .second, vi 1, .val (.long q2), .second, .unset, .unset, .unset] []
  refine oiloadN X0 hx hby d15_0 rfl ?_
  refine oiloadN X0 hx hby d15_1 rfl ?_
  refine own_st (fun _ kS => XS.icmpYes X0.here hx rfl (pc0 := 2) (pc' := 7) rfl (hb hby d15_2) rfl (teq (by decide : (1 : Int32) = (1 : Int32))).1 (by decide) (by decide) kS) ?_
  show gs s₁ m 7 #[vi 1, .val (.long q1), .second, vi 1, .val (.long q2), .second, .unset, .unset, .unset] []
  refine oiloadN X0 hx hby d15_7 rfl ?_
  refine oiconst X0 hx hby d15_8 ?_
  refine own_st (fun _ kS => XS.icmpNo X0.here hx rfl (hb hby d15_9) rfl (flt (by decide : ¬ ((1 : Int32) < (1 : Int32)))).1 kS) ?_
  show gs s₁ m 12 #[vi 1, .val (.long q1), .second, vi 1, .val (.long q2), .second, .unset, .unset, .unset] []
  refine own_st (fun _ kS => XT.lloadN X0.here hx rfl (hb hby d15_12) rfl kS) ?_
  refine oiconst X0 hx hby d15_13 ?_
  refine oS 0 X0 hx hZ hby hml hown (own_w hw 49 rfl) (own_w hw 50 rfl) (own_w hw 6 rfl) (own_w hw 51 rfl) (rm_ch l Z a0 hw [] q1 (0 : Int32) h0 n0 Z0  ) e0 (by decide) own_pd5 d15_14 rfl rfl rfl (fun T1 L1 v1 X1 hQ1 => ?_)
  obtain ⟨rfl, Nq1, eq1⟩ := hQ1
  have N1 := Fr.app N0 Nq1
  show gs T1 m 17 #[vi 1, .val (.long q1), .second, vi 1, .val (.long q2), .second, .unset, .unset, .unset] [(.int (own_ch q1 (0 : Int32)))]
  refine own_st (fun _ kS => XT.lload X1.here hx rfl (hb hby d15_17) rfl kS) ?_
  refine oiconst X1 hx hby d15_19 ?_
  refine oS 1 X1 hx hZ hby hml hown (own_w hw 49 rfl) (own_w hw 50 rfl) (own_w hw 6 rfl) (own_w hw 51 rfl) (rm_ch l Z a0 hw [] q2 (0 : Int32) h0 n0 Z0  ) eq1 (by decide) own_pd5 d15_20 rfl rfl rfl (fun T2 L2 v2 X2 hQ2 => ?_)
  obtain ⟨rfl, Nq2, eq2⟩ := hQ2
  have N2 := Fr.app N1 Nq2
  show gs T2 m 23 #[vi 1, .val (.long q1), .second, vi 1, .val (.long q2), .second, .unset, .unset, .unset] [(.int (own_ch q2 (0 : Int32))), (.int (own_ch q1 (0 : Int32)))]
  refine own_st (fun _ kS => XS.icmpNo X2.here hx rfl (hb hby d15_23) rfl (teq (hq0 : (own_ch q1 (0 : Int32)) = (own_ch q2 (0 : Int32)))).2 kS) ?_
  show gs T2 m 26 #[vi 1, .val (.long q1), .second, vi 1, .val (.long q2), .second, .unset, .unset, .unset] []
  refine oiconst X2 hx hby d15_26 ?_
  refine own_st (fun _ kS => XS.goto X2.here hx rfl (pc0 := 27) (pc' := 31) rfl (hb hby d15_27) (by decide) (by decide) kS) ?_
  refine own_st (fun _ kS => XS.istore X2.here hx rfl (hb hby d15_31) rfl (l' := #[vi 1, .val (.long q1), .second, vi 1, .val (.long q2), .second, vi 1, .unset, .unset]) rfl kS) ?_
  refine oiloadN X2 hx hby d15_33 rfl ?_
  refine oiconst X2 hx hby d15_34 ?_
  refine own_st (fun _ kS => XS.icmpYes X2.here hx rfl (pc0 := 35) (pc' := 52) rfl (hb hby d15_35) rfl (tlt (by decide : (1 : Int32) < (2 : Int32))).1 (by decide) (by decide) kS) ?_
  show gs T2 m 52 #[vi 1, .val (.long q1), .second, vi 1, .val (.long q2), .second, vi 1, .unset, .unset] []
  refine oiconst X2 hx hby d15_52 ?_
  refine own_st (fun _ kS => XS.goto X2.here hx rfl (pc0 := 53) (pc' := 57) rfl (hb hby d15_53) (by decide) (by decide) kS) ?_
  refine own_st (fun _ kS => XS.istore X2.here hx rfl (hb hby d15_57) rfl (l' := #[vi 1, .val (.long q1), .second, vi 1, .val (.long q2), .second, vi 1, vi 1, .unset]) rfl kS) ?_
  refine oiloadN X2 hx hby d15_59 rfl ?_
  refine oiconst X2 hx hby d15_60 ?_
  refine own_st (fun _ kS => XS.icmpYes X2.here hx rfl (pc0 := 61) (pc' := 78) rfl (hb hby d15_61) rfl (tlt (by decide : (1 : Int32) < (3 : Int32))).1 (by decide) (by decide) kS) ?_
  show gs T2 m 78 #[vi 1, .val (.long q1), .second, vi 1, .val (.long q2), .second, vi 1, vi 1, .unset] []
  refine oiconst X2 hx hby d15_78 ?_
  refine own_st (fun _ kS => XS.goto X2.here hx rfl (pc0 := 79) (pc' := 83) rfl (hb hby d15_79) (by decide) (by decide) kS) ?_
  refine own_st (fun _ kS => XS.istore X2.here hx rfl (hb hby d15_83) rfl (l' := #[vi 1, .val (.long q1), .second, vi 1, .val (.long q2), .second, vi 1, vi 1, vi 1]) rfl kS) ?_
  refine oiload X2 hx hby d15_85 rfl ?_
  refine own_st (fun _ kS => XS.ifNo X2.here hx rfl (hb hby d15_87) rfl ((if0 _ _).trans (feq (by decide : ¬ ((1 : Int32) = (0 : Int32)))).1) kS) ?_
  show gs T2 m 90 #[vi 1, .val (.long q1), .second, vi 1, .val (.long q2), .second, vi 1, vi 1, vi 1] []
  refine oiload X2 hx hby d15_90 rfl ?_
  refine own_st (fun _ kS => XS.ifNo X2.here hx rfl (hb hby d15_92) rfl ((if0 _ _).trans (feq (by decide : ¬ ((1 : Int32) = (0 : Int32)))).1) kS) ?_
  show gs T2 m 95 #[vi 1, .val (.long q1), .second, vi 1, .val (.long q2), .second, vi 1, vi 1, vi 1] []
  refine oiload X2 hx hby d15_95 rfl ?_
  refine own_st (fun _ kS => XS.ifNo X2.here hx rfl (hb hby d15_97) rfl ((if0 _ _).trans (feq (by decide : ¬ ((1 : Int32) = (0 : Int32)))).1) kS) ?_
  show gs T2 m 100 #[vi 1, .val (.long q1), .second, vi 1, .val (.long q2), .second, vi 1, vi 1, vi 1] []
  refine oiconst X2 hx hby d15_100 ?_
  refine own_st (fun _ kS => XS.goto X2.here hx rfl (pc0 := 101) (pc' := 105) rfl (hb hby d15_101) (by decide) (by decide) kS) ?_
  show gs T2 m 105 #[vi 1, .val (.long q1), .second, vi 1, .val (.long q2), .second, vi 1, vi 1, vi 1] [(.int 1)]
  exact own_retN X2 hx hlk (t := .boolean) hret (by simp) (hb hby d15_105) (by decide) (by decide) (v' := (1 : Int32)) rfl (by rw [eq2]; exact ⟨rfl, N2, rfl⟩)
theorem ef_latE_1_0 (m : MethodId) (x0 : Addr) (x1 : Addr) : entryFrame m #[(.ref x0), (.ref x1)] 3 = mkF m 0 #[.val (.ref x0), .val (.ref x1), .unset] [] := by first | (simp [entryFrame, mkF, argsToLocals, Value.category]; done) | rfl
def Q_latE_1_0 (Z : State) (t1 : Addr) (t2 : Addr) (k1a : ClassId) (k2a : ClassId) (y0 : Int32) (z0 : Int32) (h0 : Heap) (n0 : Nat) (v : Option Value) (h : Heap) (L : List Loc) : Prop := v = some (.int 0) ∧ Fr n0 L ∧ h = h0
theorem rm_latE_1_0 (l : Launch) (Z : State) (a0 : Array Value) (hw : HW a0 Z) (ws : List Jvm.Cond) (t1 : Addr) (t2 : Addr) (k1a : ClassId) (k2a : ClassId) (y0 : Int32) (z0 : Int32) (h0 : Heap) (n0 : Nat) (Z0 : n0 ≤ h0.size) (R_1 : Arv Z h0 t1 k1a .byte (1 : Int32) [(.int y0)] (.int 0)) (R_2 : Arv Z h0 t2 k2a .byte (1 : Int32) [(.int z0)] (.int 0)) (hq0 : ¬ (y0 = z0)) :
    M9 l ws (rmk 0 0 0 0) Z #[(.ref t1), (.ref t2)] h0 (Q_latE_1_0 Z t1 t2 k1a k2a y0 z0 h0 n0) := by
  refine own_go "java/lang/StringLatin1" rfl (plainFor_of_name pn_16) (fun m => ef_latE_1_0 m t1 t2) (fun p e s m below meth c s₁ hx hby hml hown hnm hlk hret hZ X0 e0 => ?_)
  have N0 := Fr.nil n0
  show gs s₁ m 0 #[vr t1, vr t2, .unset] []
  refine oaloadN X0 hx hby d16_0 rfl rfl ?_
  show gs s₁ m 1 #[vr t1, vr t2, .unset] [(.ref t1)]
  obtain ⟨cl1, Ar1, qa1, qs1, qn1, qh1, qg1⟩ := id R_1
  refine own_st (fun _ kS => X0.arraylength hx (by rw [e0]; exact Ar1.1) (State.isArrayOf_alike hZ.alike Ar1.2.1) (g := (mkF m 1 #[vr t1, vr t2, .unset] [(.ref t1)])) rfl rfl (hb hby d16_1) _ kS) ?_
  rw [len_of qs1 qn1]
  show gs s₁ m 2 #[vr t1, vr t2, .unset] [(.int 1)]
  refine oaloadN X0 hx hby d16_2 rfl rfl ?_
  show gs s₁ m 3 #[vr t1, vr t2, .unset] [(.ref t2), (.int 1)]
  obtain ⟨cl2, Ar2, qa2, qs2, qn2, qh2, qg2⟩ := id R_2
  refine own_st (fun _ kS => X0.arraylength hx (by rw [e0]; exact Ar2.1) (State.isArrayOf_alike hZ.alike Ar2.2.1) (g := (mkF m 3 #[vr t1, vr t2, .unset] [(.ref t2), (.int 1)])) rfl rfl (hb hby d16_3) _ kS) ?_
  rw [len_of qs2 qn2]
  show gs s₁ m 4 #[vr t1, vr t2, .unset] [(.int 1), (.int 1)]
  refine own_st (fun _ kS => XS.icmpNo X0.here hx rfl (hb hby d16_4) rfl (teq (by decide : (1 : Int32) = (1 : Int32))).2 kS) ?_
  show gs s₁ m 7 #[vr t1, vr t2, .unset] []
  refine oiconst X0 hx hby d16_7 ?_
  refine own_st (fun _ kS => XS.istoreN X0.here hx rfl (hb hby d16_8) rfl (l' := #[vr t1, vr t2, vi 0]) rfl kS) ?_
  refine oiloadN X0 hx hby d16_9 rfl ?_
  refine oaloadN X0 hx hby d16_10 rfl rfl ?_
  show gs s₁ m 11 #[vr t1, vr t2, vi 0] [(.ref t1), (.int 0)]
  obtain ⟨cl3, Ar3, qa3, qs3, qn3, qh3, qg3⟩ := id R_1
  refine own_st (fun _ kS => X0.arraylength hx (by rw [e0]; exact Ar3.1) (State.isArrayOf_alike hZ.alike Ar3.2.1) (g := (mkF m 11 #[vr t1, vr t2, vi 0] [(.ref t1), (.int 0)])) rfl rfl (hb hby d16_11) _ kS) ?_
  rw [len_of qs3 qn3]
  show gs s₁ m 12 #[vr t1, vr t2, vi 0] [(.int 1), (.int 0)]
  refine own_st (fun _ kS => XS.icmpNo X0.here hx rfl (hb hby d16_12) rfl (tlt (by decide : (0 : Int32) < (1 : Int32))).2.1 kS) ?_
  show gs s₁ m 15 #[vr t1, vr t2, vi 0] []
  refine oaloadN X0 hx hby d16_15 rfl rfl ?_
  refine oiloadN X0 hx hby d16_16 rfl ?_
  show gs s₁ m 17 #[vr t1, vr t2, vi 0] [(.int 0), (.ref t1)]
  obtain ⟨cl4, Ar4, qa4, qs4, qn4, qh4, qg4⟩ := id R_1
  refine own_st (fun _ kS => X0.baloadBytes hx (j := (0 : Int32)) (v := (.int y0)) (by rw [e0]; exact Ar4.1) (State.isArrayOf_alike hZ.alike Ar4.2.1) Ar4.2.2 (inb_of qs4 ⟨by decide, by decide⟩) (qh4.at (inb_of qs4 ⟨by decide, by decide⟩) rfl) (g := (mkF m 17 #[vr t1, vr t2, vi 0] [(.int 0), (.ref t1)])) rfl rfl (hb hby d16_17) _ kS) ?_
  show gs s₁ m 18 #[vr t1, vr t2, vi 0] [(.int y0)]
  refine oaloadN X0 hx hby d16_18 rfl rfl ?_
  refine oiloadN X0 hx hby d16_19 rfl ?_
  show gs s₁ m 20 #[vr t1, vr t2, vi 0] [(.int 0), (.ref t2), (.int y0)]
  obtain ⟨cl5, Ar5, qa5, qs5, qn5, qh5, qg5⟩ := id R_2
  refine own_st (fun _ kS => X0.baloadBytes hx (j := (0 : Int32)) (v := (.int z0)) (by rw [e0]; exact Ar5.1) (State.isArrayOf_alike hZ.alike Ar5.2.1) Ar5.2.2 (inb_of qs5 ⟨by decide, by decide⟩) (qh5.at (inb_of qs5 ⟨by decide, by decide⟩) rfl) (g := (mkF m 20 #[vr t1, vr t2, vi 0] [(.int 0), (.ref t2), (.int y0)])) rfl rfl (hb hby d16_20) _ kS) ?_
  show gs s₁ m 21 #[vr t1, vr t2, vi 0] [(.int z0), (.int y0)]
  refine own_st (fun _ kS => XS.icmpNo X0.here hx rfl (hb hby d16_21) rfl (feq (hq0 : ¬ (y0 = z0))).1 kS) ?_
  show gs s₁ m 24 #[vr t1, vr t2, vi 0] []
  refine oiconst X0 hx hby d16_24 ?_
  exact own_retN X0 hx hlk (t := .boolean) hret (by simp) (hb hby d16_25) (by decide) (by decide) (v' := (0 : Int32)) rfl (by rw [e0]; exact ⟨rfl, N0, rfl⟩)
theorem ef_strE_1_0 (m : MethodId) (x0 : Addr) (x1 : Addr) : entryFrame m #[(.ref x0), (.ref x1)] 3 = mkF m 0 #[.val (.ref x0), .val (.ref x1), .unset] [] := by first | (simp [entryFrame, mkF, argsToLocals, Value.category]; done) | rfl
def Q_strE_1_0 (Z : State) (s1 : Addr) (s2 : Addr) (t1 : Addr) (t2 : Addr) (k1a : ClassId) (k2a : ClassId) (y0 : Int32) (z0 : Int32) (zCS : Int32) (h0 : Heap) (n0 : Nat) (v : Option Value) (h : Heap) (L : List Loc) : Prop := v = some (.int 0) ∧ Fr n0 L ∧ h = h0
theorem rm_strE_1_0 (l : Launch) (Z : State) (a0 : Array Value) (hw : HW a0 Z) (ws : List Jvm.Cond) (s1 : Addr) (s2 : Addr) (t1 : Addr) (t2 : Addr) (k1a : ClassId) (k2a : ClassId) (y0 : Int32) (z0 : Int32) (zCS : Int32) (h0 : Heap) (n0 : Nat) (Z0 : n0 ≤ h0.size) (O0 : Old Z n0 h0) (ne12 : s1 ≠ s2) (E_1 : ek21 Z h0 s1) (E_2 : ek21 Z h0 s2) (F1v : fk17 Z h0 s1 (.ref t1)) (F2v : fk17 Z h0 s2 (.ref t2)) (F1c : fk16 Z h0 s1 (.int 0)) (F2c : fk16 Z h0 s2 (.int 0)) (R_1 : Arv Z h0 t1 k1a .byte (1 : Int32) [(.int y0)] (.int 0)) (R_2 : Arv Z h0 t2 k2a .byte (1 : Int32) [(.int z0)] (.int 0)) (hq0 : ¬ (y0 = z0)) (S_CS : sk0 Z Z.heap (.int zCS)) (P_CS : ¬ zCS = 0) :
    M10 l ws (rmk 1 0 0 14) Z #[(.ref s1), (.ref s2)] h0 (Q_strE_1_0 Z s1 s2 t1 t2 k1a k2a y0 z0 zCS h0 n0) := by
  refine own_go "java/lang/String" rfl (plainFor_of_name pn_13) (fun m => ef_strE_1_0 m s1 s2) (fun p e s m below meth c s₁ hx hby hml hown hnm hlk hret hZ X0 e0 => ?_)
  have N0 := Fr.nil n0
  show gs s₁ m 0 #[vr s1, vr s2, .unset] []
  refine oaloadN X0 hx hby d13_0 rfl rfl ?_
  refine oaloadN X0 hx hby d13_1 rfl rfl ?_
  show gs s₁ m 2 #[vr s1, vr s2, .unset] [(.ref s2), (.ref s1)]
  refine own_st (fun _ kS => Jvm.RoadKit.acmp (g := (mkF m 2 #[vr s1, vr s2, .unset] [(.ref s2), (.ref s1)])) X0 hx rfl rfl rfl (pc0 := 2) (pc' := 7) (same := false) rfl (hb hby d13_2) rfl (decide_eq_false fun q => ne12 (Value.ref.inj q)) (by decide) (by decide) kS) ?_
  show gs s₁ m 7 #[vr s1, vr s2, .unset] []
  refine oaloadN X0 hx hby d13_7 rfl rfl ?_
  obtain ⟨T1, X1, e1, st1⟩ := instY X0 hx hZ hown (own_w hw 120 rfl) e0 (Ins.self E_2) (g := (mkF m 8 #[vr s1, vr s2, .unset] [(.ref s2)])) rfl rfl (hb hby d13_8)
  refine own_st st1 ?_
  show gs T1 m 11 #[vr s1, vr s2, .unset] [(.int 1)]
  refine own_st (fun _ kS => XS.ifNo X1.here hx rfl (hb hby d13_11) rfl ((if0 _ _).trans (feq (by decide : ¬ ((1 : Int32) = (0 : Int32)))).1) kS) ?_
  show gs T1 m 14 #[vr s1, vr s2, .unset] []
  refine oaloadN X1 hx hby d13_14 rfl rfl ?_
  obtain ⟨T2, X2, e2, st2⟩ := castY X1 hx hZ hown (own_w hw 120 rfl) e1 (Ins.self E_2) (g := (mkF m 15 #[vr s1, vr s2, .unset] [(.ref s2)])) rfl rfl (hb hby d13_15)
  refine own_st st2 ?_
  show gs T2 m 18 #[vr s1, vr s2, .unset] [(.ref s2)]
  refine own_st (fun _ kS => XS.astoreN X2.here hx rfl (hb hby d13_18) rfl rfl (l' := #[vr s1, vr s2, vr s2]) rfl kS) ?_
  show gs T2 m 19 #[vr s1, vr s2, vr s2] []
  obtain ⟨T3, X3, e3, st3⟩ := getS2 X2 hx hZ hown (host := "") (Or.inl (own_w hw 63 rfl)) Via.refl e2 (Sta.ext O0.2 S_CS) (g := (mkF m 19 #[vr s1, vr s2, vr s2] [])) rfl (hb hby d13_19)
  refine own_st st3 ?_
  show gs T3 m 22 #[vr s1, vr s2, vr s2] [(.int zCS)]
  refine own_st (fun _ kS => XS.ifNo X3.here hx rfl (hb hby d13_22) rfl ((if0 _ _).trans (feq (P_CS : ¬ (zCS = (0 : Int32)))).1) kS) ?_
  show gs T3 m 25 #[vr s1, vr s2, vr s2] []
  refine oaloadN X3 hx hby d13_25 rfl rfl ?_
  obtain ⟨T4, X4, e4, st4⟩ := getF X3 hx hZ hown (host := "") (Or.inl (own_w hw 75 rfl)) Via.refl e3 F1c (g := (mkF m 26 #[vr s1, vr s2, vr s2] [(.ref s1)])) rfl rfl (hb hby d13_26)
  refine own_st st4 ?_
  show gs T4 m 29 #[vr s1, vr s2, vr s2] [(.int 0)]
  refine oaloadN X4 hx hby d13_29 rfl rfl ?_
  obtain ⟨T5, X5, e5, st5⟩ := getF X4 hx hZ hown (host := "") (Or.inl (own_w hw 75 rfl)) Via.refl e4 F2c (g := (mkF m 30 #[vr s1, vr s2, vr s2] [(.ref s2), (.int 0)])) rfl rfl (hb hby d13_30)
  refine own_st st5 ?_
  show gs T5 m 33 #[vr s1, vr s2, vr s2] [(.int 0), (.int 0)]
  refine own_st (fun _ kS => XS.icmpNo X5.here hx rfl (hb hby d13_33) rfl (teq (by decide : (0 : Int32) = (0 : Int32))).2 kS) ?_
  show gs T5 m 36 #[vr s1, vr s2, vr s2] []
  refine oaloadN X5 hx hby d13_36 rfl rfl ?_
  obtain ⟨T6, X6, e6, st6⟩ := getF X5 hx hZ hown (host := "") (Or.inl (own_w hw 77 rfl)) Via.refl e5 F1v (g := (mkF m 37 #[vr s1, vr s2, vr s2] [(.ref s1)])) rfl rfl (hb hby d13_37)
  refine own_st st6 ?_
  show gs T6 m 40 #[vr s1, vr s2, vr s2] [(.ref t1)]
  refine oaloadN X6 hx hby d13_40 rfl rfl ?_
  obtain ⟨T7, X7, e7, st7⟩ := getF X6 hx hZ hown (host := "") (Or.inl (own_w hw 77 rfl)) Via.refl e6 F2v (g := (mkF m 41 #[vr s1, vr s2, vr s2] [(.ref s2), (.ref t1)])) rfl rfl (hb hby d13_41)
  refine own_st st7 ?_
  show gs T7 m 44 #[vr s1, vr s2, vr s2] [(.ref t2), (.ref t1)]
  refine oS 0 X7 hx hZ hby hml hown (own_w hw 121 rfl) (own_w hw 122 rfl) (own_w hw 123 rfl) (own_w hw 124 rfl) (rm_latE_1_0 l Z a0 hw [] t1 t2 k1a k2a y0 z0 h0 n0 Z0  R_1 R_2 hq0) e7 (by decide) own_pd7 d13_44 rfl rfl rfl (fun T8 L8 v8 X8 hQ8 => ?_)
  obtain ⟨rfl, Nq8, eq8⟩ := hQ8
  have N8 := Fr.app N0 Nq8
  show gs T8 m 47 #[vr s1, vr s2, vr s2] [(.int 0)]
  refine own_st (fun _ kS => XS.ifYes X8.here hx rfl (pc0 := 47) (pc' := 54) rfl (hb hby d13_47) rfl ((if0 _ _).trans (teq (by decide : (0 : Int32) = (0 : Int32))).1) (by decide) (by decide) kS) ?_
  show gs T8 m 54 #[vr s1, vr s2, vr s2] []
  refine oiconst X8 hx hby d13_54 ?_
  exact own_retN X8 hx hlk (t := .boolean) hret (by simp) (hb hby d13_55) (by decide) (by decide) (v' := (0 : Int32)) rfl (by rw [eq8]; exact ⟨rfl, N8, rfl⟩)
theorem ef_dcE_1_0 (m : MethodId) (x0 : Addr) (x1 : Addr) : entryFrame m #[(.ref x0), (.ref x1)] 3 = mkF m 0 #[.val (.ref x0), .val (.ref x1), .unset] [] := by first | (simp [entryFrame, mkF, argsToLocals, Value.category]; done) | rfl
def Q_dcE_1_0 (Z : State) (a1 : Addr) (a2 : Addr) (v1 : Addr) (s1 : Addr) (s2 : Addr) (t1 : Addr) (t2 : Addr) (k1a : ClassId) (k2a : ClassId) (y0 : Int32) (z0 : Int32) (zCS : Int32) (h0 : Heap) (n0 : Nat) (v : Option Value) (h : Heap) (L : List Loc) : Prop := v = some (.int 0) ∧ Fr n0 L ∧ h = h0
theorem rm_dcE_1_0 (l : Launch) (Z : State) (a0 : Array Value) (hw : HW a0 Z) (ws : List Jvm.Cond) (a1 : Addr) (a2 : Addr) (v1 : Addr) (s1 : Addr) (s2 : Addr) (t1 : Addr) (t2 : Addr) (k1a : ClassId) (k2a : ClassId) (y0 : Int32) (z0 : Int32) (zCS : Int32) (h0 : Heap) (n0 : Nat) (Z0 : n0 ≤ h0.size) (O0 : Old Z n0 h0) (E_a : ek22 Z h0 a1) (E_b : ek22 Z h0 a2) (Fe1 : fk18 Z h0 a1 (.ref v1)) (Ft1 : fk19 Z h0 a1 (.ref s1)) (Fe2 : fk18 Z h0 a2 (.ref v1)) (Ft2 : fk19 Z h0 a2 (.ref s2)) (ne12 : s1 ≠ s2) (E_1 : ek21 Z h0 s1) (E_2 : ek21 Z h0 s2) (F1v : fk17 Z h0 s1 (.ref t1)) (F2v : fk17 Z h0 s2 (.ref t2)) (F1c : fk16 Z h0 s1 (.int 0)) (F2c : fk16 Z h0 s2 (.int 0)) (R_1 : Arv Z h0 t1 k1a .byte (1 : Int32) [(.int y0)] (.int 0)) (R_2 : Arv Z h0 t2 k2a .byte (1 : Int32) [(.int z0)] (.int 0)) (hq0 : ¬ (y0 = z0)) (S_CS : sk0 Z Z.heap (.int zCS)) (P_CS : ¬ zCS = 0) :
    M11 l ws (rmk 2 0 0 28) Z #[(.ref a1), (.ref a2)] h0 (Q_dcE_1_0 Z a1 a2 v1 s1 s2 t1 t2 k1a k2a y0 z0 zCS h0 n0) := by
  refine own_go "com/example/cartouche/cartouche/crosswalks/DcValue" rfl (plainFor_of_name pn_12) (fun m => ef_dcE_1_0 m a1 a2) (fun p e s m below meth c s₁ hx hby hml hown hnm hlk hret hZ X0 e0 => ?_)
  have N0 := Fr.nil n0
  show gs s₁ m 0 #[vr a1, vr a2, .unset] []
  refine oaloadN X0 hx hby d12_0 rfl rfl ?_
  obtain ⟨T1, X1, e1, st1⟩ := instY X0 hx hZ hown (own_w hw 103 rfl) e0 (Ins.self E_b) (g := (mkF m 1 #[vr a1, vr a2, .unset] [(.ref a2)])) rfl rfl (hb hby d12_1)
  refine own_st st1 ?_
  show gs T1 m 4 #[vr a1, vr a2, .unset] [(.int 1)]
  refine own_st (fun _ kS => XS.ifNo X1.here hx rfl (hb hby d12_4) rfl ((if0 _ _).trans (feq (by decide : ¬ ((1 : Int32) = (0 : Int32)))).1) kS) ?_
  show gs T1 m 7 #[vr a1, vr a2, .unset] []
  refine oaloadN X1 hx hby d12_7 rfl rfl ?_
  obtain ⟨T2, X2, e2, st2⟩ := castY X1 hx hZ hown (own_w hw 103 rfl) e1 (Ins.self E_b) (g := (mkF m 8 #[vr a1, vr a2, .unset] [(.ref a2)])) rfl rfl (hb hby d12_8)
  refine own_st st2 ?_
  show gs T2 m 11 #[vr a1, vr a2, .unset] [(.ref a2)]
  refine own_st (fun _ kS => XS.astoreN X2.here hx rfl (hb hby d12_11) rfl rfl (l' := #[vr a1, vr a2, vr a2]) rfl kS) ?_
  refine oaloadN X2 hx hby d12_12 rfl rfl ?_
  obtain ⟨T3, X3, e3, st3⟩ := getF X2 hx hZ hown (host := "") (Or.inl (own_w hw 91 rfl)) Via.refl e2 Fe1 (g := (mkF m 13 #[vr a1, vr a2, vr a2] [(.ref a1)])) rfl rfl (hb hby d12_13)
  refine own_st st3 ?_
  show gs T3 m 16 #[vr a1, vr a2, vr a2] [(.ref v1)]
  refine oaloadN X3 hx hby d12_16 rfl rfl ?_
  obtain ⟨T4, X4, e4, st4⟩ := getF X3 hx hZ hown (host := "") (Or.inl (own_w hw 91 rfl)) Via.refl e3 Fe2 (g := (mkF m 17 #[vr a1, vr a2, vr a2] [(.ref a2), (.ref v1)])) rfl rfl (hb hby d12_17)
  refine own_st st4 ?_
  show gs T4 m 20 #[vr a1, vr a2, vr a2] [(.ref v1), (.ref v1)]
  refine own_st (fun _ kS => Jvm.RoadKit.acmp (g := (mkF m 20 #[vr a1, vr a2, vr a2] [(.ref v1), (.ref v1)])) X4 hx rfl rfl rfl (pc0 := 20) (pc' := 23) (same := true) rfl (hb hby d12_20) rfl (decide_eq_true rfl) (by decide) (by decide) kS) ?_
  show gs T4 m 23 #[vr a1, vr a2, vr a2] []
  refine oaloadN X4 hx hby d12_23 rfl rfl ?_
  obtain ⟨T5, X5, e5, st5⟩ := getF X4 hx hZ hown (host := "") (Or.inl (own_w hw 95 rfl)) Via.refl e4 Ft1 (g := (mkF m 24 #[vr a1, vr a2, vr a2] [(.ref a1)])) rfl rfl (hb hby d12_24)
  refine own_st st5 ?_
  show gs T5 m 27 #[vr a1, vr a2, vr a2] [(.ref s1)]
  refine oaloadN X5 hx hby d12_27 rfl rfl ?_
  obtain ⟨T6, X6, e6, st6⟩ := getF X5 hx hZ hown (host := "") (Or.inl (own_w hw 95 rfl)) Via.refl e5 Ft2 (g := (mkF m 28 #[vr a1, vr a2, vr a2] [(.ref a2), (.ref s1)])) rfl rfl (hb hby d12_28)
  refine own_st st6 ?_
  show gs T6 m 31 #[vr a1, vr a2, vr a2] [(.ref s2), (.ref s1)]
  refine oV 0 X6 hx hZ hby hml hown (own_w hw 105 rfl) (own_w hw 106 rfl) (own_w hw 108 rfl) (own_w hw 107 rfl) (rm_strE_1_0 l Z a0 hw [] s1 s2 t1 t2 k1a k2a y0 z0 zCS h0 n0 Z0 O0 ne12 E_1 E_2 F1v F2v F1c F2c R_1 R_2 hq0 S_CS P_CS) (own_w hw 109 rfl) (own_w hw 47 rfl) e6 E_1 (by decide) own_pd8 d12_31 rfl rfl rfl (fun T7 L7 v7 X7 hQ7 => ?_)
  obtain ⟨rfl, Nq7, eq7⟩ := hQ7
  have N7 := Fr.app N0 Nq7
  show gs T7 m 34 #[vr a1, vr a2, vr a2] [(.int 0)]
  refine own_st (fun _ kS => XS.ifYes X7.here hx rfl (pc0 := 34) (pc' := 41) rfl (hb hby d12_34) rfl ((if0 _ _).trans (teq (by decide : (0 : Int32) = (0 : Int32))).1) (by decide) (by decide) kS) ?_
  show gs T7 m 41 #[vr a1, vr a2, vr a2] []
  refine oiconst X7 hx hby d12_41 ?_
  exact own_retN X7 hx hlk (t := .boolean) hret (by simp) (hb hby d12_42) (by decide) (by decide) (v' := (0 : Int32)) rfl (by rw [eq7]; exact ⟨rfl, N7, rfl⟩)
theorem ef_samT_1_0 (m : MethodId) (x0 : Int64) (x1 : Int64) : entryFrame m #[(.int 1), (.long x0), (.int 1), (.long x1)] 9 = mkF m 0 #[.val (.int 1), .val (.long x0), .second, .val (.int 1), .val (.long x1), .second, .unset, .unset, .unset] [] := by first | (simp [entryFrame, mkF, argsToLocals, Value.category]; done) | rfl
def Q_samT_1_0 (Z : State) (q1 : Int64) (q2 : Int64) (h0 : Heap) (n0 : Nat) (v : Option Value) (h : Heap) (L : List Loc) : Prop := v = some (.int 0) ∧ Fr n0 L ∧ h = h0
theorem rm_samT_1_0 (l : Launch) (Z : State) (a0 : Array Value) (hw : HW a0 Z) (ws : List Jvm.Cond) (q1 : Int64) (q2 : Int64) (h0 : Heap) (n0 : Nat) (Z0 : n0 ≤ h0.size) (hq0 : ¬ ((own_ch q1 (0 : Int32)) = (own_ch q2 (0 : Int32)))) :
    M12 l ws (rmk 1 0 0 15) Z #[(.int 1), (.long q1), (.int 1), (.long q2)] h0 (Q_samT_1_0 Z q1 q2 h0 n0) := by
  refine own_go "com/example/cartouche/cartouche/crosswalks/DcValueEqualsPinLaw" rfl (plainFor_of_name pn_15) (fun m => ef_samT_1_0 m q1 q2) (fun p e s m below meth c s₁ hx hby hml hown hnm hlk hret hZ X0 e0 => ?_)
  have N0 := Fr.nil n0
  show gs s₁ m 0 #[vi 1, .val (.long q1), .second, vi 1, .val (.long q2), .second, .unset, .unset, .unset] []
  refine oiloadN X0 hx hby d15_0 rfl ?_
  refine oiloadN X0 hx hby d15_1 rfl ?_
  refine own_st (fun _ kS => XS.icmpYes X0.here hx rfl (pc0 := 2) (pc' := 7) rfl (hb hby d15_2) rfl (teq (by decide : (1 : Int32) = (1 : Int32))).1 (by decide) (by decide) kS) ?_
  show gs s₁ m 7 #[vi 1, .val (.long q1), .second, vi 1, .val (.long q2), .second, .unset, .unset, .unset] []
  refine oiloadN X0 hx hby d15_7 rfl ?_
  refine oiconst X0 hx hby d15_8 ?_
  refine own_st (fun _ kS => XS.icmpNo X0.here hx rfl (hb hby d15_9) rfl (flt (by decide : ¬ ((1 : Int32) < (1 : Int32)))).1 kS) ?_
  show gs s₁ m 12 #[vi 1, .val (.long q1), .second, vi 1, .val (.long q2), .second, .unset, .unset, .unset] []
  refine own_st (fun _ kS => XT.lloadN X0.here hx rfl (hb hby d15_12) rfl kS) ?_
  refine oiconst X0 hx hby d15_13 ?_
  refine oS 0 X0 hx hZ hby hml hown (own_w hw 49 rfl) (own_w hw 50 rfl) (own_w hw 6 rfl) (own_w hw 51 rfl) (rm_ch l Z a0 hw [] q1 (0 : Int32) h0 n0 Z0  ) e0 (by decide) own_pd5 d15_14 rfl rfl rfl (fun T1 L1 v1 X1 hQ1 => ?_)
  obtain ⟨rfl, Nq1, eq1⟩ := hQ1
  have N1 := Fr.app N0 Nq1
  show gs T1 m 17 #[vi 1, .val (.long q1), .second, vi 1, .val (.long q2), .second, .unset, .unset, .unset] [(.int (own_ch q1 (0 : Int32)))]
  refine own_st (fun _ kS => XT.lload X1.here hx rfl (hb hby d15_17) rfl kS) ?_
  refine oiconst X1 hx hby d15_19 ?_
  refine oS 1 X1 hx hZ hby hml hown (own_w hw 49 rfl) (own_w hw 50 rfl) (own_w hw 6 rfl) (own_w hw 51 rfl) (rm_ch l Z a0 hw [] q2 (0 : Int32) h0 n0 Z0  ) eq1 (by decide) own_pd5 d15_20 rfl rfl rfl (fun T2 L2 v2 X2 hQ2 => ?_)
  obtain ⟨rfl, Nq2, eq2⟩ := hQ2
  have N2 := Fr.app N1 Nq2
  show gs T2 m 23 #[vi 1, .val (.long q1), .second, vi 1, .val (.long q2), .second, .unset, .unset, .unset] [(.int (own_ch q2 (0 : Int32))), (.int (own_ch q1 (0 : Int32)))]
  refine own_st (fun _ kS => XS.icmpYes X2.here hx rfl (pc0 := 23) (pc' := 30) rfl (hb hby d15_23) rfl (feq (hq0 : ¬ ((own_ch q1 (0 : Int32)) = (own_ch q2 (0 : Int32))))).2 (by decide) (by decide) kS) ?_
  show gs T2 m 30 #[vi 1, .val (.long q1), .second, vi 1, .val (.long q2), .second, .unset, .unset, .unset] []
  refine oiconst X2 hx hby d15_30 ?_
  refine own_st (fun _ kS => XS.istore X2.here hx rfl (hb hby d15_31) rfl (l' := #[vi 1, .val (.long q1), .second, vi 1, .val (.long q2), .second, vi 0, .unset, .unset]) rfl kS) ?_
  refine oiloadN X2 hx hby d15_33 rfl ?_
  refine oiconst X2 hx hby d15_34 ?_
  refine own_st (fun _ kS => XS.icmpYes X2.here hx rfl (pc0 := 35) (pc' := 52) rfl (hb hby d15_35) rfl (tlt (by decide : (1 : Int32) < (2 : Int32))).1 (by decide) (by decide) kS) ?_
  show gs T2 m 52 #[vi 1, .val (.long q1), .second, vi 1, .val (.long q2), .second, vi 0, .unset, .unset] []
  refine oiconst X2 hx hby d15_52 ?_
  refine own_st (fun _ kS => XS.goto X2.here hx rfl (pc0 := 53) (pc' := 57) rfl (hb hby d15_53) (by decide) (by decide) kS) ?_
  refine own_st (fun _ kS => XS.istore X2.here hx rfl (hb hby d15_57) rfl (l' := #[vi 1, .val (.long q1), .second, vi 1, .val (.long q2), .second, vi 0, vi 1, .unset]) rfl kS) ?_
  refine oiloadN X2 hx hby d15_59 rfl ?_
  refine oiconst X2 hx hby d15_60 ?_
  refine own_st (fun _ kS => XS.icmpYes X2.here hx rfl (pc0 := 61) (pc' := 78) rfl (hb hby d15_61) rfl (tlt (by decide : (1 : Int32) < (3 : Int32))).1 (by decide) (by decide) kS) ?_
  show gs T2 m 78 #[vi 1, .val (.long q1), .second, vi 1, .val (.long q2), .second, vi 0, vi 1, .unset] []
  refine oiconst X2 hx hby d15_78 ?_
  refine own_st (fun _ kS => XS.goto X2.here hx rfl (pc0 := 79) (pc' := 83) rfl (hb hby d15_79) (by decide) (by decide) kS) ?_
  refine own_st (fun _ kS => XS.istore X2.here hx rfl (hb hby d15_83) rfl (l' := #[vi 1, .val (.long q1), .second, vi 1, .val (.long q2), .second, vi 0, vi 1, vi 1]) rfl kS) ?_
  refine oiload X2 hx hby d15_85 rfl ?_
  refine own_st (fun _ kS => XS.ifYes X2.here hx rfl (pc0 := 87) (pc' := 104) rfl (hb hby d15_87) rfl ((if0 _ _).trans (teq (by decide : (0 : Int32) = (0 : Int32))).1) (by decide) (by decide) kS) ?_
  show gs T2 m 104 #[vi 1, .val (.long q1), .second, vi 1, .val (.long q2), .second, vi 0, vi 1, vi 1] []
  refine oiconst X2 hx hby d15_104 ?_
  exact own_retN X2 hx hlk (t := .boolean) hret (by simp) (hb hby d15_105) (by decide) (by decide) (v' := (0 : Int32)) rfl (by rw [eq2]; exact ⟨rfl, N2, rfl⟩)
theorem ef_latE_2_T (m : MethodId) (x0 : Addr) (x1 : Addr) : entryFrame m #[(.ref x0), (.ref x1)] 3 = mkF m 0 #[.val (.ref x0), .val (.ref x1), .unset] [] := by first | (simp [entryFrame, mkF, argsToLocals, Value.category]; done) | rfl
def Q_latE_2_T (Z : State) (t1 : Addr) (t2 : Addr) (k1a : ClassId) (k2a : ClassId) (y0 : Int32) (y1 : Int32) (z0 : Int32) (z1 : Int32) (h0 : Heap) (n0 : Nat) (v : Option Value) (h : Heap) (L : List Loc) : Prop := v = some (.int 1) ∧ Fr n0 L ∧ h = h0
theorem rm_latE_2_T (l : Launch) (Z : State) (a0 : Array Value) (hw : HW a0 Z) (ws : List Jvm.Cond) (t1 : Addr) (t2 : Addr) (k1a : ClassId) (k2a : ClassId) (y0 : Int32) (y1 : Int32) (z0 : Int32) (z1 : Int32) (h0 : Heap) (n0 : Nat) (Z0 : n0 ≤ h0.size) (R_1 : Arv Z h0 t1 k1a .byte (2 : Int32) [(.int y0), (.int y1)] (.int 0)) (R_2 : Arv Z h0 t2 k2a .byte (2 : Int32) [(.int z0), (.int z1)] (.int 0)) (hq0 : y0 = z0) (hq1 : y1 = z1) :
    M9 l ws (rmk 0 0 0 0) Z #[(.ref t1), (.ref t2)] h0 (Q_latE_2_T Z t1 t2 k1a k2a y0 y1 z0 z1 h0 n0) := by
  refine own_go "java/lang/StringLatin1" rfl (plainFor_of_name pn_16) (fun m => ef_latE_2_T m t1 t2) (fun p e s m below meth c s₁ hx hby hml hown hnm hlk hret hZ X0 e0 => ?_)
  have N0 := Fr.nil n0
  show gs s₁ m 0 #[vr t1, vr t2, .unset] []
  refine oaloadN X0 hx hby d16_0 rfl rfl ?_
  show gs s₁ m 1 #[vr t1, vr t2, .unset] [(.ref t1)]
  obtain ⟨cl1, Ar1, qa1, qs1, qn1, qh1, qg1⟩ := id R_1
  refine own_st (fun _ kS => X0.arraylength hx (by rw [e0]; exact Ar1.1) (State.isArrayOf_alike hZ.alike Ar1.2.1) (g := (mkF m 1 #[vr t1, vr t2, .unset] [(.ref t1)])) rfl rfl (hb hby d16_1) _ kS) ?_
  rw [len_of qs1 qn1]
  show gs s₁ m 2 #[vr t1, vr t2, .unset] [(.int 2)]
  refine oaloadN X0 hx hby d16_2 rfl rfl ?_
  show gs s₁ m 3 #[vr t1, vr t2, .unset] [(.ref t2), (.int 2)]
  obtain ⟨cl2, Ar2, qa2, qs2, qn2, qh2, qg2⟩ := id R_2
  refine own_st (fun _ kS => X0.arraylength hx (by rw [e0]; exact Ar2.1) (State.isArrayOf_alike hZ.alike Ar2.2.1) (g := (mkF m 3 #[vr t1, vr t2, .unset] [(.ref t2), (.int 2)])) rfl rfl (hb hby d16_3) _ kS) ?_
  rw [len_of qs2 qn2]
  show gs s₁ m 4 #[vr t1, vr t2, .unset] [(.int 2), (.int 2)]
  refine own_st (fun _ kS => XS.icmpNo X0.here hx rfl (hb hby d16_4) rfl (teq (by decide : (2 : Int32) = (2 : Int32))).2 kS) ?_
  show gs s₁ m 7 #[vr t1, vr t2, .unset] []
  refine oiconst X0 hx hby d16_7 ?_
  refine own_st (fun _ kS => XS.istoreN X0.here hx rfl (hb hby d16_8) rfl (l' := #[vr t1, vr t2, vi 0]) rfl kS) ?_
  refine oiloadN X0 hx hby d16_9 rfl ?_
  refine oaloadN X0 hx hby d16_10 rfl rfl ?_
  show gs s₁ m 11 #[vr t1, vr t2, vi 0] [(.ref t1), (.int 0)]
  obtain ⟨cl3, Ar3, qa3, qs3, qn3, qh3, qg3⟩ := id R_1
  refine own_st (fun _ kS => X0.arraylength hx (by rw [e0]; exact Ar3.1) (State.isArrayOf_alike hZ.alike Ar3.2.1) (g := (mkF m 11 #[vr t1, vr t2, vi 0] [(.ref t1), (.int 0)])) rfl rfl (hb hby d16_11) _ kS) ?_
  rw [len_of qs3 qn3]
  show gs s₁ m 12 #[vr t1, vr t2, vi 0] [(.int 2), (.int 0)]
  refine own_st (fun _ kS => XS.icmpNo X0.here hx rfl (hb hby d16_12) rfl (tlt (by decide : (0 : Int32) < (2 : Int32))).2.1 kS) ?_
  show gs s₁ m 15 #[vr t1, vr t2, vi 0] []
  refine oaloadN X0 hx hby d16_15 rfl rfl ?_
  refine oiloadN X0 hx hby d16_16 rfl ?_
  show gs s₁ m 17 #[vr t1, vr t2, vi 0] [(.int 0), (.ref t1)]
  obtain ⟨cl4, Ar4, qa4, qs4, qn4, qh4, qg4⟩ := id R_1
  refine own_st (fun _ kS => X0.baloadBytes hx (j := (0 : Int32)) (v := (.int y0)) (by rw [e0]; exact Ar4.1) (State.isArrayOf_alike hZ.alike Ar4.2.1) Ar4.2.2 (inb_of qs4 ⟨by decide, by decide⟩) (qh4.at (inb_of qs4 ⟨by decide, by decide⟩) rfl) (g := (mkF m 17 #[vr t1, vr t2, vi 0] [(.int 0), (.ref t1)])) rfl rfl (hb hby d16_17) _ kS) ?_
  show gs s₁ m 18 #[vr t1, vr t2, vi 0] [(.int y0)]
  refine oaloadN X0 hx hby d16_18 rfl rfl ?_
  refine oiloadN X0 hx hby d16_19 rfl ?_
  show gs s₁ m 20 #[vr t1, vr t2, vi 0] [(.int 0), (.ref t2), (.int y0)]
  obtain ⟨cl5, Ar5, qa5, qs5, qn5, qh5, qg5⟩ := id R_2
  refine own_st (fun _ kS => X0.baloadBytes hx (j := (0 : Int32)) (v := (.int z0)) (by rw [e0]; exact Ar5.1) (State.isArrayOf_alike hZ.alike Ar5.2.1) Ar5.2.2 (inb_of qs5 ⟨by decide, by decide⟩) (qh5.at (inb_of qs5 ⟨by decide, by decide⟩) rfl) (g := (mkF m 20 #[vr t1, vr t2, vi 0] [(.int 0), (.ref t2), (.int y0)])) rfl rfl (hb hby d16_20) _ kS) ?_
  show gs s₁ m 21 #[vr t1, vr t2, vi 0] [(.int z0), (.int y0)]
  refine own_st (fun _ kS => XS.icmpYes X0.here hx rfl (pc0 := 21) (pc' := 26) rfl (hb hby d16_21) rfl (teq (hq0 : y0 = z0)).1 (by decide) (by decide) kS) ?_
  show gs s₁ m 26 #[vr t1, vr t2, vi 0] []
  refine own_st (fun _ kS => XS.iinc X0.here hx rfl (hb hby d16_26) rfl (l' := #[vr t1, vr t2, vi 1]) rfl kS) ?_
  refine own_st (fun _ kS => XS.goto X0.here hx rfl (pc0 := 29) (pc' := 9) rfl (hb hby d16_29) (by decide) (by decide) kS) ?_
  refine oiloadN X0 hx hby d16_9 rfl ?_
  refine oaloadN X0 hx hby d16_10 rfl rfl ?_
  show gs s₁ m 11 #[vr t1, vr t2, vi 1] [(.ref t1), (.int 1)]
  obtain ⟨cl6, Ar6, qa6, qs6, qn6, qh6, qg6⟩ := id R_1
  refine own_st (fun _ kS => X0.arraylength hx (by rw [e0]; exact Ar6.1) (State.isArrayOf_alike hZ.alike Ar6.2.1) (g := (mkF m 11 #[vr t1, vr t2, vi 1] [(.ref t1), (.int 1)])) rfl rfl (hb hby d16_11) _ kS) ?_
  rw [len_of qs6 qn6]
  show gs s₁ m 12 #[vr t1, vr t2, vi 1] [(.int 2), (.int 1)]
  refine own_st (fun _ kS => XS.icmpNo X0.here hx rfl (hb hby d16_12) rfl (tlt (by decide : (1 : Int32) < (2 : Int32))).2.1 kS) ?_
  show gs s₁ m 15 #[vr t1, vr t2, vi 1] []
  refine oaloadN X0 hx hby d16_15 rfl rfl ?_
  refine oiloadN X0 hx hby d16_16 rfl ?_
  show gs s₁ m 17 #[vr t1, vr t2, vi 1] [(.int 1), (.ref t1)]
  obtain ⟨cl7, Ar7, qa7, qs7, qn7, qh7, qg7⟩ := id R_1
  refine own_st (fun _ kS => X0.baloadBytes hx (j := (1 : Int32)) (v := (.int y1)) (by rw [e0]; exact Ar7.1) (State.isArrayOf_alike hZ.alike Ar7.2.1) Ar7.2.2 (inb_of qs7 ⟨by decide, by decide⟩) (qh7.at (inb_of qs7 ⟨by decide, by decide⟩) rfl) (g := (mkF m 17 #[vr t1, vr t2, vi 1] [(.int 1), (.ref t1)])) rfl rfl (hb hby d16_17) _ kS) ?_
  show gs s₁ m 18 #[vr t1, vr t2, vi 1] [(.int y1)]
  refine oaloadN X0 hx hby d16_18 rfl rfl ?_
  refine oiloadN X0 hx hby d16_19 rfl ?_
  show gs s₁ m 20 #[vr t1, vr t2, vi 1] [(.int 1), (.ref t2), (.int y1)]
  obtain ⟨cl8, Ar8, qa8, qs8, qn8, qh8, qg8⟩ := id R_2
  refine own_st (fun _ kS => X0.baloadBytes hx (j := (1 : Int32)) (v := (.int z1)) (by rw [e0]; exact Ar8.1) (State.isArrayOf_alike hZ.alike Ar8.2.1) Ar8.2.2 (inb_of qs8 ⟨by decide, by decide⟩) (qh8.at (inb_of qs8 ⟨by decide, by decide⟩) rfl) (g := (mkF m 20 #[vr t1, vr t2, vi 1] [(.int 1), (.ref t2), (.int y1)])) rfl rfl (hb hby d16_20) _ kS) ?_
  show gs s₁ m 21 #[vr t1, vr t2, vi 1] [(.int z1), (.int y1)]
  refine own_st (fun _ kS => XS.icmpYes X0.here hx rfl (pc0 := 21) (pc' := 26) rfl (hb hby d16_21) rfl (teq (hq1 : y1 = z1)).1 (by decide) (by decide) kS) ?_
  show gs s₁ m 26 #[vr t1, vr t2, vi 1] []
  refine own_st (fun _ kS => XS.iinc X0.here hx rfl (hb hby d16_26) rfl (l' := #[vr t1, vr t2, vi 2]) rfl kS) ?_
  refine own_st (fun _ kS => XS.goto X0.here hx rfl (pc0 := 29) (pc' := 9) rfl (hb hby d16_29) (by decide) (by decide) kS) ?_
  refine oiloadN X0 hx hby d16_9 rfl ?_
  refine oaloadN X0 hx hby d16_10 rfl rfl ?_
  show gs s₁ m 11 #[vr t1, vr t2, vi 2] [(.ref t1), (.int 2)]
  obtain ⟨cl9, Ar9, qa9, qs9, qn9, qh9, qg9⟩ := id R_1
  refine own_st (fun _ kS => X0.arraylength hx (by rw [e0]; exact Ar9.1) (State.isArrayOf_alike hZ.alike Ar9.2.1) (g := (mkF m 11 #[vr t1, vr t2, vi 2] [(.ref t1), (.int 2)])) rfl rfl (hb hby d16_11) _ kS) ?_
  rw [len_of qs9 qn9]
  show gs s₁ m 12 #[vr t1, vr t2, vi 2] [(.int 2), (.int 2)]
  refine own_st (fun _ kS => XS.icmpYes X0.here hx rfl (pc0 := 12) (pc' := 32) rfl (hb hby d16_12) rfl (flt (by decide : ¬ ((2 : Int32) < (2 : Int32)))).2.1 (by decide) (by decide) kS) ?_
  show gs s₁ m 32 #[vr t1, vr t2, vi 2] []
  refine oiconst X0 hx hby d16_32 ?_
  exact own_retN X0 hx hlk (t := .boolean) hret (by simp) (hb hby d16_33) (by decide) (by decide) (v' := (1 : Int32)) rfl (by rw [e0]; exact ⟨rfl, N0, rfl⟩)
theorem ef_strE_2_T (m : MethodId) (x0 : Addr) (x1 : Addr) : entryFrame m #[(.ref x0), (.ref x1)] 3 = mkF m 0 #[.val (.ref x0), .val (.ref x1), .unset] [] := by first | (simp [entryFrame, mkF, argsToLocals, Value.category]; done) | rfl
def Q_strE_2_T (Z : State) (s1 : Addr) (s2 : Addr) (t1 : Addr) (t2 : Addr) (k1a : ClassId) (k2a : ClassId) (y0 : Int32) (y1 : Int32) (z0 : Int32) (z1 : Int32) (zCS : Int32) (h0 : Heap) (n0 : Nat) (v : Option Value) (h : Heap) (L : List Loc) : Prop := v = some (.int 1) ∧ Fr n0 L ∧ h = h0
theorem rm_strE_2_T (l : Launch) (Z : State) (a0 : Array Value) (hw : HW a0 Z) (ws : List Jvm.Cond) (s1 : Addr) (s2 : Addr) (t1 : Addr) (t2 : Addr) (k1a : ClassId) (k2a : ClassId) (y0 : Int32) (y1 : Int32) (z0 : Int32) (z1 : Int32) (zCS : Int32) (h0 : Heap) (n0 : Nat) (Z0 : n0 ≤ h0.size) (O0 : Old Z n0 h0) (ne12 : s1 ≠ s2) (E_1 : ek21 Z h0 s1) (E_2 : ek21 Z h0 s2) (F1v : fk17 Z h0 s1 (.ref t1)) (F2v : fk17 Z h0 s2 (.ref t2)) (F1c : fk16 Z h0 s1 (.int 0)) (F2c : fk16 Z h0 s2 (.int 0)) (R_1 : Arv Z h0 t1 k1a .byte (2 : Int32) [(.int y0), (.int y1)] (.int 0)) (R_2 : Arv Z h0 t2 k2a .byte (2 : Int32) [(.int z0), (.int z1)] (.int 0)) (hq0 : y0 = z0) (hq1 : y1 = z1) (S_CS : sk0 Z Z.heap (.int zCS)) (P_CS : ¬ zCS = 0) :
    M10 l ws (rmk 1 0 0 14) Z #[(.ref s1), (.ref s2)] h0 (Q_strE_2_T Z s1 s2 t1 t2 k1a k2a y0 y1 z0 z1 zCS h0 n0) := by
  refine own_go "java/lang/String" rfl (plainFor_of_name pn_13) (fun m => ef_strE_2_T m s1 s2) (fun p e s m below meth c s₁ hx hby hml hown hnm hlk hret hZ X0 e0 => ?_)
  have N0 := Fr.nil n0
  show gs s₁ m 0 #[vr s1, vr s2, .unset] []
  refine oaloadN X0 hx hby d13_0 rfl rfl ?_
  refine oaloadN X0 hx hby d13_1 rfl rfl ?_
  show gs s₁ m 2 #[vr s1, vr s2, .unset] [(.ref s2), (.ref s1)]
  refine own_st (fun _ kS => Jvm.RoadKit.acmp (g := (mkF m 2 #[vr s1, vr s2, .unset] [(.ref s2), (.ref s1)])) X0 hx rfl rfl rfl (pc0 := 2) (pc' := 7) (same := false) rfl (hb hby d13_2) rfl (decide_eq_false fun q => ne12 (Value.ref.inj q)) (by decide) (by decide) kS) ?_
  show gs s₁ m 7 #[vr s1, vr s2, .unset] []
  refine oaloadN X0 hx hby d13_7 rfl rfl ?_
  obtain ⟨T1, X1, e1, st1⟩ := instY X0 hx hZ hown (own_w hw 120 rfl) e0 (Ins.self E_2) (g := (mkF m 8 #[vr s1, vr s2, .unset] [(.ref s2)])) rfl rfl (hb hby d13_8)
  refine own_st st1 ?_
  show gs T1 m 11 #[vr s1, vr s2, .unset] [(.int 1)]
  refine own_st (fun _ kS => XS.ifNo X1.here hx rfl (hb hby d13_11) rfl ((if0 _ _).trans (feq (by decide : ¬ ((1 : Int32) = (0 : Int32)))).1) kS) ?_
  show gs T1 m 14 #[vr s1, vr s2, .unset] []
  refine oaloadN X1 hx hby d13_14 rfl rfl ?_
  obtain ⟨T2, X2, e2, st2⟩ := castY X1 hx hZ hown (own_w hw 120 rfl) e1 (Ins.self E_2) (g := (mkF m 15 #[vr s1, vr s2, .unset] [(.ref s2)])) rfl rfl (hb hby d13_15)
  refine own_st st2 ?_
  show gs T2 m 18 #[vr s1, vr s2, .unset] [(.ref s2)]
  refine own_st (fun _ kS => XS.astoreN X2.here hx rfl (hb hby d13_18) rfl rfl (l' := #[vr s1, vr s2, vr s2]) rfl kS) ?_
  show gs T2 m 19 #[vr s1, vr s2, vr s2] []
  obtain ⟨T3, X3, e3, st3⟩ := getS2 X2 hx hZ hown (host := "") (Or.inl (own_w hw 63 rfl)) Via.refl e2 (Sta.ext O0.2 S_CS) (g := (mkF m 19 #[vr s1, vr s2, vr s2] [])) rfl (hb hby d13_19)
  refine own_st st3 ?_
  show gs T3 m 22 #[vr s1, vr s2, vr s2] [(.int zCS)]
  refine own_st (fun _ kS => XS.ifNo X3.here hx rfl (hb hby d13_22) rfl ((if0 _ _).trans (feq (P_CS : ¬ (zCS = (0 : Int32)))).1) kS) ?_
  show gs T3 m 25 #[vr s1, vr s2, vr s2] []
  refine oaloadN X3 hx hby d13_25 rfl rfl ?_
  obtain ⟨T4, X4, e4, st4⟩ := getF X3 hx hZ hown (host := "") (Or.inl (own_w hw 75 rfl)) Via.refl e3 F1c (g := (mkF m 26 #[vr s1, vr s2, vr s2] [(.ref s1)])) rfl rfl (hb hby d13_26)
  refine own_st st4 ?_
  show gs T4 m 29 #[vr s1, vr s2, vr s2] [(.int 0)]
  refine oaloadN X4 hx hby d13_29 rfl rfl ?_
  obtain ⟨T5, X5, e5, st5⟩ := getF X4 hx hZ hown (host := "") (Or.inl (own_w hw 75 rfl)) Via.refl e4 F2c (g := (mkF m 30 #[vr s1, vr s2, vr s2] [(.ref s2), (.int 0)])) rfl rfl (hb hby d13_30)
  refine own_st st5 ?_
  show gs T5 m 33 #[vr s1, vr s2, vr s2] [(.int 0), (.int 0)]
  refine own_st (fun _ kS => XS.icmpNo X5.here hx rfl (hb hby d13_33) rfl (teq (by decide : (0 : Int32) = (0 : Int32))).2 kS) ?_
  show gs T5 m 36 #[vr s1, vr s2, vr s2] []
  refine oaloadN X5 hx hby d13_36 rfl rfl ?_
  obtain ⟨T6, X6, e6, st6⟩ := getF X5 hx hZ hown (host := "") (Or.inl (own_w hw 77 rfl)) Via.refl e5 F1v (g := (mkF m 37 #[vr s1, vr s2, vr s2] [(.ref s1)])) rfl rfl (hb hby d13_37)
  refine own_st st6 ?_
  show gs T6 m 40 #[vr s1, vr s2, vr s2] [(.ref t1)]
  refine oaloadN X6 hx hby d13_40 rfl rfl ?_
  obtain ⟨T7, X7, e7, st7⟩ := getF X6 hx hZ hown (host := "") (Or.inl (own_w hw 77 rfl)) Via.refl e6 F2v (g := (mkF m 41 #[vr s1, vr s2, vr s2] [(.ref s2), (.ref t1)])) rfl rfl (hb hby d13_41)
  refine own_st st7 ?_
  show gs T7 m 44 #[vr s1, vr s2, vr s2] [(.ref t2), (.ref t1)]
  refine oS 0 X7 hx hZ hby hml hown (own_w hw 121 rfl) (own_w hw 122 rfl) (own_w hw 123 rfl) (own_w hw 124 rfl) (rm_latE_2_T l Z a0 hw [] t1 t2 k1a k2a y0 y1 z0 z1 h0 n0 Z0  R_1 R_2 hq0 hq1) e7 (by decide) own_pd7 d13_44 rfl rfl rfl (fun T8 L8 v8 X8 hQ8 => ?_)
  obtain ⟨rfl, Nq8, eq8⟩ := hQ8
  have N8 := Fr.app N0 Nq8
  show gs T8 m 47 #[vr s1, vr s2, vr s2] [(.int 1)]
  refine own_st (fun _ kS => XS.ifNo X8.here hx rfl (hb hby d13_47) rfl ((if0 _ _).trans (feq (by decide : ¬ ((1 : Int32) = (0 : Int32)))).1) kS) ?_
  show gs T8 m 50 #[vr s1, vr s2, vr s2] []
  refine oiconst X8 hx hby d13_50 ?_
  refine own_st (fun _ kS => XS.goto X8.here hx rfl (pc0 := 51) (pc' := 55) rfl (hb hby d13_51) (by decide) (by decide) kS) ?_
  show gs T8 m 55 #[vr s1, vr s2, vr s2] [(.int 1)]
  exact own_retN X8 hx hlk (t := .boolean) hret (by simp) (hb hby d13_55) (by decide) (by decide) (v' := (1 : Int32)) rfl (by rw [eq8]; exact ⟨rfl, N8, rfl⟩)
theorem ef_dcE_2_T (m : MethodId) (x0 : Addr) (x1 : Addr) : entryFrame m #[(.ref x0), (.ref x1)] 3 = mkF m 0 #[.val (.ref x0), .val (.ref x1), .unset] [] := by first | (simp [entryFrame, mkF, argsToLocals, Value.category]; done) | rfl
def Q_dcE_2_T (Z : State) (a1 : Addr) (a2 : Addr) (v1 : Addr) (s1 : Addr) (s2 : Addr) (t1 : Addr) (t2 : Addr) (k1a : ClassId) (k2a : ClassId) (y0 : Int32) (y1 : Int32) (z0 : Int32) (z1 : Int32) (zCS : Int32) (h0 : Heap) (n0 : Nat) (v : Option Value) (h : Heap) (L : List Loc) : Prop := v = some (.int 1) ∧ Fr n0 L ∧ h = h0
theorem rm_dcE_2_T (l : Launch) (Z : State) (a0 : Array Value) (hw : HW a0 Z) (ws : List Jvm.Cond) (a1 : Addr) (a2 : Addr) (v1 : Addr) (s1 : Addr) (s2 : Addr) (t1 : Addr) (t2 : Addr) (k1a : ClassId) (k2a : ClassId) (y0 : Int32) (y1 : Int32) (z0 : Int32) (z1 : Int32) (zCS : Int32) (h0 : Heap) (n0 : Nat) (Z0 : n0 ≤ h0.size) (O0 : Old Z n0 h0) (E_a : ek22 Z h0 a1) (E_b : ek22 Z h0 a2) (Fe1 : fk18 Z h0 a1 (.ref v1)) (Ft1 : fk19 Z h0 a1 (.ref s1)) (Fe2 : fk18 Z h0 a2 (.ref v1)) (Ft2 : fk19 Z h0 a2 (.ref s2)) (ne12 : s1 ≠ s2) (E_1 : ek21 Z h0 s1) (E_2 : ek21 Z h0 s2) (F1v : fk17 Z h0 s1 (.ref t1)) (F2v : fk17 Z h0 s2 (.ref t2)) (F1c : fk16 Z h0 s1 (.int 0)) (F2c : fk16 Z h0 s2 (.int 0)) (R_1 : Arv Z h0 t1 k1a .byte (2 : Int32) [(.int y0), (.int y1)] (.int 0)) (R_2 : Arv Z h0 t2 k2a .byte (2 : Int32) [(.int z0), (.int z1)] (.int 0)) (hq0 : y0 = z0) (hq1 : y1 = z1) (S_CS : sk0 Z Z.heap (.int zCS)) (P_CS : ¬ zCS = 0) :
    M11 l ws (rmk 2 0 0 28) Z #[(.ref a1), (.ref a2)] h0 (Q_dcE_2_T Z a1 a2 v1 s1 s2 t1 t2 k1a k2a y0 y1 z0 z1 zCS h0 n0) := by
  refine own_go "com/example/cartouche/cartouche/crosswalks/DcValue" rfl (plainFor_of_name pn_12) (fun m => ef_dcE_2_T m a1 a2) (fun p e s m below meth c s₁ hx hby hml hown hnm hlk hret hZ X0 e0 => ?_)
  have N0 := Fr.nil n0
  show gs s₁ m 0 #[vr a1, vr a2, .unset] []
  refine oaloadN X0 hx hby d12_0 rfl rfl ?_
  obtain ⟨T1, X1, e1, st1⟩ := instY X0 hx hZ hown (own_w hw 103 rfl) e0 (Ins.self E_b) (g := (mkF m 1 #[vr a1, vr a2, .unset] [(.ref a2)])) rfl rfl (hb hby d12_1)
  refine own_st st1 ?_
  show gs T1 m 4 #[vr a1, vr a2, .unset] [(.int 1)]
  refine own_st (fun _ kS => XS.ifNo X1.here hx rfl (hb hby d12_4) rfl ((if0 _ _).trans (feq (by decide : ¬ ((1 : Int32) = (0 : Int32)))).1) kS) ?_
  show gs T1 m 7 #[vr a1, vr a2, .unset] []
  refine oaloadN X1 hx hby d12_7 rfl rfl ?_
  obtain ⟨T2, X2, e2, st2⟩ := castY X1 hx hZ hown (own_w hw 103 rfl) e1 (Ins.self E_b) (g := (mkF m 8 #[vr a1, vr a2, .unset] [(.ref a2)])) rfl rfl (hb hby d12_8)
  refine own_st st2 ?_
  show gs T2 m 11 #[vr a1, vr a2, .unset] [(.ref a2)]
  refine own_st (fun _ kS => XS.astoreN X2.here hx rfl (hb hby d12_11) rfl rfl (l' := #[vr a1, vr a2, vr a2]) rfl kS) ?_
  refine oaloadN X2 hx hby d12_12 rfl rfl ?_
  obtain ⟨T3, X3, e3, st3⟩ := getF X2 hx hZ hown (host := "") (Or.inl (own_w hw 91 rfl)) Via.refl e2 Fe1 (g := (mkF m 13 #[vr a1, vr a2, vr a2] [(.ref a1)])) rfl rfl (hb hby d12_13)
  refine own_st st3 ?_
  show gs T3 m 16 #[vr a1, vr a2, vr a2] [(.ref v1)]
  refine oaloadN X3 hx hby d12_16 rfl rfl ?_
  obtain ⟨T4, X4, e4, st4⟩ := getF X3 hx hZ hown (host := "") (Or.inl (own_w hw 91 rfl)) Via.refl e3 Fe2 (g := (mkF m 17 #[vr a1, vr a2, vr a2] [(.ref a2), (.ref v1)])) rfl rfl (hb hby d12_17)
  refine own_st st4 ?_
  show gs T4 m 20 #[vr a1, vr a2, vr a2] [(.ref v1), (.ref v1)]
  refine own_st (fun _ kS => Jvm.RoadKit.acmp (g := (mkF m 20 #[vr a1, vr a2, vr a2] [(.ref v1), (.ref v1)])) X4 hx rfl rfl rfl (pc0 := 20) (pc' := 23) (same := true) rfl (hb hby d12_20) rfl (decide_eq_true rfl) (by decide) (by decide) kS) ?_
  show gs T4 m 23 #[vr a1, vr a2, vr a2] []
  refine oaloadN X4 hx hby d12_23 rfl rfl ?_
  obtain ⟨T5, X5, e5, st5⟩ := getF X4 hx hZ hown (host := "") (Or.inl (own_w hw 95 rfl)) Via.refl e4 Ft1 (g := (mkF m 24 #[vr a1, vr a2, vr a2] [(.ref a1)])) rfl rfl (hb hby d12_24)
  refine own_st st5 ?_
  show gs T5 m 27 #[vr a1, vr a2, vr a2] [(.ref s1)]
  refine oaloadN X5 hx hby d12_27 rfl rfl ?_
  obtain ⟨T6, X6, e6, st6⟩ := getF X5 hx hZ hown (host := "") (Or.inl (own_w hw 95 rfl)) Via.refl e5 Ft2 (g := (mkF m 28 #[vr a1, vr a2, vr a2] [(.ref a2), (.ref s1)])) rfl rfl (hb hby d12_28)
  refine own_st st6 ?_
  show gs T6 m 31 #[vr a1, vr a2, vr a2] [(.ref s2), (.ref s1)]
  refine oV 0 X6 hx hZ hby hml hown (own_w hw 105 rfl) (own_w hw 106 rfl) (own_w hw 108 rfl) (own_w hw 107 rfl) (rm_strE_2_T l Z a0 hw [] s1 s2 t1 t2 k1a k2a y0 y1 z0 z1 zCS h0 n0 Z0 O0 ne12 E_1 E_2 F1v F2v F1c F2c R_1 R_2 hq0 hq1 S_CS P_CS) (own_w hw 109 rfl) (own_w hw 47 rfl) e6 E_1 (by decide) own_pd8 d12_31 rfl rfl rfl (fun T7 L7 v7 X7 hQ7 => ?_)
  obtain ⟨rfl, Nq7, eq7⟩ := hQ7
  have N7 := Fr.app N0 Nq7
  show gs T7 m 34 #[vr a1, vr a2, vr a2] [(.int 1)]
  refine own_st (fun _ kS => XS.ifNo X7.here hx rfl (hb hby d12_34) rfl ((if0 _ _).trans (feq (by decide : ¬ ((1 : Int32) = (0 : Int32)))).1) kS) ?_
  show gs T7 m 37 #[vr a1, vr a2, vr a2] []
  refine oiconst X7 hx hby d12_37 ?_
  refine own_st (fun _ kS => XS.goto X7.here hx rfl (pc0 := 38) (pc' := 42) rfl (hb hby d12_38) (by decide) (by decide) kS) ?_
  show gs T7 m 42 #[vr a1, vr a2, vr a2] [(.int 1)]
  exact own_retN X7 hx hlk (t := .boolean) hret (by simp) (hb hby d12_42) (by decide) (by decide) (v' := (1 : Int32)) rfl (by rw [eq7]; exact ⟨rfl, N7, rfl⟩)
theorem ef_samT_2_T (m : MethodId) (x0 : Int64) (x1 : Int64) : entryFrame m #[(.int 2), (.long x0), (.int 2), (.long x1)] 9 = mkF m 0 #[.val (.int 2), .val (.long x0), .second, .val (.int 2), .val (.long x1), .second, .unset, .unset, .unset] [] := by first | (simp [entryFrame, mkF, argsToLocals, Value.category]; done) | rfl
def Q_samT_2_T (Z : State) (q1 : Int64) (q2 : Int64) (h0 : Heap) (n0 : Nat) (v : Option Value) (h : Heap) (L : List Loc) : Prop := v = some (.int 1) ∧ Fr n0 L ∧ h = h0
theorem rm_samT_2_T (l : Launch) (Z : State) (a0 : Array Value) (hw : HW a0 Z) (ws : List Jvm.Cond) (q1 : Int64) (q2 : Int64) (h0 : Heap) (n0 : Nat) (Z0 : n0 ≤ h0.size) (hq0 : (own_ch q1 (0 : Int32)) = (own_ch q2 (0 : Int32))) (hq1 : (own_ch q1 (1 : Int32)) = (own_ch q2 (1 : Int32))) :
    M12 l ws (rmk 1 0 0 15) Z #[(.int 2), (.long q1), (.int 2), (.long q2)] h0 (Q_samT_2_T Z q1 q2 h0 n0) := by
  refine own_go "com/example/cartouche/cartouche/crosswalks/DcValueEqualsPinLaw" rfl (plainFor_of_name pn_15) (fun m => ef_samT_2_T m q1 q2) (fun p e s m below meth c s₁ hx hby hml hown hnm hlk hret hZ X0 e0 => ?_)
  have N0 := Fr.nil n0
  show gs s₁ m 0 #[vi 2, .val (.long q1), .second, vi 2, .val (.long q2), .second, .unset, .unset, .unset] []
  refine oiloadN X0 hx hby d15_0 rfl ?_
  refine oiloadN X0 hx hby d15_1 rfl ?_
  refine own_st (fun _ kS => XS.icmpYes X0.here hx rfl (pc0 := 2) (pc' := 7) rfl (hb hby d15_2) rfl (teq (by decide : (2 : Int32) = (2 : Int32))).1 (by decide) (by decide) kS) ?_
  show gs s₁ m 7 #[vi 2, .val (.long q1), .second, vi 2, .val (.long q2), .second, .unset, .unset, .unset] []
  refine oiloadN X0 hx hby d15_7 rfl ?_
  refine oiconst X0 hx hby d15_8 ?_
  refine own_st (fun _ kS => XS.icmpNo X0.here hx rfl (hb hby d15_9) rfl (flt (by decide : ¬ ((2 : Int32) < (1 : Int32)))).1 kS) ?_
  show gs s₁ m 12 #[vi 2, .val (.long q1), .second, vi 2, .val (.long q2), .second, .unset, .unset, .unset] []
  refine own_st (fun _ kS => XT.lloadN X0.here hx rfl (hb hby d15_12) rfl kS) ?_
  refine oiconst X0 hx hby d15_13 ?_
  refine oS 0 X0 hx hZ hby hml hown (own_w hw 49 rfl) (own_w hw 50 rfl) (own_w hw 6 rfl) (own_w hw 51 rfl) (rm_ch l Z a0 hw [] q1 (0 : Int32) h0 n0 Z0  ) e0 (by decide) own_pd5 d15_14 rfl rfl rfl (fun T1 L1 v1 X1 hQ1 => ?_)
  obtain ⟨rfl, Nq1, eq1⟩ := hQ1
  have N1 := Fr.app N0 Nq1
  show gs T1 m 17 #[vi 2, .val (.long q1), .second, vi 2, .val (.long q2), .second, .unset, .unset, .unset] [(.int (own_ch q1 (0 : Int32)))]
  refine own_st (fun _ kS => XT.lload X1.here hx rfl (hb hby d15_17) rfl kS) ?_
  refine oiconst X1 hx hby d15_19 ?_
  refine oS 1 X1 hx hZ hby hml hown (own_w hw 49 rfl) (own_w hw 50 rfl) (own_w hw 6 rfl) (own_w hw 51 rfl) (rm_ch l Z a0 hw [] q2 (0 : Int32) h0 n0 Z0  ) eq1 (by decide) own_pd5 d15_20 rfl rfl rfl (fun T2 L2 v2 X2 hQ2 => ?_)
  obtain ⟨rfl, Nq2, eq2⟩ := hQ2
  have N2 := Fr.app N1 Nq2
  show gs T2 m 23 #[vi 2, .val (.long q1), .second, vi 2, .val (.long q2), .second, .unset, .unset, .unset] [(.int (own_ch q2 (0 : Int32))), (.int (own_ch q1 (0 : Int32)))]
  refine own_st (fun _ kS => XS.icmpNo X2.here hx rfl (hb hby d15_23) rfl (teq (hq0 : (own_ch q1 (0 : Int32)) = (own_ch q2 (0 : Int32)))).2 kS) ?_
  show gs T2 m 26 #[vi 2, .val (.long q1), .second, vi 2, .val (.long q2), .second, .unset, .unset, .unset] []
  refine oiconst X2 hx hby d15_26 ?_
  refine own_st (fun _ kS => XS.goto X2.here hx rfl (pc0 := 27) (pc' := 31) rfl (hb hby d15_27) (by decide) (by decide) kS) ?_
  refine own_st (fun _ kS => XS.istore X2.here hx rfl (hb hby d15_31) rfl (l' := #[vi 2, .val (.long q1), .second, vi 2, .val (.long q2), .second, vi 1, .unset, .unset]) rfl kS) ?_
  refine oiloadN X2 hx hby d15_33 rfl ?_
  refine oiconst X2 hx hby d15_34 ?_
  refine own_st (fun _ kS => XS.icmpNo X2.here hx rfl (hb hby d15_35) rfl (flt (by decide : ¬ ((2 : Int32) < (2 : Int32)))).1 kS) ?_
  show gs T2 m 38 #[vi 2, .val (.long q1), .second, vi 2, .val (.long q2), .second, vi 1, .unset, .unset] []
  refine own_st (fun _ kS => XT.lloadN X2.here hx rfl (hb hby d15_38) rfl kS) ?_
  refine oiconst X2 hx hby d15_39 ?_
  refine oS 0 X2 hx hZ hby hml hown (own_w hw 49 rfl) (own_w hw 50 rfl) (own_w hw 6 rfl) (own_w hw 51 rfl) (rm_ch l Z a0 hw [] q1 (1 : Int32) h0 n0 Z0  ) eq2 (by decide) own_pd5 d15_40 rfl rfl rfl (fun T3 L3 v3 X3 hQ3 => ?_)
  obtain ⟨rfl, Nq3, eq3⟩ := hQ3
  have N3 := Fr.app N2 Nq3
  show gs T3 m 43 #[vi 2, .val (.long q1), .second, vi 2, .val (.long q2), .second, vi 1, .unset, .unset] [(.int (own_ch q1 (1 : Int32)))]
  refine own_st (fun _ kS => XT.lload X3.here hx rfl (hb hby d15_43) rfl kS) ?_
  refine oiconst X3 hx hby d15_45 ?_
  refine oS 1 X3 hx hZ hby hml hown (own_w hw 49 rfl) (own_w hw 50 rfl) (own_w hw 6 rfl) (own_w hw 51 rfl) (rm_ch l Z a0 hw [] q2 (1 : Int32) h0 n0 Z0  ) eq3 (by decide) own_pd5 d15_46 rfl rfl rfl (fun T4 L4 v4 X4 hQ4 => ?_)
  obtain ⟨rfl, Nq4, eq4⟩ := hQ4
  have N4 := Fr.app N3 Nq4
  show gs T4 m 49 #[vi 2, .val (.long q1), .second, vi 2, .val (.long q2), .second, vi 1, .unset, .unset] [(.int (own_ch q2 (1 : Int32))), (.int (own_ch q1 (1 : Int32)))]
  refine own_st (fun _ kS => XS.icmpNo X4.here hx rfl (hb hby d15_49) rfl (teq (hq1 : (own_ch q1 (1 : Int32)) = (own_ch q2 (1 : Int32)))).2 kS) ?_
  show gs T4 m 52 #[vi 2, .val (.long q1), .second, vi 2, .val (.long q2), .second, vi 1, .unset, .unset] []
  refine oiconst X4 hx hby d15_52 ?_
  refine own_st (fun _ kS => XS.goto X4.here hx rfl (pc0 := 53) (pc' := 57) rfl (hb hby d15_53) (by decide) (by decide) kS) ?_
  refine own_st (fun _ kS => XS.istore X4.here hx rfl (hb hby d15_57) rfl (l' := #[vi 2, .val (.long q1), .second, vi 2, .val (.long q2), .second, vi 1, vi 1, .unset]) rfl kS) ?_
  refine oiloadN X4 hx hby d15_59 rfl ?_
  refine oiconst X4 hx hby d15_60 ?_
  refine own_st (fun _ kS => XS.icmpYes X4.here hx rfl (pc0 := 61) (pc' := 78) rfl (hb hby d15_61) rfl (tlt (by decide : (2 : Int32) < (3 : Int32))).1 (by decide) (by decide) kS) ?_
  show gs T4 m 78 #[vi 2, .val (.long q1), .second, vi 2, .val (.long q2), .second, vi 1, vi 1, .unset] []
  refine oiconst X4 hx hby d15_78 ?_
  refine own_st (fun _ kS => XS.goto X4.here hx rfl (pc0 := 79) (pc' := 83) rfl (hb hby d15_79) (by decide) (by decide) kS) ?_
  refine own_st (fun _ kS => XS.istore X4.here hx rfl (hb hby d15_83) rfl (l' := #[vi 2, .val (.long q1), .second, vi 2, .val (.long q2), .second, vi 1, vi 1, vi 1]) rfl kS) ?_
  refine oiload X4 hx hby d15_85 rfl ?_
  refine own_st (fun _ kS => XS.ifNo X4.here hx rfl (hb hby d15_87) rfl ((if0 _ _).trans (feq (by decide : ¬ ((1 : Int32) = (0 : Int32)))).1) kS) ?_
  show gs T4 m 90 #[vi 2, .val (.long q1), .second, vi 2, .val (.long q2), .second, vi 1, vi 1, vi 1] []
  refine oiload X4 hx hby d15_90 rfl ?_
  refine own_st (fun _ kS => XS.ifNo X4.here hx rfl (hb hby d15_92) rfl ((if0 _ _).trans (feq (by decide : ¬ ((1 : Int32) = (0 : Int32)))).1) kS) ?_
  show gs T4 m 95 #[vi 2, .val (.long q1), .second, vi 2, .val (.long q2), .second, vi 1, vi 1, vi 1] []
  refine oiload X4 hx hby d15_95 rfl ?_
  refine own_st (fun _ kS => XS.ifNo X4.here hx rfl (hb hby d15_97) rfl ((if0 _ _).trans (feq (by decide : ¬ ((1 : Int32) = (0 : Int32)))).1) kS) ?_
  show gs T4 m 100 #[vi 2, .val (.long q1), .second, vi 2, .val (.long q2), .second, vi 1, vi 1, vi 1] []
  refine oiconst X4 hx hby d15_100 ?_
  refine own_st (fun _ kS => XS.goto X4.here hx rfl (pc0 := 101) (pc' := 105) rfl (hb hby d15_101) (by decide) (by decide) kS) ?_
  show gs T4 m 105 #[vi 2, .val (.long q1), .second, vi 2, .val (.long q2), .second, vi 1, vi 1, vi 1] [(.int 1)]
  exact own_retN X4 hx hlk (t := .boolean) hret (by simp) (hb hby d15_105) (by decide) (by decide) (v' := (1 : Int32)) rfl (by rw [eq4]; exact ⟨rfl, N4, rfl⟩)
theorem ef_latE_2_0 (m : MethodId) (x0 : Addr) (x1 : Addr) : entryFrame m #[(.ref x0), (.ref x1)] 3 = mkF m 0 #[.val (.ref x0), .val (.ref x1), .unset] [] := by first | (simp [entryFrame, mkF, argsToLocals, Value.category]; done) | rfl
def Q_latE_2_0 (Z : State) (t1 : Addr) (t2 : Addr) (k1a : ClassId) (k2a : ClassId) (y0 : Int32) (y1 : Int32) (z0 : Int32) (z1 : Int32) (h0 : Heap) (n0 : Nat) (v : Option Value) (h : Heap) (L : List Loc) : Prop := v = some (.int 0) ∧ Fr n0 L ∧ h = h0
theorem rm_latE_2_0 (l : Launch) (Z : State) (a0 : Array Value) (hw : HW a0 Z) (ws : List Jvm.Cond) (t1 : Addr) (t2 : Addr) (k1a : ClassId) (k2a : ClassId) (y0 : Int32) (y1 : Int32) (z0 : Int32) (z1 : Int32) (h0 : Heap) (n0 : Nat) (Z0 : n0 ≤ h0.size) (R_1 : Arv Z h0 t1 k1a .byte (2 : Int32) [(.int y0), (.int y1)] (.int 0)) (R_2 : Arv Z h0 t2 k2a .byte (2 : Int32) [(.int z0), (.int z1)] (.int 0)) (hq0 : ¬ (y0 = z0)) :
    M9 l ws (rmk 0 0 0 0) Z #[(.ref t1), (.ref t2)] h0 (Q_latE_2_0 Z t1 t2 k1a k2a y0 y1 z0 z1 h0 n0) := by
  refine own_go "java/lang/StringLatin1" rfl (plainFor_of_name pn_16) (fun m => ef_latE_2_0 m t1 t2) (fun p e s m below meth c s₁ hx hby hml hown hnm hlk hret hZ X0 e0 => ?_)
  have N0 := Fr.nil n0
  show gs s₁ m 0 #[vr t1, vr t2, .unset] []
  refine oaloadN X0 hx hby d16_0 rfl rfl ?_
  show gs s₁ m 1 #[vr t1, vr t2, .unset] [(.ref t1)]
  obtain ⟨cl1, Ar1, qa1, qs1, qn1, qh1, qg1⟩ := id R_1
  refine own_st (fun _ kS => X0.arraylength hx (by rw [e0]; exact Ar1.1) (State.isArrayOf_alike hZ.alike Ar1.2.1) (g := (mkF m 1 #[vr t1, vr t2, .unset] [(.ref t1)])) rfl rfl (hb hby d16_1) _ kS) ?_
  rw [len_of qs1 qn1]
  show gs s₁ m 2 #[vr t1, vr t2, .unset] [(.int 2)]
  refine oaloadN X0 hx hby d16_2 rfl rfl ?_
  show gs s₁ m 3 #[vr t1, vr t2, .unset] [(.ref t2), (.int 2)]
  obtain ⟨cl2, Ar2, qa2, qs2, qn2, qh2, qg2⟩ := id R_2
  refine own_st (fun _ kS => X0.arraylength hx (by rw [e0]; exact Ar2.1) (State.isArrayOf_alike hZ.alike Ar2.2.1) (g := (mkF m 3 #[vr t1, vr t2, .unset] [(.ref t2), (.int 2)])) rfl rfl (hb hby d16_3) _ kS) ?_
  rw [len_of qs2 qn2]
  show gs s₁ m 4 #[vr t1, vr t2, .unset] [(.int 2), (.int 2)]
  refine own_st (fun _ kS => XS.icmpNo X0.here hx rfl (hb hby d16_4) rfl (teq (by decide : (2 : Int32) = (2 : Int32))).2 kS) ?_
  show gs s₁ m 7 #[vr t1, vr t2, .unset] []
  refine oiconst X0 hx hby d16_7 ?_
  refine own_st (fun _ kS => XS.istoreN X0.here hx rfl (hb hby d16_8) rfl (l' := #[vr t1, vr t2, vi 0]) rfl kS) ?_
  refine oiloadN X0 hx hby d16_9 rfl ?_
  refine oaloadN X0 hx hby d16_10 rfl rfl ?_
  show gs s₁ m 11 #[vr t1, vr t2, vi 0] [(.ref t1), (.int 0)]
  obtain ⟨cl3, Ar3, qa3, qs3, qn3, qh3, qg3⟩ := id R_1
  refine own_st (fun _ kS => X0.arraylength hx (by rw [e0]; exact Ar3.1) (State.isArrayOf_alike hZ.alike Ar3.2.1) (g := (mkF m 11 #[vr t1, vr t2, vi 0] [(.ref t1), (.int 0)])) rfl rfl (hb hby d16_11) _ kS) ?_
  rw [len_of qs3 qn3]
  show gs s₁ m 12 #[vr t1, vr t2, vi 0] [(.int 2), (.int 0)]
  refine own_st (fun _ kS => XS.icmpNo X0.here hx rfl (hb hby d16_12) rfl (tlt (by decide : (0 : Int32) < (2 : Int32))).2.1 kS) ?_
  show gs s₁ m 15 #[vr t1, vr t2, vi 0] []
  refine oaloadN X0 hx hby d16_15 rfl rfl ?_
  refine oiloadN X0 hx hby d16_16 rfl ?_
  show gs s₁ m 17 #[vr t1, vr t2, vi 0] [(.int 0), (.ref t1)]
  obtain ⟨cl4, Ar4, qa4, qs4, qn4, qh4, qg4⟩ := id R_1
  refine own_st (fun _ kS => X0.baloadBytes hx (j := (0 : Int32)) (v := (.int y0)) (by rw [e0]; exact Ar4.1) (State.isArrayOf_alike hZ.alike Ar4.2.1) Ar4.2.2 (inb_of qs4 ⟨by decide, by decide⟩) (qh4.at (inb_of qs4 ⟨by decide, by decide⟩) rfl) (g := (mkF m 17 #[vr t1, vr t2, vi 0] [(.int 0), (.ref t1)])) rfl rfl (hb hby d16_17) _ kS) ?_
  show gs s₁ m 18 #[vr t1, vr t2, vi 0] [(.int y0)]
  refine oaloadN X0 hx hby d16_18 rfl rfl ?_
  refine oiloadN X0 hx hby d16_19 rfl ?_
  show gs s₁ m 20 #[vr t1, vr t2, vi 0] [(.int 0), (.ref t2), (.int y0)]
  obtain ⟨cl5, Ar5, qa5, qs5, qn5, qh5, qg5⟩ := id R_2
  refine own_st (fun _ kS => X0.baloadBytes hx (j := (0 : Int32)) (v := (.int z0)) (by rw [e0]; exact Ar5.1) (State.isArrayOf_alike hZ.alike Ar5.2.1) Ar5.2.2 (inb_of qs5 ⟨by decide, by decide⟩) (qh5.at (inb_of qs5 ⟨by decide, by decide⟩) rfl) (g := (mkF m 20 #[vr t1, vr t2, vi 0] [(.int 0), (.ref t2), (.int y0)])) rfl rfl (hb hby d16_20) _ kS) ?_
  show gs s₁ m 21 #[vr t1, vr t2, vi 0] [(.int z0), (.int y0)]
  refine own_st (fun _ kS => XS.icmpNo X0.here hx rfl (hb hby d16_21) rfl (feq (hq0 : ¬ (y0 = z0))).1 kS) ?_
  show gs s₁ m 24 #[vr t1, vr t2, vi 0] []
  refine oiconst X0 hx hby d16_24 ?_
  exact own_retN X0 hx hlk (t := .boolean) hret (by simp) (hb hby d16_25) (by decide) (by decide) (v' := (0 : Int32)) rfl (by rw [e0]; exact ⟨rfl, N0, rfl⟩)
theorem ef_strE_2_0 (m : MethodId) (x0 : Addr) (x1 : Addr) : entryFrame m #[(.ref x0), (.ref x1)] 3 = mkF m 0 #[.val (.ref x0), .val (.ref x1), .unset] [] := by first | (simp [entryFrame, mkF, argsToLocals, Value.category]; done) | rfl
def Q_strE_2_0 (Z : State) (s1 : Addr) (s2 : Addr) (t1 : Addr) (t2 : Addr) (k1a : ClassId) (k2a : ClassId) (y0 : Int32) (y1 : Int32) (z0 : Int32) (z1 : Int32) (zCS : Int32) (h0 : Heap) (n0 : Nat) (v : Option Value) (h : Heap) (L : List Loc) : Prop := v = some (.int 0) ∧ Fr n0 L ∧ h = h0
theorem rm_strE_2_0 (l : Launch) (Z : State) (a0 : Array Value) (hw : HW a0 Z) (ws : List Jvm.Cond) (s1 : Addr) (s2 : Addr) (t1 : Addr) (t2 : Addr) (k1a : ClassId) (k2a : ClassId) (y0 : Int32) (y1 : Int32) (z0 : Int32) (z1 : Int32) (zCS : Int32) (h0 : Heap) (n0 : Nat) (Z0 : n0 ≤ h0.size) (O0 : Old Z n0 h0) (ne12 : s1 ≠ s2) (E_1 : ek21 Z h0 s1) (E_2 : ek21 Z h0 s2) (F1v : fk17 Z h0 s1 (.ref t1)) (F2v : fk17 Z h0 s2 (.ref t2)) (F1c : fk16 Z h0 s1 (.int 0)) (F2c : fk16 Z h0 s2 (.int 0)) (R_1 : Arv Z h0 t1 k1a .byte (2 : Int32) [(.int y0), (.int y1)] (.int 0)) (R_2 : Arv Z h0 t2 k2a .byte (2 : Int32) [(.int z0), (.int z1)] (.int 0)) (hq0 : ¬ (y0 = z0)) (S_CS : sk0 Z Z.heap (.int zCS)) (P_CS : ¬ zCS = 0) :
    M10 l ws (rmk 1 0 0 14) Z #[(.ref s1), (.ref s2)] h0 (Q_strE_2_0 Z s1 s2 t1 t2 k1a k2a y0 y1 z0 z1 zCS h0 n0) := by
  refine own_go "java/lang/String" rfl (plainFor_of_name pn_13) (fun m => ef_strE_2_0 m s1 s2) (fun p e s m below meth c s₁ hx hby hml hown hnm hlk hret hZ X0 e0 => ?_)
  have N0 := Fr.nil n0
  show gs s₁ m 0 #[vr s1, vr s2, .unset] []
  refine oaloadN X0 hx hby d13_0 rfl rfl ?_
  refine oaloadN X0 hx hby d13_1 rfl rfl ?_
  show gs s₁ m 2 #[vr s1, vr s2, .unset] [(.ref s2), (.ref s1)]
  refine own_st (fun _ kS => Jvm.RoadKit.acmp (g := (mkF m 2 #[vr s1, vr s2, .unset] [(.ref s2), (.ref s1)])) X0 hx rfl rfl rfl (pc0 := 2) (pc' := 7) (same := false) rfl (hb hby d13_2) rfl (decide_eq_false fun q => ne12 (Value.ref.inj q)) (by decide) (by decide) kS) ?_
  show gs s₁ m 7 #[vr s1, vr s2, .unset] []
  refine oaloadN X0 hx hby d13_7 rfl rfl ?_
  obtain ⟨T1, X1, e1, st1⟩ := instY X0 hx hZ hown (own_w hw 120 rfl) e0 (Ins.self E_2) (g := (mkF m 8 #[vr s1, vr s2, .unset] [(.ref s2)])) rfl rfl (hb hby d13_8)
  refine own_st st1 ?_
  show gs T1 m 11 #[vr s1, vr s2, .unset] [(.int 1)]
  refine own_st (fun _ kS => XS.ifNo X1.here hx rfl (hb hby d13_11) rfl ((if0 _ _).trans (feq (by decide : ¬ ((1 : Int32) = (0 : Int32)))).1) kS) ?_
  show gs T1 m 14 #[vr s1, vr s2, .unset] []
  refine oaloadN X1 hx hby d13_14 rfl rfl ?_
  obtain ⟨T2, X2, e2, st2⟩ := castY X1 hx hZ hown (own_w hw 120 rfl) e1 (Ins.self E_2) (g := (mkF m 15 #[vr s1, vr s2, .unset] [(.ref s2)])) rfl rfl (hb hby d13_15)
  refine own_st st2 ?_
  show gs T2 m 18 #[vr s1, vr s2, .unset] [(.ref s2)]
  refine own_st (fun _ kS => XS.astoreN X2.here hx rfl (hb hby d13_18) rfl rfl (l' := #[vr s1, vr s2, vr s2]) rfl kS) ?_
  show gs T2 m 19 #[vr s1, vr s2, vr s2] []
  obtain ⟨T3, X3, e3, st3⟩ := getS2 X2 hx hZ hown (host := "") (Or.inl (own_w hw 63 rfl)) Via.refl e2 (Sta.ext O0.2 S_CS) (g := (mkF m 19 #[vr s1, vr s2, vr s2] [])) rfl (hb hby d13_19)
  refine own_st st3 ?_
  show gs T3 m 22 #[vr s1, vr s2, vr s2] [(.int zCS)]
  refine own_st (fun _ kS => XS.ifNo X3.here hx rfl (hb hby d13_22) rfl ((if0 _ _).trans (feq (P_CS : ¬ (zCS = (0 : Int32)))).1) kS) ?_
  show gs T3 m 25 #[vr s1, vr s2, vr s2] []
  refine oaloadN X3 hx hby d13_25 rfl rfl ?_
  obtain ⟨T4, X4, e4, st4⟩ := getF X3 hx hZ hown (host := "") (Or.inl (own_w hw 75 rfl)) Via.refl e3 F1c (g := (mkF m 26 #[vr s1, vr s2, vr s2] [(.ref s1)])) rfl rfl (hb hby d13_26)
  refine own_st st4 ?_
  show gs T4 m 29 #[vr s1, vr s2, vr s2] [(.int 0)]
  refine oaloadN X4 hx hby d13_29 rfl rfl ?_
  obtain ⟨T5, X5, e5, st5⟩ := getF X4 hx hZ hown (host := "") (Or.inl (own_w hw 75 rfl)) Via.refl e4 F2c (g := (mkF m 30 #[vr s1, vr s2, vr s2] [(.ref s2), (.int 0)])) rfl rfl (hb hby d13_30)
  refine own_st st5 ?_
  show gs T5 m 33 #[vr s1, vr s2, vr s2] [(.int 0), (.int 0)]
  refine own_st (fun _ kS => XS.icmpNo X5.here hx rfl (hb hby d13_33) rfl (teq (by decide : (0 : Int32) = (0 : Int32))).2 kS) ?_
  show gs T5 m 36 #[vr s1, vr s2, vr s2] []
  refine oaloadN X5 hx hby d13_36 rfl rfl ?_
  obtain ⟨T6, X6, e6, st6⟩ := getF X5 hx hZ hown (host := "") (Or.inl (own_w hw 77 rfl)) Via.refl e5 F1v (g := (mkF m 37 #[vr s1, vr s2, vr s2] [(.ref s1)])) rfl rfl (hb hby d13_37)
  refine own_st st6 ?_
  show gs T6 m 40 #[vr s1, vr s2, vr s2] [(.ref t1)]
  refine oaloadN X6 hx hby d13_40 rfl rfl ?_
  obtain ⟨T7, X7, e7, st7⟩ := getF X6 hx hZ hown (host := "") (Or.inl (own_w hw 77 rfl)) Via.refl e6 F2v (g := (mkF m 41 #[vr s1, vr s2, vr s2] [(.ref s2), (.ref t1)])) rfl rfl (hb hby d13_41)
  refine own_st st7 ?_
  show gs T7 m 44 #[vr s1, vr s2, vr s2] [(.ref t2), (.ref t1)]
  refine oS 0 X7 hx hZ hby hml hown (own_w hw 121 rfl) (own_w hw 122 rfl) (own_w hw 123 rfl) (own_w hw 124 rfl) (rm_latE_2_0 l Z a0 hw [] t1 t2 k1a k2a y0 y1 z0 z1 h0 n0 Z0  R_1 R_2 hq0) e7 (by decide) own_pd7 d13_44 rfl rfl rfl (fun T8 L8 v8 X8 hQ8 => ?_)
  obtain ⟨rfl, Nq8, eq8⟩ := hQ8
  have N8 := Fr.app N0 Nq8
  show gs T8 m 47 #[vr s1, vr s2, vr s2] [(.int 0)]
  refine own_st (fun _ kS => XS.ifYes X8.here hx rfl (pc0 := 47) (pc' := 54) rfl (hb hby d13_47) rfl ((if0 _ _).trans (teq (by decide : (0 : Int32) = (0 : Int32))).1) (by decide) (by decide) kS) ?_
  show gs T8 m 54 #[vr s1, vr s2, vr s2] []
  refine oiconst X8 hx hby d13_54 ?_
  exact own_retN X8 hx hlk (t := .boolean) hret (by simp) (hb hby d13_55) (by decide) (by decide) (v' := (0 : Int32)) rfl (by rw [eq8]; exact ⟨rfl, N8, rfl⟩)
theorem ef_dcE_2_0 (m : MethodId) (x0 : Addr) (x1 : Addr) : entryFrame m #[(.ref x0), (.ref x1)] 3 = mkF m 0 #[.val (.ref x0), .val (.ref x1), .unset] [] := by first | (simp [entryFrame, mkF, argsToLocals, Value.category]; done) | rfl
def Q_dcE_2_0 (Z : State) (a1 : Addr) (a2 : Addr) (v1 : Addr) (s1 : Addr) (s2 : Addr) (t1 : Addr) (t2 : Addr) (k1a : ClassId) (k2a : ClassId) (y0 : Int32) (y1 : Int32) (z0 : Int32) (z1 : Int32) (zCS : Int32) (h0 : Heap) (n0 : Nat) (v : Option Value) (h : Heap) (L : List Loc) : Prop := v = some (.int 0) ∧ Fr n0 L ∧ h = h0
theorem rm_dcE_2_0 (l : Launch) (Z : State) (a0 : Array Value) (hw : HW a0 Z) (ws : List Jvm.Cond) (a1 : Addr) (a2 : Addr) (v1 : Addr) (s1 : Addr) (s2 : Addr) (t1 : Addr) (t2 : Addr) (k1a : ClassId) (k2a : ClassId) (y0 : Int32) (y1 : Int32) (z0 : Int32) (z1 : Int32) (zCS : Int32) (h0 : Heap) (n0 : Nat) (Z0 : n0 ≤ h0.size) (O0 : Old Z n0 h0) (E_a : ek22 Z h0 a1) (E_b : ek22 Z h0 a2) (Fe1 : fk18 Z h0 a1 (.ref v1)) (Ft1 : fk19 Z h0 a1 (.ref s1)) (Fe2 : fk18 Z h0 a2 (.ref v1)) (Ft2 : fk19 Z h0 a2 (.ref s2)) (ne12 : s1 ≠ s2) (E_1 : ek21 Z h0 s1) (E_2 : ek21 Z h0 s2) (F1v : fk17 Z h0 s1 (.ref t1)) (F2v : fk17 Z h0 s2 (.ref t2)) (F1c : fk16 Z h0 s1 (.int 0)) (F2c : fk16 Z h0 s2 (.int 0)) (R_1 : Arv Z h0 t1 k1a .byte (2 : Int32) [(.int y0), (.int y1)] (.int 0)) (R_2 : Arv Z h0 t2 k2a .byte (2 : Int32) [(.int z0), (.int z1)] (.int 0)) (hq0 : ¬ (y0 = z0)) (S_CS : sk0 Z Z.heap (.int zCS)) (P_CS : ¬ zCS = 0) :
    M11 l ws (rmk 2 0 0 28) Z #[(.ref a1), (.ref a2)] h0 (Q_dcE_2_0 Z a1 a2 v1 s1 s2 t1 t2 k1a k2a y0 y1 z0 z1 zCS h0 n0) := by
  refine own_go "com/example/cartouche/cartouche/crosswalks/DcValue" rfl (plainFor_of_name pn_12) (fun m => ef_dcE_2_0 m a1 a2) (fun p e s m below meth c s₁ hx hby hml hown hnm hlk hret hZ X0 e0 => ?_)
  have N0 := Fr.nil n0
  show gs s₁ m 0 #[vr a1, vr a2, .unset] []
  refine oaloadN X0 hx hby d12_0 rfl rfl ?_
  obtain ⟨T1, X1, e1, st1⟩ := instY X0 hx hZ hown (own_w hw 103 rfl) e0 (Ins.self E_b) (g := (mkF m 1 #[vr a1, vr a2, .unset] [(.ref a2)])) rfl rfl (hb hby d12_1)
  refine own_st st1 ?_
  show gs T1 m 4 #[vr a1, vr a2, .unset] [(.int 1)]
  refine own_st (fun _ kS => XS.ifNo X1.here hx rfl (hb hby d12_4) rfl ((if0 _ _).trans (feq (by decide : ¬ ((1 : Int32) = (0 : Int32)))).1) kS) ?_
  show gs T1 m 7 #[vr a1, vr a2, .unset] []
  refine oaloadN X1 hx hby d12_7 rfl rfl ?_
  obtain ⟨T2, X2, e2, st2⟩ := castY X1 hx hZ hown (own_w hw 103 rfl) e1 (Ins.self E_b) (g := (mkF m 8 #[vr a1, vr a2, .unset] [(.ref a2)])) rfl rfl (hb hby d12_8)
  refine own_st st2 ?_
  show gs T2 m 11 #[vr a1, vr a2, .unset] [(.ref a2)]
  refine own_st (fun _ kS => XS.astoreN X2.here hx rfl (hb hby d12_11) rfl rfl (l' := #[vr a1, vr a2, vr a2]) rfl kS) ?_
  refine oaloadN X2 hx hby d12_12 rfl rfl ?_
  obtain ⟨T3, X3, e3, st3⟩ := getF X2 hx hZ hown (host := "") (Or.inl (own_w hw 91 rfl)) Via.refl e2 Fe1 (g := (mkF m 13 #[vr a1, vr a2, vr a2] [(.ref a1)])) rfl rfl (hb hby d12_13)
  refine own_st st3 ?_
  show gs T3 m 16 #[vr a1, vr a2, vr a2] [(.ref v1)]
  refine oaloadN X3 hx hby d12_16 rfl rfl ?_
  obtain ⟨T4, X4, e4, st4⟩ := getF X3 hx hZ hown (host := "") (Or.inl (own_w hw 91 rfl)) Via.refl e3 Fe2 (g := (mkF m 17 #[vr a1, vr a2, vr a2] [(.ref a2), (.ref v1)])) rfl rfl (hb hby d12_17)
  refine own_st st4 ?_
  show gs T4 m 20 #[vr a1, vr a2, vr a2] [(.ref v1), (.ref v1)]
  refine own_st (fun _ kS => Jvm.RoadKit.acmp (g := (mkF m 20 #[vr a1, vr a2, vr a2] [(.ref v1), (.ref v1)])) X4 hx rfl rfl rfl (pc0 := 20) (pc' := 23) (same := true) rfl (hb hby d12_20) rfl (decide_eq_true rfl) (by decide) (by decide) kS) ?_
  show gs T4 m 23 #[vr a1, vr a2, vr a2] []
  refine oaloadN X4 hx hby d12_23 rfl rfl ?_
  obtain ⟨T5, X5, e5, st5⟩ := getF X4 hx hZ hown (host := "") (Or.inl (own_w hw 95 rfl)) Via.refl e4 Ft1 (g := (mkF m 24 #[vr a1, vr a2, vr a2] [(.ref a1)])) rfl rfl (hb hby d12_24)
  refine own_st st5 ?_
  show gs T5 m 27 #[vr a1, vr a2, vr a2] [(.ref s1)]
  refine oaloadN X5 hx hby d12_27 rfl rfl ?_
  obtain ⟨T6, X6, e6, st6⟩ := getF X5 hx hZ hown (host := "") (Or.inl (own_w hw 95 rfl)) Via.refl e5 Ft2 (g := (mkF m 28 #[vr a1, vr a2, vr a2] [(.ref a2), (.ref s1)])) rfl rfl (hb hby d12_28)
  refine own_st st6 ?_
  show gs T6 m 31 #[vr a1, vr a2, vr a2] [(.ref s2), (.ref s1)]
  refine oV 0 X6 hx hZ hby hml hown (own_w hw 105 rfl) (own_w hw 106 rfl) (own_w hw 108 rfl) (own_w hw 107 rfl) (rm_strE_2_0 l Z a0 hw [] s1 s2 t1 t2 k1a k2a y0 y1 z0 z1 zCS h0 n0 Z0 O0 ne12 E_1 E_2 F1v F2v F1c F2c R_1 R_2 hq0 S_CS P_CS) (own_w hw 109 rfl) (own_w hw 47 rfl) e6 E_1 (by decide) own_pd8 d12_31 rfl rfl rfl (fun T7 L7 v7 X7 hQ7 => ?_)
  obtain ⟨rfl, Nq7, eq7⟩ := hQ7
  have N7 := Fr.app N0 Nq7
  show gs T7 m 34 #[vr a1, vr a2, vr a2] [(.int 0)]
  refine own_st (fun _ kS => XS.ifYes X7.here hx rfl (pc0 := 34) (pc' := 41) rfl (hb hby d12_34) rfl ((if0 _ _).trans (teq (by decide : (0 : Int32) = (0 : Int32))).1) (by decide) (by decide) kS) ?_
  show gs T7 m 41 #[vr a1, vr a2, vr a2] []
  refine oiconst X7 hx hby d12_41 ?_
  exact own_retN X7 hx hlk (t := .boolean) hret (by simp) (hb hby d12_42) (by decide) (by decide) (v' := (0 : Int32)) rfl (by rw [eq7]; exact ⟨rfl, N7, rfl⟩)
theorem ef_samT_2_0 (m : MethodId) (x0 : Int64) (x1 : Int64) : entryFrame m #[(.int 2), (.long x0), (.int 2), (.long x1)] 9 = mkF m 0 #[.val (.int 2), .val (.long x0), .second, .val (.int 2), .val (.long x1), .second, .unset, .unset, .unset] [] := by first | (simp [entryFrame, mkF, argsToLocals, Value.category]; done) | rfl
def Q_samT_2_0 (Z : State) (q1 : Int64) (q2 : Int64) (h0 : Heap) (n0 : Nat) (v : Option Value) (h : Heap) (L : List Loc) : Prop := v = some (.int 0) ∧ Fr n0 L ∧ h = h0
theorem rm_samT_2_0 (l : Launch) (Z : State) (a0 : Array Value) (hw : HW a0 Z) (ws : List Jvm.Cond) (q1 : Int64) (q2 : Int64) (h0 : Heap) (n0 : Nat) (Z0 : n0 ≤ h0.size) (hq0 : ¬ ((own_ch q1 (0 : Int32)) = (own_ch q2 (0 : Int32)))) :
    M12 l ws (rmk 1 0 0 15) Z #[(.int 2), (.long q1), (.int 2), (.long q2)] h0 (Q_samT_2_0 Z q1 q2 h0 n0) := by
  refine own_go "com/example/cartouche/cartouche/crosswalks/DcValueEqualsPinLaw" rfl (plainFor_of_name pn_15) (fun m => ef_samT_2_0 m q1 q2) (fun p e s m below meth c s₁ hx hby hml hown hnm hlk hret hZ X0 e0 => ?_)
  have N0 := Fr.nil n0
  show gs s₁ m 0 #[vi 2, .val (.long q1), .second, vi 2, .val (.long q2), .second, .unset, .unset, .unset] []
  refine oiloadN X0 hx hby d15_0 rfl ?_
  refine oiloadN X0 hx hby d15_1 rfl ?_
  refine own_st (fun _ kS => XS.icmpYes X0.here hx rfl (pc0 := 2) (pc' := 7) rfl (hb hby d15_2) rfl (teq (by decide : (2 : Int32) = (2 : Int32))).1 (by decide) (by decide) kS) ?_
  show gs s₁ m 7 #[vi 2, .val (.long q1), .second, vi 2, .val (.long q2), .second, .unset, .unset, .unset] []
  refine oiloadN X0 hx hby d15_7 rfl ?_
  refine oiconst X0 hx hby d15_8 ?_
  refine own_st (fun _ kS => XS.icmpNo X0.here hx rfl (hb hby d15_9) rfl (flt (by decide : ¬ ((2 : Int32) < (1 : Int32)))).1 kS) ?_
  show gs s₁ m 12 #[vi 2, .val (.long q1), .second, vi 2, .val (.long q2), .second, .unset, .unset, .unset] []
  refine own_st (fun _ kS => XT.lloadN X0.here hx rfl (hb hby d15_12) rfl kS) ?_
  refine oiconst X0 hx hby d15_13 ?_
  refine oS 0 X0 hx hZ hby hml hown (own_w hw 49 rfl) (own_w hw 50 rfl) (own_w hw 6 rfl) (own_w hw 51 rfl) (rm_ch l Z a0 hw [] q1 (0 : Int32) h0 n0 Z0  ) e0 (by decide) own_pd5 d15_14 rfl rfl rfl (fun T1 L1 v1 X1 hQ1 => ?_)
  obtain ⟨rfl, Nq1, eq1⟩ := hQ1
  have N1 := Fr.app N0 Nq1
  show gs T1 m 17 #[vi 2, .val (.long q1), .second, vi 2, .val (.long q2), .second, .unset, .unset, .unset] [(.int (own_ch q1 (0 : Int32)))]
  refine own_st (fun _ kS => XT.lload X1.here hx rfl (hb hby d15_17) rfl kS) ?_
  refine oiconst X1 hx hby d15_19 ?_
  refine oS 1 X1 hx hZ hby hml hown (own_w hw 49 rfl) (own_w hw 50 rfl) (own_w hw 6 rfl) (own_w hw 51 rfl) (rm_ch l Z a0 hw [] q2 (0 : Int32) h0 n0 Z0  ) eq1 (by decide) own_pd5 d15_20 rfl rfl rfl (fun T2 L2 v2 X2 hQ2 => ?_)
  obtain ⟨rfl, Nq2, eq2⟩ := hQ2
  have N2 := Fr.app N1 Nq2
  show gs T2 m 23 #[vi 2, .val (.long q1), .second, vi 2, .val (.long q2), .second, .unset, .unset, .unset] [(.int (own_ch q2 (0 : Int32))), (.int (own_ch q1 (0 : Int32)))]
  refine own_st (fun _ kS => XS.icmpYes X2.here hx rfl (pc0 := 23) (pc' := 30) rfl (hb hby d15_23) rfl (feq (hq0 : ¬ ((own_ch q1 (0 : Int32)) = (own_ch q2 (0 : Int32))))).2 (by decide) (by decide) kS) ?_
  show gs T2 m 30 #[vi 2, .val (.long q1), .second, vi 2, .val (.long q2), .second, .unset, .unset, .unset] []
  refine oiconst X2 hx hby d15_30 ?_
  refine own_st (fun _ kS => XS.istore X2.here hx rfl (hb hby d15_31) rfl (l' := #[vi 2, .val (.long q1), .second, vi 2, .val (.long q2), .second, vi 0, .unset, .unset]) rfl kS) ?_
  refine oiloadN X2 hx hby d15_33 rfl ?_
  refine oiconst X2 hx hby d15_34 ?_
  refine own_st (fun _ kS => XS.icmpNo X2.here hx rfl (hb hby d15_35) rfl (flt (by decide : ¬ ((2 : Int32) < (2 : Int32)))).1 kS) ?_
  show gs T2 m 38 #[vi 2, .val (.long q1), .second, vi 2, .val (.long q2), .second, vi 0, .unset, .unset] []
  refine own_st (fun _ kS => XT.lloadN X2.here hx rfl (hb hby d15_38) rfl kS) ?_
  refine oiconst X2 hx hby d15_39 ?_
  refine oS 0 X2 hx hZ hby hml hown (own_w hw 49 rfl) (own_w hw 50 rfl) (own_w hw 6 rfl) (own_w hw 51 rfl) (rm_ch l Z a0 hw [] q1 (1 : Int32) h0 n0 Z0  ) eq2 (by decide) own_pd5 d15_40 rfl rfl rfl (fun T3 L3 v3 X3 hQ3 => ?_)
  obtain ⟨rfl, Nq3, eq3⟩ := hQ3
  have N3 := Fr.app N2 Nq3
  show gs T3 m 43 #[vi 2, .val (.long q1), .second, vi 2, .val (.long q2), .second, vi 0, .unset, .unset] [(.int (own_ch q1 (1 : Int32)))]
  refine own_st (fun _ kS => XT.lload X3.here hx rfl (hb hby d15_43) rfl kS) ?_
  refine oiconst X3 hx hby d15_45 ?_
  refine oS 1 X3 hx hZ hby hml hown (own_w hw 49 rfl) (own_w hw 50 rfl) (own_w hw 6 rfl) (own_w hw 51 rfl) (rm_ch l Z a0 hw [] q2 (1 : Int32) h0 n0 Z0  ) eq3 (by decide) own_pd5 d15_46 rfl rfl rfl (fun T4 L4 v4 X4 hQ4 => ?_)
  obtain ⟨rfl, Nq4, eq4⟩ := hQ4
  have N4 := Fr.app N3 Nq4
  show gs T4 m 49 #[vi 2, .val (.long q1), .second, vi 2, .val (.long q2), .second, vi 0, .unset, .unset] [(.int (own_ch q2 (1 : Int32))), (.int (own_ch q1 (1 : Int32)))]
  by_cases hc49_5 : (own_ch q1 (1 : Int32)) = (own_ch q2 (1 : Int32))
  · skip
    refine own_st (fun _ kS => XS.icmpNo X4.here hx rfl (hb hby d15_49) rfl (teq hc49_5).2 kS) ?_
    show gs T4 m 52 #[vi 2, .val (.long q1), .second, vi 2, .val (.long q2), .second, vi 0, .unset, .unset] []
    refine oiconst X4 hx hby d15_52 ?_
    refine own_st (fun _ kS => XS.goto X4.here hx rfl (pc0 := 53) (pc' := 57) rfl (hb hby d15_53) (by decide) (by decide) kS) ?_
    refine own_st (fun _ kS => XS.istore X4.here hx rfl (hb hby d15_57) rfl (l' := #[vi 2, .val (.long q1), .second, vi 2, .val (.long q2), .second, vi 0, vi 1, .unset]) rfl kS) ?_
    refine oiloadN X4 hx hby d15_59 rfl ?_
    refine oiconst X4 hx hby d15_60 ?_
    refine own_st (fun _ kS => XS.icmpYes X4.here hx rfl (pc0 := 61) (pc' := 78) rfl (hb hby d15_61) rfl (tlt (by decide : (2 : Int32) < (3 : Int32))).1 (by decide) (by decide) kS) ?_
    show gs T4 m 78 #[vi 2, .val (.long q1), .second, vi 2, .val (.long q2), .second, vi 0, vi 1, .unset] []
    refine oiconst X4 hx hby d15_78 ?_
    refine own_st (fun _ kS => XS.goto X4.here hx rfl (pc0 := 79) (pc' := 83) rfl (hb hby d15_79) (by decide) (by decide) kS) ?_
    refine own_st (fun _ kS => XS.istore X4.here hx rfl (hb hby d15_83) rfl (l' := #[vi 2, .val (.long q1), .second, vi 2, .val (.long q2), .second, vi 0, vi 1, vi 1]) rfl kS) ?_
    refine oiload X4 hx hby d15_85 rfl ?_
    refine own_st (fun _ kS => XS.ifYes X4.here hx rfl (pc0 := 87) (pc' := 104) rfl (hb hby d15_87) rfl ((if0 _ _).trans (teq (by decide : (0 : Int32) = (0 : Int32))).1) (by decide) (by decide) kS) ?_
    show gs T4 m 104 #[vi 2, .val (.long q1), .second, vi 2, .val (.long q2), .second, vi 0, vi 1, vi 1] []
    refine oiconst X4 hx hby d15_104 ?_
    exact own_retN X4 hx hlk (t := .boolean) hret (by simp) (hb hby d15_105) (by decide) (by decide) (v' := (0 : Int32)) rfl (by rw [eq4]; exact ⟨rfl, N4, rfl⟩)
  · skip
    refine own_st (fun _ kS => XS.icmpYes X4.here hx rfl (pc0 := 49) (pc' := 56) rfl (hb hby d15_49) rfl (feq hc49_5).2 (by decide) (by decide) kS) ?_
    show gs T4 m 56 #[vi 2, .val (.long q1), .second, vi 2, .val (.long q2), .second, vi 0, .unset, .unset] []
    refine oiconst X4 hx hby d15_56 ?_
    refine own_st (fun _ kS => XS.istore X4.here hx rfl (hb hby d15_57) rfl (l' := #[vi 2, .val (.long q1), .second, vi 2, .val (.long q2), .second, vi 0, vi 0, .unset]) rfl kS) ?_
    refine oiloadN X4 hx hby d15_59 rfl ?_
    refine oiconst X4 hx hby d15_60 ?_
    refine own_st (fun _ kS => XS.icmpYes X4.here hx rfl (pc0 := 61) (pc' := 78) rfl (hb hby d15_61) rfl (tlt (by decide : (2 : Int32) < (3 : Int32))).1 (by decide) (by decide) kS) ?_
    show gs T4 m 78 #[vi 2, .val (.long q1), .second, vi 2, .val (.long q2), .second, vi 0, vi 0, .unset] []
    refine oiconst X4 hx hby d15_78 ?_
    refine own_st (fun _ kS => XS.goto X4.here hx rfl (pc0 := 79) (pc' := 83) rfl (hb hby d15_79) (by decide) (by decide) kS) ?_
    refine own_st (fun _ kS => XS.istore X4.here hx rfl (hb hby d15_83) rfl (l' := #[vi 2, .val (.long q1), .second, vi 2, .val (.long q2), .second, vi 0, vi 0, vi 1]) rfl kS) ?_
    refine oiload X4 hx hby d15_85 rfl ?_
    refine own_st (fun _ kS => XS.ifYes X4.here hx rfl (pc0 := 87) (pc' := 104) rfl (hb hby d15_87) rfl ((if0 _ _).trans (teq (by decide : (0 : Int32) = (0 : Int32))).1) (by decide) (by decide) kS) ?_
    show gs T4 m 104 #[vi 2, .val (.long q1), .second, vi 2, .val (.long q2), .second, vi 0, vi 0, vi 1] []
    refine oiconst X4 hx hby d15_104 ?_
    exact own_retN X4 hx hlk (t := .boolean) hret (by simp) (hb hby d15_105) (by decide) (by decide) (v' := (0 : Int32)) rfl (by rw [eq4]; exact ⟨rfl, N4, rfl⟩)
theorem ef_latE_2_1 (m : MethodId) (x0 : Addr) (x1 : Addr) : entryFrame m #[(.ref x0), (.ref x1)] 3 = mkF m 0 #[.val (.ref x0), .val (.ref x1), .unset] [] := by first | (simp [entryFrame, mkF, argsToLocals, Value.category]; done) | rfl
def Q_latE_2_1 (Z : State) (t1 : Addr) (t2 : Addr) (k1a : ClassId) (k2a : ClassId) (y0 : Int32) (y1 : Int32) (z0 : Int32) (z1 : Int32) (h0 : Heap) (n0 : Nat) (v : Option Value) (h : Heap) (L : List Loc) : Prop := v = some (.int 0) ∧ Fr n0 L ∧ h = h0
theorem rm_latE_2_1 (l : Launch) (Z : State) (a0 : Array Value) (hw : HW a0 Z) (ws : List Jvm.Cond) (t1 : Addr) (t2 : Addr) (k1a : ClassId) (k2a : ClassId) (y0 : Int32) (y1 : Int32) (z0 : Int32) (z1 : Int32) (h0 : Heap) (n0 : Nat) (Z0 : n0 ≤ h0.size) (R_1 : Arv Z h0 t1 k1a .byte (2 : Int32) [(.int y0), (.int y1)] (.int 0)) (R_2 : Arv Z h0 t2 k2a .byte (2 : Int32) [(.int z0), (.int z1)] (.int 0)) (hq0 : y0 = z0) (hq1 : ¬ (y1 = z1)) :
    M9 l ws (rmk 0 0 0 0) Z #[(.ref t1), (.ref t2)] h0 (Q_latE_2_1 Z t1 t2 k1a k2a y0 y1 z0 z1 h0 n0) := by
  refine own_go "java/lang/StringLatin1" rfl (plainFor_of_name pn_16) (fun m => ef_latE_2_1 m t1 t2) (fun p e s m below meth c s₁ hx hby hml hown hnm hlk hret hZ X0 e0 => ?_)
  have N0 := Fr.nil n0
  show gs s₁ m 0 #[vr t1, vr t2, .unset] []
  refine oaloadN X0 hx hby d16_0 rfl rfl ?_
  show gs s₁ m 1 #[vr t1, vr t2, .unset] [(.ref t1)]
  obtain ⟨cl1, Ar1, qa1, qs1, qn1, qh1, qg1⟩ := id R_1
  refine own_st (fun _ kS => X0.arraylength hx (by rw [e0]; exact Ar1.1) (State.isArrayOf_alike hZ.alike Ar1.2.1) (g := (mkF m 1 #[vr t1, vr t2, .unset] [(.ref t1)])) rfl rfl (hb hby d16_1) _ kS) ?_
  rw [len_of qs1 qn1]
  show gs s₁ m 2 #[vr t1, vr t2, .unset] [(.int 2)]
  refine oaloadN X0 hx hby d16_2 rfl rfl ?_
  show gs s₁ m 3 #[vr t1, vr t2, .unset] [(.ref t2), (.int 2)]
  obtain ⟨cl2, Ar2, qa2, qs2, qn2, qh2, qg2⟩ := id R_2
  refine own_st (fun _ kS => X0.arraylength hx (by rw [e0]; exact Ar2.1) (State.isArrayOf_alike hZ.alike Ar2.2.1) (g := (mkF m 3 #[vr t1, vr t2, .unset] [(.ref t2), (.int 2)])) rfl rfl (hb hby d16_3) _ kS) ?_
  rw [len_of qs2 qn2]
  show gs s₁ m 4 #[vr t1, vr t2, .unset] [(.int 2), (.int 2)]
  refine own_st (fun _ kS => XS.icmpNo X0.here hx rfl (hb hby d16_4) rfl (teq (by decide : (2 : Int32) = (2 : Int32))).2 kS) ?_
  show gs s₁ m 7 #[vr t1, vr t2, .unset] []
  refine oiconst X0 hx hby d16_7 ?_
  refine own_st (fun _ kS => XS.istoreN X0.here hx rfl (hb hby d16_8) rfl (l' := #[vr t1, vr t2, vi 0]) rfl kS) ?_
  refine oiloadN X0 hx hby d16_9 rfl ?_
  refine oaloadN X0 hx hby d16_10 rfl rfl ?_
  show gs s₁ m 11 #[vr t1, vr t2, vi 0] [(.ref t1), (.int 0)]
  obtain ⟨cl3, Ar3, qa3, qs3, qn3, qh3, qg3⟩ := id R_1
  refine own_st (fun _ kS => X0.arraylength hx (by rw [e0]; exact Ar3.1) (State.isArrayOf_alike hZ.alike Ar3.2.1) (g := (mkF m 11 #[vr t1, vr t2, vi 0] [(.ref t1), (.int 0)])) rfl rfl (hb hby d16_11) _ kS) ?_
  rw [len_of qs3 qn3]
  show gs s₁ m 12 #[vr t1, vr t2, vi 0] [(.int 2), (.int 0)]
  refine own_st (fun _ kS => XS.icmpNo X0.here hx rfl (hb hby d16_12) rfl (tlt (by decide : (0 : Int32) < (2 : Int32))).2.1 kS) ?_
  show gs s₁ m 15 #[vr t1, vr t2, vi 0] []
  refine oaloadN X0 hx hby d16_15 rfl rfl ?_
  refine oiloadN X0 hx hby d16_16 rfl ?_
  show gs s₁ m 17 #[vr t1, vr t2, vi 0] [(.int 0), (.ref t1)]
  obtain ⟨cl4, Ar4, qa4, qs4, qn4, qh4, qg4⟩ := id R_1
  refine own_st (fun _ kS => X0.baloadBytes hx (j := (0 : Int32)) (v := (.int y0)) (by rw [e0]; exact Ar4.1) (State.isArrayOf_alike hZ.alike Ar4.2.1) Ar4.2.2 (inb_of qs4 ⟨by decide, by decide⟩) (qh4.at (inb_of qs4 ⟨by decide, by decide⟩) rfl) (g := (mkF m 17 #[vr t1, vr t2, vi 0] [(.int 0), (.ref t1)])) rfl rfl (hb hby d16_17) _ kS) ?_
  show gs s₁ m 18 #[vr t1, vr t2, vi 0] [(.int y0)]
  refine oaloadN X0 hx hby d16_18 rfl rfl ?_
  refine oiloadN X0 hx hby d16_19 rfl ?_
  show gs s₁ m 20 #[vr t1, vr t2, vi 0] [(.int 0), (.ref t2), (.int y0)]
  obtain ⟨cl5, Ar5, qa5, qs5, qn5, qh5, qg5⟩ := id R_2
  refine own_st (fun _ kS => X0.baloadBytes hx (j := (0 : Int32)) (v := (.int z0)) (by rw [e0]; exact Ar5.1) (State.isArrayOf_alike hZ.alike Ar5.2.1) Ar5.2.2 (inb_of qs5 ⟨by decide, by decide⟩) (qh5.at (inb_of qs5 ⟨by decide, by decide⟩) rfl) (g := (mkF m 20 #[vr t1, vr t2, vi 0] [(.int 0), (.ref t2), (.int y0)])) rfl rfl (hb hby d16_20) _ kS) ?_
  show gs s₁ m 21 #[vr t1, vr t2, vi 0] [(.int z0), (.int y0)]
  refine own_st (fun _ kS => XS.icmpYes X0.here hx rfl (pc0 := 21) (pc' := 26) rfl (hb hby d16_21) rfl (teq (hq0 : y0 = z0)).1 (by decide) (by decide) kS) ?_
  show gs s₁ m 26 #[vr t1, vr t2, vi 0] []
  refine own_st (fun _ kS => XS.iinc X0.here hx rfl (hb hby d16_26) rfl (l' := #[vr t1, vr t2, vi 1]) rfl kS) ?_
  refine own_st (fun _ kS => XS.goto X0.here hx rfl (pc0 := 29) (pc' := 9) rfl (hb hby d16_29) (by decide) (by decide) kS) ?_
  refine oiloadN X0 hx hby d16_9 rfl ?_
  refine oaloadN X0 hx hby d16_10 rfl rfl ?_
  show gs s₁ m 11 #[vr t1, vr t2, vi 1] [(.ref t1), (.int 1)]
  obtain ⟨cl6, Ar6, qa6, qs6, qn6, qh6, qg6⟩ := id R_1
  refine own_st (fun _ kS => X0.arraylength hx (by rw [e0]; exact Ar6.1) (State.isArrayOf_alike hZ.alike Ar6.2.1) (g := (mkF m 11 #[vr t1, vr t2, vi 1] [(.ref t1), (.int 1)])) rfl rfl (hb hby d16_11) _ kS) ?_
  rw [len_of qs6 qn6]
  show gs s₁ m 12 #[vr t1, vr t2, vi 1] [(.int 2), (.int 1)]
  refine own_st (fun _ kS => XS.icmpNo X0.here hx rfl (hb hby d16_12) rfl (tlt (by decide : (1 : Int32) < (2 : Int32))).2.1 kS) ?_
  show gs s₁ m 15 #[vr t1, vr t2, vi 1] []
  refine oaloadN X0 hx hby d16_15 rfl rfl ?_
  refine oiloadN X0 hx hby d16_16 rfl ?_
  show gs s₁ m 17 #[vr t1, vr t2, vi 1] [(.int 1), (.ref t1)]
  obtain ⟨cl7, Ar7, qa7, qs7, qn7, qh7, qg7⟩ := id R_1
  refine own_st (fun _ kS => X0.baloadBytes hx (j := (1 : Int32)) (v := (.int y1)) (by rw [e0]; exact Ar7.1) (State.isArrayOf_alike hZ.alike Ar7.2.1) Ar7.2.2 (inb_of qs7 ⟨by decide, by decide⟩) (qh7.at (inb_of qs7 ⟨by decide, by decide⟩) rfl) (g := (mkF m 17 #[vr t1, vr t2, vi 1] [(.int 1), (.ref t1)])) rfl rfl (hb hby d16_17) _ kS) ?_
  show gs s₁ m 18 #[vr t1, vr t2, vi 1] [(.int y1)]
  refine oaloadN X0 hx hby d16_18 rfl rfl ?_
  refine oiloadN X0 hx hby d16_19 rfl ?_
  show gs s₁ m 20 #[vr t1, vr t2, vi 1] [(.int 1), (.ref t2), (.int y1)]
  obtain ⟨cl8, Ar8, qa8, qs8, qn8, qh8, qg8⟩ := id R_2
  refine own_st (fun _ kS => X0.baloadBytes hx (j := (1 : Int32)) (v := (.int z1)) (by rw [e0]; exact Ar8.1) (State.isArrayOf_alike hZ.alike Ar8.2.1) Ar8.2.2 (inb_of qs8 ⟨by decide, by decide⟩) (qh8.at (inb_of qs8 ⟨by decide, by decide⟩) rfl) (g := (mkF m 20 #[vr t1, vr t2, vi 1] [(.int 1), (.ref t2), (.int y1)])) rfl rfl (hb hby d16_20) _ kS) ?_
  show gs s₁ m 21 #[vr t1, vr t2, vi 1] [(.int z1), (.int y1)]
  refine own_st (fun _ kS => XS.icmpNo X0.here hx rfl (hb hby d16_21) rfl (feq (hq1 : ¬ (y1 = z1))).1 kS) ?_
  show gs s₁ m 24 #[vr t1, vr t2, vi 1] []
  refine oiconst X0 hx hby d16_24 ?_
  exact own_retN X0 hx hlk (t := .boolean) hret (by simp) (hb hby d16_25) (by decide) (by decide) (v' := (0 : Int32)) rfl (by rw [e0]; exact ⟨rfl, N0, rfl⟩)
theorem ef_strE_2_1 (m : MethodId) (x0 : Addr) (x1 : Addr) : entryFrame m #[(.ref x0), (.ref x1)] 3 = mkF m 0 #[.val (.ref x0), .val (.ref x1), .unset] [] := by first | (simp [entryFrame, mkF, argsToLocals, Value.category]; done) | rfl
def Q_strE_2_1 (Z : State) (s1 : Addr) (s2 : Addr) (t1 : Addr) (t2 : Addr) (k1a : ClassId) (k2a : ClassId) (y0 : Int32) (y1 : Int32) (z0 : Int32) (z1 : Int32) (zCS : Int32) (h0 : Heap) (n0 : Nat) (v : Option Value) (h : Heap) (L : List Loc) : Prop := v = some (.int 0) ∧ Fr n0 L ∧ h = h0
theorem rm_strE_2_1 (l : Launch) (Z : State) (a0 : Array Value) (hw : HW a0 Z) (ws : List Jvm.Cond) (s1 : Addr) (s2 : Addr) (t1 : Addr) (t2 : Addr) (k1a : ClassId) (k2a : ClassId) (y0 : Int32) (y1 : Int32) (z0 : Int32) (z1 : Int32) (zCS : Int32) (h0 : Heap) (n0 : Nat) (Z0 : n0 ≤ h0.size) (O0 : Old Z n0 h0) (ne12 : s1 ≠ s2) (E_1 : ek21 Z h0 s1) (E_2 : ek21 Z h0 s2) (F1v : fk17 Z h0 s1 (.ref t1)) (F2v : fk17 Z h0 s2 (.ref t2)) (F1c : fk16 Z h0 s1 (.int 0)) (F2c : fk16 Z h0 s2 (.int 0)) (R_1 : Arv Z h0 t1 k1a .byte (2 : Int32) [(.int y0), (.int y1)] (.int 0)) (R_2 : Arv Z h0 t2 k2a .byte (2 : Int32) [(.int z0), (.int z1)] (.int 0)) (hq0 : y0 = z0) (hq1 : ¬ (y1 = z1)) (S_CS : sk0 Z Z.heap (.int zCS)) (P_CS : ¬ zCS = 0) :
    M10 l ws (rmk 1 0 0 14) Z #[(.ref s1), (.ref s2)] h0 (Q_strE_2_1 Z s1 s2 t1 t2 k1a k2a y0 y1 z0 z1 zCS h0 n0) := by
  refine own_go "java/lang/String" rfl (plainFor_of_name pn_13) (fun m => ef_strE_2_1 m s1 s2) (fun p e s m below meth c s₁ hx hby hml hown hnm hlk hret hZ X0 e0 => ?_)
  have N0 := Fr.nil n0
  show gs s₁ m 0 #[vr s1, vr s2, .unset] []
  refine oaloadN X0 hx hby d13_0 rfl rfl ?_
  refine oaloadN X0 hx hby d13_1 rfl rfl ?_
  show gs s₁ m 2 #[vr s1, vr s2, .unset] [(.ref s2), (.ref s1)]
  refine own_st (fun _ kS => Jvm.RoadKit.acmp (g := (mkF m 2 #[vr s1, vr s2, .unset] [(.ref s2), (.ref s1)])) X0 hx rfl rfl rfl (pc0 := 2) (pc' := 7) (same := false) rfl (hb hby d13_2) rfl (decide_eq_false fun q => ne12 (Value.ref.inj q)) (by decide) (by decide) kS) ?_
  show gs s₁ m 7 #[vr s1, vr s2, .unset] []
  refine oaloadN X0 hx hby d13_7 rfl rfl ?_
  obtain ⟨T1, X1, e1, st1⟩ := instY X0 hx hZ hown (own_w hw 120 rfl) e0 (Ins.self E_2) (g := (mkF m 8 #[vr s1, vr s2, .unset] [(.ref s2)])) rfl rfl (hb hby d13_8)
  refine own_st st1 ?_
  show gs T1 m 11 #[vr s1, vr s2, .unset] [(.int 1)]
  refine own_st (fun _ kS => XS.ifNo X1.here hx rfl (hb hby d13_11) rfl ((if0 _ _).trans (feq (by decide : ¬ ((1 : Int32) = (0 : Int32)))).1) kS) ?_
  show gs T1 m 14 #[vr s1, vr s2, .unset] []
  refine oaloadN X1 hx hby d13_14 rfl rfl ?_
  obtain ⟨T2, X2, e2, st2⟩ := castY X1 hx hZ hown (own_w hw 120 rfl) e1 (Ins.self E_2) (g := (mkF m 15 #[vr s1, vr s2, .unset] [(.ref s2)])) rfl rfl (hb hby d13_15)
  refine own_st st2 ?_
  show gs T2 m 18 #[vr s1, vr s2, .unset] [(.ref s2)]
  refine own_st (fun _ kS => XS.astoreN X2.here hx rfl (hb hby d13_18) rfl rfl (l' := #[vr s1, vr s2, vr s2]) rfl kS) ?_
  show gs T2 m 19 #[vr s1, vr s2, vr s2] []
  obtain ⟨T3, X3, e3, st3⟩ := getS2 X2 hx hZ hown (host := "") (Or.inl (own_w hw 63 rfl)) Via.refl e2 (Sta.ext O0.2 S_CS) (g := (mkF m 19 #[vr s1, vr s2, vr s2] [])) rfl (hb hby d13_19)
  refine own_st st3 ?_
  show gs T3 m 22 #[vr s1, vr s2, vr s2] [(.int zCS)]
  refine own_st (fun _ kS => XS.ifNo X3.here hx rfl (hb hby d13_22) rfl ((if0 _ _).trans (feq (P_CS : ¬ (zCS = (0 : Int32)))).1) kS) ?_
  show gs T3 m 25 #[vr s1, vr s2, vr s2] []
  refine oaloadN X3 hx hby d13_25 rfl rfl ?_
  obtain ⟨T4, X4, e4, st4⟩ := getF X3 hx hZ hown (host := "") (Or.inl (own_w hw 75 rfl)) Via.refl e3 F1c (g := (mkF m 26 #[vr s1, vr s2, vr s2] [(.ref s1)])) rfl rfl (hb hby d13_26)
  refine own_st st4 ?_
  show gs T4 m 29 #[vr s1, vr s2, vr s2] [(.int 0)]
  refine oaloadN X4 hx hby d13_29 rfl rfl ?_
  obtain ⟨T5, X5, e5, st5⟩ := getF X4 hx hZ hown (host := "") (Or.inl (own_w hw 75 rfl)) Via.refl e4 F2c (g := (mkF m 30 #[vr s1, vr s2, vr s2] [(.ref s2), (.int 0)])) rfl rfl (hb hby d13_30)
  refine own_st st5 ?_
  show gs T5 m 33 #[vr s1, vr s2, vr s2] [(.int 0), (.int 0)]
  refine own_st (fun _ kS => XS.icmpNo X5.here hx rfl (hb hby d13_33) rfl (teq (by decide : (0 : Int32) = (0 : Int32))).2 kS) ?_
  show gs T5 m 36 #[vr s1, vr s2, vr s2] []
  refine oaloadN X5 hx hby d13_36 rfl rfl ?_
  obtain ⟨T6, X6, e6, st6⟩ := getF X5 hx hZ hown (host := "") (Or.inl (own_w hw 77 rfl)) Via.refl e5 F1v (g := (mkF m 37 #[vr s1, vr s2, vr s2] [(.ref s1)])) rfl rfl (hb hby d13_37)
  refine own_st st6 ?_
  show gs T6 m 40 #[vr s1, vr s2, vr s2] [(.ref t1)]
  refine oaloadN X6 hx hby d13_40 rfl rfl ?_
  obtain ⟨T7, X7, e7, st7⟩ := getF X6 hx hZ hown (host := "") (Or.inl (own_w hw 77 rfl)) Via.refl e6 F2v (g := (mkF m 41 #[vr s1, vr s2, vr s2] [(.ref s2), (.ref t1)])) rfl rfl (hb hby d13_41)
  refine own_st st7 ?_
  show gs T7 m 44 #[vr s1, vr s2, vr s2] [(.ref t2), (.ref t1)]
  refine oS 0 X7 hx hZ hby hml hown (own_w hw 121 rfl) (own_w hw 122 rfl) (own_w hw 123 rfl) (own_w hw 124 rfl) (rm_latE_2_1 l Z a0 hw [] t1 t2 k1a k2a y0 y1 z0 z1 h0 n0 Z0  R_1 R_2 hq0 hq1) e7 (by decide) own_pd7 d13_44 rfl rfl rfl (fun T8 L8 v8 X8 hQ8 => ?_)
  obtain ⟨rfl, Nq8, eq8⟩ := hQ8
  have N8 := Fr.app N0 Nq8
  show gs T8 m 47 #[vr s1, vr s2, vr s2] [(.int 0)]
  refine own_st (fun _ kS => XS.ifYes X8.here hx rfl (pc0 := 47) (pc' := 54) rfl (hb hby d13_47) rfl ((if0 _ _).trans (teq (by decide : (0 : Int32) = (0 : Int32))).1) (by decide) (by decide) kS) ?_
  show gs T8 m 54 #[vr s1, vr s2, vr s2] []
  refine oiconst X8 hx hby d13_54 ?_
  exact own_retN X8 hx hlk (t := .boolean) hret (by simp) (hb hby d13_55) (by decide) (by decide) (v' := (0 : Int32)) rfl (by rw [eq8]; exact ⟨rfl, N8, rfl⟩)
theorem ef_dcE_2_1 (m : MethodId) (x0 : Addr) (x1 : Addr) : entryFrame m #[(.ref x0), (.ref x1)] 3 = mkF m 0 #[.val (.ref x0), .val (.ref x1), .unset] [] := by first | (simp [entryFrame, mkF, argsToLocals, Value.category]; done) | rfl
def Q_dcE_2_1 (Z : State) (a1 : Addr) (a2 : Addr) (v1 : Addr) (s1 : Addr) (s2 : Addr) (t1 : Addr) (t2 : Addr) (k1a : ClassId) (k2a : ClassId) (y0 : Int32) (y1 : Int32) (z0 : Int32) (z1 : Int32) (zCS : Int32) (h0 : Heap) (n0 : Nat) (v : Option Value) (h : Heap) (L : List Loc) : Prop := v = some (.int 0) ∧ Fr n0 L ∧ h = h0
theorem rm_dcE_2_1 (l : Launch) (Z : State) (a0 : Array Value) (hw : HW a0 Z) (ws : List Jvm.Cond) (a1 : Addr) (a2 : Addr) (v1 : Addr) (s1 : Addr) (s2 : Addr) (t1 : Addr) (t2 : Addr) (k1a : ClassId) (k2a : ClassId) (y0 : Int32) (y1 : Int32) (z0 : Int32) (z1 : Int32) (zCS : Int32) (h0 : Heap) (n0 : Nat) (Z0 : n0 ≤ h0.size) (O0 : Old Z n0 h0) (E_a : ek22 Z h0 a1) (E_b : ek22 Z h0 a2) (Fe1 : fk18 Z h0 a1 (.ref v1)) (Ft1 : fk19 Z h0 a1 (.ref s1)) (Fe2 : fk18 Z h0 a2 (.ref v1)) (Ft2 : fk19 Z h0 a2 (.ref s2)) (ne12 : s1 ≠ s2) (E_1 : ek21 Z h0 s1) (E_2 : ek21 Z h0 s2) (F1v : fk17 Z h0 s1 (.ref t1)) (F2v : fk17 Z h0 s2 (.ref t2)) (F1c : fk16 Z h0 s1 (.int 0)) (F2c : fk16 Z h0 s2 (.int 0)) (R_1 : Arv Z h0 t1 k1a .byte (2 : Int32) [(.int y0), (.int y1)] (.int 0)) (R_2 : Arv Z h0 t2 k2a .byte (2 : Int32) [(.int z0), (.int z1)] (.int 0)) (hq0 : y0 = z0) (hq1 : ¬ (y1 = z1)) (S_CS : sk0 Z Z.heap (.int zCS)) (P_CS : ¬ zCS = 0) :
    M11 l ws (rmk 2 0 0 28) Z #[(.ref a1), (.ref a2)] h0 (Q_dcE_2_1 Z a1 a2 v1 s1 s2 t1 t2 k1a k2a y0 y1 z0 z1 zCS h0 n0) := by
  refine own_go "com/example/cartouche/cartouche/crosswalks/DcValue" rfl (plainFor_of_name pn_12) (fun m => ef_dcE_2_1 m a1 a2) (fun p e s m below meth c s₁ hx hby hml hown hnm hlk hret hZ X0 e0 => ?_)
  have N0 := Fr.nil n0
  show gs s₁ m 0 #[vr a1, vr a2, .unset] []
  refine oaloadN X0 hx hby d12_0 rfl rfl ?_
  obtain ⟨T1, X1, e1, st1⟩ := instY X0 hx hZ hown (own_w hw 103 rfl) e0 (Ins.self E_b) (g := (mkF m 1 #[vr a1, vr a2, .unset] [(.ref a2)])) rfl rfl (hb hby d12_1)
  refine own_st st1 ?_
  show gs T1 m 4 #[vr a1, vr a2, .unset] [(.int 1)]
  refine own_st (fun _ kS => XS.ifNo X1.here hx rfl (hb hby d12_4) rfl ((if0 _ _).trans (feq (by decide : ¬ ((1 : Int32) = (0 : Int32)))).1) kS) ?_
  show gs T1 m 7 #[vr a1, vr a2, .unset] []
  refine oaloadN X1 hx hby d12_7 rfl rfl ?_
  obtain ⟨T2, X2, e2, st2⟩ := castY X1 hx hZ hown (own_w hw 103 rfl) e1 (Ins.self E_b) (g := (mkF m 8 #[vr a1, vr a2, .unset] [(.ref a2)])) rfl rfl (hb hby d12_8)
  refine own_st st2 ?_
  show gs T2 m 11 #[vr a1, vr a2, .unset] [(.ref a2)]
  refine own_st (fun _ kS => XS.astoreN X2.here hx rfl (hb hby d12_11) rfl rfl (l' := #[vr a1, vr a2, vr a2]) rfl kS) ?_
  refine oaloadN X2 hx hby d12_12 rfl rfl ?_
  obtain ⟨T3, X3, e3, st3⟩ := getF X2 hx hZ hown (host := "") (Or.inl (own_w hw 91 rfl)) Via.refl e2 Fe1 (g := (mkF m 13 #[vr a1, vr a2, vr a2] [(.ref a1)])) rfl rfl (hb hby d12_13)
  refine own_st st3 ?_
  show gs T3 m 16 #[vr a1, vr a2, vr a2] [(.ref v1)]
  refine oaloadN X3 hx hby d12_16 rfl rfl ?_
  obtain ⟨T4, X4, e4, st4⟩ := getF X3 hx hZ hown (host := "") (Or.inl (own_w hw 91 rfl)) Via.refl e3 Fe2 (g := (mkF m 17 #[vr a1, vr a2, vr a2] [(.ref a2), (.ref v1)])) rfl rfl (hb hby d12_17)
  refine own_st st4 ?_
  show gs T4 m 20 #[vr a1, vr a2, vr a2] [(.ref v1), (.ref v1)]
  refine own_st (fun _ kS => Jvm.RoadKit.acmp (g := (mkF m 20 #[vr a1, vr a2, vr a2] [(.ref v1), (.ref v1)])) X4 hx rfl rfl rfl (pc0 := 20) (pc' := 23) (same := true) rfl (hb hby d12_20) rfl (decide_eq_true rfl) (by decide) (by decide) kS) ?_
  show gs T4 m 23 #[vr a1, vr a2, vr a2] []
  refine oaloadN X4 hx hby d12_23 rfl rfl ?_
  obtain ⟨T5, X5, e5, st5⟩ := getF X4 hx hZ hown (host := "") (Or.inl (own_w hw 95 rfl)) Via.refl e4 Ft1 (g := (mkF m 24 #[vr a1, vr a2, vr a2] [(.ref a1)])) rfl rfl (hb hby d12_24)
  refine own_st st5 ?_
  show gs T5 m 27 #[vr a1, vr a2, vr a2] [(.ref s1)]
  refine oaloadN X5 hx hby d12_27 rfl rfl ?_
  obtain ⟨T6, X6, e6, st6⟩ := getF X5 hx hZ hown (host := "") (Or.inl (own_w hw 95 rfl)) Via.refl e5 Ft2 (g := (mkF m 28 #[vr a1, vr a2, vr a2] [(.ref a2), (.ref s1)])) rfl rfl (hb hby d12_28)
  refine own_st st6 ?_
  show gs T6 m 31 #[vr a1, vr a2, vr a2] [(.ref s2), (.ref s1)]
  refine oV 0 X6 hx hZ hby hml hown (own_w hw 105 rfl) (own_w hw 106 rfl) (own_w hw 108 rfl) (own_w hw 107 rfl) (rm_strE_2_1 l Z a0 hw [] s1 s2 t1 t2 k1a k2a y0 y1 z0 z1 zCS h0 n0 Z0 O0 ne12 E_1 E_2 F1v F2v F1c F2c R_1 R_2 hq0 hq1 S_CS P_CS) (own_w hw 109 rfl) (own_w hw 47 rfl) e6 E_1 (by decide) own_pd8 d12_31 rfl rfl rfl (fun T7 L7 v7 X7 hQ7 => ?_)
  obtain ⟨rfl, Nq7, eq7⟩ := hQ7
  have N7 := Fr.app N0 Nq7
  show gs T7 m 34 #[vr a1, vr a2, vr a2] [(.int 0)]
  refine own_st (fun _ kS => XS.ifYes X7.here hx rfl (pc0 := 34) (pc' := 41) rfl (hb hby d12_34) rfl ((if0 _ _).trans (teq (by decide : (0 : Int32) = (0 : Int32))).1) (by decide) (by decide) kS) ?_
  show gs T7 m 41 #[vr a1, vr a2, vr a2] []
  refine oiconst X7 hx hby d12_41 ?_
  exact own_retN X7 hx hlk (t := .boolean) hret (by simp) (hb hby d12_42) (by decide) (by decide) (v' := (0 : Int32)) rfl (by rw [eq7]; exact ⟨rfl, N7, rfl⟩)
theorem ef_samT_2_1 (m : MethodId) (x0 : Int64) (x1 : Int64) : entryFrame m #[(.int 2), (.long x0), (.int 2), (.long x1)] 9 = mkF m 0 #[.val (.int 2), .val (.long x0), .second, .val (.int 2), .val (.long x1), .second, .unset, .unset, .unset] [] := by first | (simp [entryFrame, mkF, argsToLocals, Value.category]; done) | rfl
def Q_samT_2_1 (Z : State) (q1 : Int64) (q2 : Int64) (h0 : Heap) (n0 : Nat) (v : Option Value) (h : Heap) (L : List Loc) : Prop := v = some (.int 0) ∧ Fr n0 L ∧ h = h0
theorem rm_samT_2_1 (l : Launch) (Z : State) (a0 : Array Value) (hw : HW a0 Z) (ws : List Jvm.Cond) (q1 : Int64) (q2 : Int64) (h0 : Heap) (n0 : Nat) (Z0 : n0 ≤ h0.size) (hq0 : (own_ch q1 (0 : Int32)) = (own_ch q2 (0 : Int32))) (hq1 : ¬ ((own_ch q1 (1 : Int32)) = (own_ch q2 (1 : Int32)))) :
    M12 l ws (rmk 1 0 0 15) Z #[(.int 2), (.long q1), (.int 2), (.long q2)] h0 (Q_samT_2_1 Z q1 q2 h0 n0) := by
  refine own_go "com/example/cartouche/cartouche/crosswalks/DcValueEqualsPinLaw" rfl (plainFor_of_name pn_15) (fun m => ef_samT_2_1 m q1 q2) (fun p e s m below meth c s₁ hx hby hml hown hnm hlk hret hZ X0 e0 => ?_)
  have N0 := Fr.nil n0
  show gs s₁ m 0 #[vi 2, .val (.long q1), .second, vi 2, .val (.long q2), .second, .unset, .unset, .unset] []
  refine oiloadN X0 hx hby d15_0 rfl ?_
  refine oiloadN X0 hx hby d15_1 rfl ?_
  refine own_st (fun _ kS => XS.icmpYes X0.here hx rfl (pc0 := 2) (pc' := 7) rfl (hb hby d15_2) rfl (teq (by decide : (2 : Int32) = (2 : Int32))).1 (by decide) (by decide) kS) ?_
  show gs s₁ m 7 #[vi 2, .val (.long q1), .second, vi 2, .val (.long q2), .second, .unset, .unset, .unset] []
  refine oiloadN X0 hx hby d15_7 rfl ?_
  refine oiconst X0 hx hby d15_8 ?_
  refine own_st (fun _ kS => XS.icmpNo X0.here hx rfl (hb hby d15_9) rfl (flt (by decide : ¬ ((2 : Int32) < (1 : Int32)))).1 kS) ?_
  show gs s₁ m 12 #[vi 2, .val (.long q1), .second, vi 2, .val (.long q2), .second, .unset, .unset, .unset] []
  refine own_st (fun _ kS => XT.lloadN X0.here hx rfl (hb hby d15_12) rfl kS) ?_
  refine oiconst X0 hx hby d15_13 ?_
  refine oS 0 X0 hx hZ hby hml hown (own_w hw 49 rfl) (own_w hw 50 rfl) (own_w hw 6 rfl) (own_w hw 51 rfl) (rm_ch l Z a0 hw [] q1 (0 : Int32) h0 n0 Z0  ) e0 (by decide) own_pd5 d15_14 rfl rfl rfl (fun T1 L1 v1 X1 hQ1 => ?_)
  obtain ⟨rfl, Nq1, eq1⟩ := hQ1
  have N1 := Fr.app N0 Nq1
  show gs T1 m 17 #[vi 2, .val (.long q1), .second, vi 2, .val (.long q2), .second, .unset, .unset, .unset] [(.int (own_ch q1 (0 : Int32)))]
  refine own_st (fun _ kS => XT.lload X1.here hx rfl (hb hby d15_17) rfl kS) ?_
  refine oiconst X1 hx hby d15_19 ?_
  refine oS 1 X1 hx hZ hby hml hown (own_w hw 49 rfl) (own_w hw 50 rfl) (own_w hw 6 rfl) (own_w hw 51 rfl) (rm_ch l Z a0 hw [] q2 (0 : Int32) h0 n0 Z0  ) eq1 (by decide) own_pd5 d15_20 rfl rfl rfl (fun T2 L2 v2 X2 hQ2 => ?_)
  obtain ⟨rfl, Nq2, eq2⟩ := hQ2
  have N2 := Fr.app N1 Nq2
  show gs T2 m 23 #[vi 2, .val (.long q1), .second, vi 2, .val (.long q2), .second, .unset, .unset, .unset] [(.int (own_ch q2 (0 : Int32))), (.int (own_ch q1 (0 : Int32)))]
  refine own_st (fun _ kS => XS.icmpNo X2.here hx rfl (hb hby d15_23) rfl (teq (hq0 : (own_ch q1 (0 : Int32)) = (own_ch q2 (0 : Int32)))).2 kS) ?_
  show gs T2 m 26 #[vi 2, .val (.long q1), .second, vi 2, .val (.long q2), .second, .unset, .unset, .unset] []
  refine oiconst X2 hx hby d15_26 ?_
  refine own_st (fun _ kS => XS.goto X2.here hx rfl (pc0 := 27) (pc' := 31) rfl (hb hby d15_27) (by decide) (by decide) kS) ?_
  refine own_st (fun _ kS => XS.istore X2.here hx rfl (hb hby d15_31) rfl (l' := #[vi 2, .val (.long q1), .second, vi 2, .val (.long q2), .second, vi 1, .unset, .unset]) rfl kS) ?_
  refine oiloadN X2 hx hby d15_33 rfl ?_
  refine oiconst X2 hx hby d15_34 ?_
  refine own_st (fun _ kS => XS.icmpNo X2.here hx rfl (hb hby d15_35) rfl (flt (by decide : ¬ ((2 : Int32) < (2 : Int32)))).1 kS) ?_
  show gs T2 m 38 #[vi 2, .val (.long q1), .second, vi 2, .val (.long q2), .second, vi 1, .unset, .unset] []
  refine own_st (fun _ kS => XT.lloadN X2.here hx rfl (hb hby d15_38) rfl kS) ?_
  refine oiconst X2 hx hby d15_39 ?_
  refine oS 0 X2 hx hZ hby hml hown (own_w hw 49 rfl) (own_w hw 50 rfl) (own_w hw 6 rfl) (own_w hw 51 rfl) (rm_ch l Z a0 hw [] q1 (1 : Int32) h0 n0 Z0  ) eq2 (by decide) own_pd5 d15_40 rfl rfl rfl (fun T3 L3 v3 X3 hQ3 => ?_)
  obtain ⟨rfl, Nq3, eq3⟩ := hQ3
  have N3 := Fr.app N2 Nq3
  show gs T3 m 43 #[vi 2, .val (.long q1), .second, vi 2, .val (.long q2), .second, vi 1, .unset, .unset] [(.int (own_ch q1 (1 : Int32)))]
  refine own_st (fun _ kS => XT.lload X3.here hx rfl (hb hby d15_43) rfl kS) ?_
  refine oiconst X3 hx hby d15_45 ?_
  refine oS 1 X3 hx hZ hby hml hown (own_w hw 49 rfl) (own_w hw 50 rfl) (own_w hw 6 rfl) (own_w hw 51 rfl) (rm_ch l Z a0 hw [] q2 (1 : Int32) h0 n0 Z0  ) eq3 (by decide) own_pd5 d15_46 rfl rfl rfl (fun T4 L4 v4 X4 hQ4 => ?_)
  obtain ⟨rfl, Nq4, eq4⟩ := hQ4
  have N4 := Fr.app N3 Nq4
  show gs T4 m 49 #[vi 2, .val (.long q1), .second, vi 2, .val (.long q2), .second, vi 1, .unset, .unset] [(.int (own_ch q2 (1 : Int32))), (.int (own_ch q1 (1 : Int32)))]
  refine own_st (fun _ kS => XS.icmpYes X4.here hx rfl (pc0 := 49) (pc' := 56) rfl (hb hby d15_49) rfl (feq (hq1 : ¬ ((own_ch q1 (1 : Int32)) = (own_ch q2 (1 : Int32))))).2 (by decide) (by decide) kS) ?_
  show gs T4 m 56 #[vi 2, .val (.long q1), .second, vi 2, .val (.long q2), .second, vi 1, .unset, .unset] []
  refine oiconst X4 hx hby d15_56 ?_
  refine own_st (fun _ kS => XS.istore X4.here hx rfl (hb hby d15_57) rfl (l' := #[vi 2, .val (.long q1), .second, vi 2, .val (.long q2), .second, vi 1, vi 0, .unset]) rfl kS) ?_
  refine oiloadN X4 hx hby d15_59 rfl ?_
  refine oiconst X4 hx hby d15_60 ?_
  refine own_st (fun _ kS => XS.icmpYes X4.here hx rfl (pc0 := 61) (pc' := 78) rfl (hb hby d15_61) rfl (tlt (by decide : (2 : Int32) < (3 : Int32))).1 (by decide) (by decide) kS) ?_
  show gs T4 m 78 #[vi 2, .val (.long q1), .second, vi 2, .val (.long q2), .second, vi 1, vi 0, .unset] []
  refine oiconst X4 hx hby d15_78 ?_
  refine own_st (fun _ kS => XS.goto X4.here hx rfl (pc0 := 79) (pc' := 83) rfl (hb hby d15_79) (by decide) (by decide) kS) ?_
  refine own_st (fun _ kS => XS.istore X4.here hx rfl (hb hby d15_83) rfl (l' := #[vi 2, .val (.long q1), .second, vi 2, .val (.long q2), .second, vi 1, vi 0, vi 1]) rfl kS) ?_
  refine oiload X4 hx hby d15_85 rfl ?_
  refine own_st (fun _ kS => XS.ifNo X4.here hx rfl (hb hby d15_87) rfl ((if0 _ _).trans (feq (by decide : ¬ ((1 : Int32) = (0 : Int32)))).1) kS) ?_
  show gs T4 m 90 #[vi 2, .val (.long q1), .second, vi 2, .val (.long q2), .second, vi 1, vi 0, vi 1] []
  refine oiload X4 hx hby d15_90 rfl ?_
  refine own_st (fun _ kS => XS.ifYes X4.here hx rfl (pc0 := 92) (pc' := 104) rfl (hb hby d15_92) rfl ((if0 _ _).trans (teq (by decide : (0 : Int32) = (0 : Int32))).1) (by decide) (by decide) kS) ?_
  show gs T4 m 104 #[vi 2, .val (.long q1), .second, vi 2, .val (.long q2), .second, vi 1, vi 0, vi 1] []
  refine oiconst X4 hx hby d15_104 ?_
  exact own_retN X4 hx hlk (t := .boolean) hret (by simp) (hb hby d15_105) (by decide) (by decide) (v' := (0 : Int32)) rfl (by rw [eq4]; exact ⟨rfl, N4, rfl⟩)
theorem ef_latE_3_T (m : MethodId) (x0 : Addr) (x1 : Addr) : entryFrame m #[(.ref x0), (.ref x1)] 3 = mkF m 0 #[.val (.ref x0), .val (.ref x1), .unset] [] := by first | (simp [entryFrame, mkF, argsToLocals, Value.category]; done) | rfl
def Q_latE_3_T (Z : State) (t1 : Addr) (t2 : Addr) (k1a : ClassId) (k2a : ClassId) (y0 : Int32) (y1 : Int32) (y2 : Int32) (z0 : Int32) (z1 : Int32) (z2 : Int32) (h0 : Heap) (n0 : Nat) (v : Option Value) (h : Heap) (L : List Loc) : Prop := v = some (.int 1) ∧ Fr n0 L ∧ h = h0
theorem rm_latE_3_T (l : Launch) (Z : State) (a0 : Array Value) (hw : HW a0 Z) (ws : List Jvm.Cond) (t1 : Addr) (t2 : Addr) (k1a : ClassId) (k2a : ClassId) (y0 : Int32) (y1 : Int32) (y2 : Int32) (z0 : Int32) (z1 : Int32) (z2 : Int32) (h0 : Heap) (n0 : Nat) (Z0 : n0 ≤ h0.size) (R_1 : Arv Z h0 t1 k1a .byte (3 : Int32) [(.int y0), (.int y1), (.int y2)] (.int 0)) (R_2 : Arv Z h0 t2 k2a .byte (3 : Int32) [(.int z0), (.int z1), (.int z2)] (.int 0)) (hq0 : y0 = z0) (hq1 : y1 = z1) (hq2 : y2 = z2) :
    M9 l ws (rmk 0 0 0 0) Z #[(.ref t1), (.ref t2)] h0 (Q_latE_3_T Z t1 t2 k1a k2a y0 y1 y2 z0 z1 z2 h0 n0) := by
  refine own_go "java/lang/StringLatin1" rfl (plainFor_of_name pn_16) (fun m => ef_latE_3_T m t1 t2) (fun p e s m below meth c s₁ hx hby hml hown hnm hlk hret hZ X0 e0 => ?_)
  have N0 := Fr.nil n0
  show gs s₁ m 0 #[vr t1, vr t2, .unset] []
  refine oaloadN X0 hx hby d16_0 rfl rfl ?_
  show gs s₁ m 1 #[vr t1, vr t2, .unset] [(.ref t1)]
  obtain ⟨cl1, Ar1, qa1, qs1, qn1, qh1, qg1⟩ := id R_1
  refine own_st (fun _ kS => X0.arraylength hx (by rw [e0]; exact Ar1.1) (State.isArrayOf_alike hZ.alike Ar1.2.1) (g := (mkF m 1 #[vr t1, vr t2, .unset] [(.ref t1)])) rfl rfl (hb hby d16_1) _ kS) ?_
  rw [len_of qs1 qn1]
  show gs s₁ m 2 #[vr t1, vr t2, .unset] [(.int 3)]
  refine oaloadN X0 hx hby d16_2 rfl rfl ?_
  show gs s₁ m 3 #[vr t1, vr t2, .unset] [(.ref t2), (.int 3)]
  obtain ⟨cl2, Ar2, qa2, qs2, qn2, qh2, qg2⟩ := id R_2
  refine own_st (fun _ kS => X0.arraylength hx (by rw [e0]; exact Ar2.1) (State.isArrayOf_alike hZ.alike Ar2.2.1) (g := (mkF m 3 #[vr t1, vr t2, .unset] [(.ref t2), (.int 3)])) rfl rfl (hb hby d16_3) _ kS) ?_
  rw [len_of qs2 qn2]
  show gs s₁ m 4 #[vr t1, vr t2, .unset] [(.int 3), (.int 3)]
  refine own_st (fun _ kS => XS.icmpNo X0.here hx rfl (hb hby d16_4) rfl (teq (by decide : (3 : Int32) = (3 : Int32))).2 kS) ?_
  show gs s₁ m 7 #[vr t1, vr t2, .unset] []
  refine oiconst X0 hx hby d16_7 ?_
  refine own_st (fun _ kS => XS.istoreN X0.here hx rfl (hb hby d16_8) rfl (l' := #[vr t1, vr t2, vi 0]) rfl kS) ?_
  refine oiloadN X0 hx hby d16_9 rfl ?_
  refine oaloadN X0 hx hby d16_10 rfl rfl ?_
  show gs s₁ m 11 #[vr t1, vr t2, vi 0] [(.ref t1), (.int 0)]
  obtain ⟨cl3, Ar3, qa3, qs3, qn3, qh3, qg3⟩ := id R_1
  refine own_st (fun _ kS => X0.arraylength hx (by rw [e0]; exact Ar3.1) (State.isArrayOf_alike hZ.alike Ar3.2.1) (g := (mkF m 11 #[vr t1, vr t2, vi 0] [(.ref t1), (.int 0)])) rfl rfl (hb hby d16_11) _ kS) ?_
  rw [len_of qs3 qn3]
  show gs s₁ m 12 #[vr t1, vr t2, vi 0] [(.int 3), (.int 0)]
  refine own_st (fun _ kS => XS.icmpNo X0.here hx rfl (hb hby d16_12) rfl (tlt (by decide : (0 : Int32) < (3 : Int32))).2.1 kS) ?_
  show gs s₁ m 15 #[vr t1, vr t2, vi 0] []
  refine oaloadN X0 hx hby d16_15 rfl rfl ?_
  refine oiloadN X0 hx hby d16_16 rfl ?_
  show gs s₁ m 17 #[vr t1, vr t2, vi 0] [(.int 0), (.ref t1)]
  obtain ⟨cl4, Ar4, qa4, qs4, qn4, qh4, qg4⟩ := id R_1
  refine own_st (fun _ kS => X0.baloadBytes hx (j := (0 : Int32)) (v := (.int y0)) (by rw [e0]; exact Ar4.1) (State.isArrayOf_alike hZ.alike Ar4.2.1) Ar4.2.2 (inb_of qs4 ⟨by decide, by decide⟩) (qh4.at (inb_of qs4 ⟨by decide, by decide⟩) rfl) (g := (mkF m 17 #[vr t1, vr t2, vi 0] [(.int 0), (.ref t1)])) rfl rfl (hb hby d16_17) _ kS) ?_
  show gs s₁ m 18 #[vr t1, vr t2, vi 0] [(.int y0)]
  refine oaloadN X0 hx hby d16_18 rfl rfl ?_
  refine oiloadN X0 hx hby d16_19 rfl ?_
  show gs s₁ m 20 #[vr t1, vr t2, vi 0] [(.int 0), (.ref t2), (.int y0)]
  obtain ⟨cl5, Ar5, qa5, qs5, qn5, qh5, qg5⟩ := id R_2
  refine own_st (fun _ kS => X0.baloadBytes hx (j := (0 : Int32)) (v := (.int z0)) (by rw [e0]; exact Ar5.1) (State.isArrayOf_alike hZ.alike Ar5.2.1) Ar5.2.2 (inb_of qs5 ⟨by decide, by decide⟩) (qh5.at (inb_of qs5 ⟨by decide, by decide⟩) rfl) (g := (mkF m 20 #[vr t1, vr t2, vi 0] [(.int 0), (.ref t2), (.int y0)])) rfl rfl (hb hby d16_20) _ kS) ?_
  show gs s₁ m 21 #[vr t1, vr t2, vi 0] [(.int z0), (.int y0)]
  refine own_st (fun _ kS => XS.icmpYes X0.here hx rfl (pc0 := 21) (pc' := 26) rfl (hb hby d16_21) rfl (teq (hq0 : y0 = z0)).1 (by decide) (by decide) kS) ?_
  show gs s₁ m 26 #[vr t1, vr t2, vi 0] []
  refine own_st (fun _ kS => XS.iinc X0.here hx rfl (hb hby d16_26) rfl (l' := #[vr t1, vr t2, vi 1]) rfl kS) ?_
  refine own_st (fun _ kS => XS.goto X0.here hx rfl (pc0 := 29) (pc' := 9) rfl (hb hby d16_29) (by decide) (by decide) kS) ?_
  refine oiloadN X0 hx hby d16_9 rfl ?_
  refine oaloadN X0 hx hby d16_10 rfl rfl ?_
  show gs s₁ m 11 #[vr t1, vr t2, vi 1] [(.ref t1), (.int 1)]
  obtain ⟨cl6, Ar6, qa6, qs6, qn6, qh6, qg6⟩ := id R_1
  refine own_st (fun _ kS => X0.arraylength hx (by rw [e0]; exact Ar6.1) (State.isArrayOf_alike hZ.alike Ar6.2.1) (g := (mkF m 11 #[vr t1, vr t2, vi 1] [(.ref t1), (.int 1)])) rfl rfl (hb hby d16_11) _ kS) ?_
  rw [len_of qs6 qn6]
  show gs s₁ m 12 #[vr t1, vr t2, vi 1] [(.int 3), (.int 1)]
  refine own_st (fun _ kS => XS.icmpNo X0.here hx rfl (hb hby d16_12) rfl (tlt (by decide : (1 : Int32) < (3 : Int32))).2.1 kS) ?_
  show gs s₁ m 15 #[vr t1, vr t2, vi 1] []
  refine oaloadN X0 hx hby d16_15 rfl rfl ?_
  refine oiloadN X0 hx hby d16_16 rfl ?_
  show gs s₁ m 17 #[vr t1, vr t2, vi 1] [(.int 1), (.ref t1)]
  obtain ⟨cl7, Ar7, qa7, qs7, qn7, qh7, qg7⟩ := id R_1
  refine own_st (fun _ kS => X0.baloadBytes hx (j := (1 : Int32)) (v := (.int y1)) (by rw [e0]; exact Ar7.1) (State.isArrayOf_alike hZ.alike Ar7.2.1) Ar7.2.2 (inb_of qs7 ⟨by decide, by decide⟩) (qh7.at (inb_of qs7 ⟨by decide, by decide⟩) rfl) (g := (mkF m 17 #[vr t1, vr t2, vi 1] [(.int 1), (.ref t1)])) rfl rfl (hb hby d16_17) _ kS) ?_
  show gs s₁ m 18 #[vr t1, vr t2, vi 1] [(.int y1)]
  refine oaloadN X0 hx hby d16_18 rfl rfl ?_
  refine oiloadN X0 hx hby d16_19 rfl ?_
  show gs s₁ m 20 #[vr t1, vr t2, vi 1] [(.int 1), (.ref t2), (.int y1)]
  obtain ⟨cl8, Ar8, qa8, qs8, qn8, qh8, qg8⟩ := id R_2
  refine own_st (fun _ kS => X0.baloadBytes hx (j := (1 : Int32)) (v := (.int z1)) (by rw [e0]; exact Ar8.1) (State.isArrayOf_alike hZ.alike Ar8.2.1) Ar8.2.2 (inb_of qs8 ⟨by decide, by decide⟩) (qh8.at (inb_of qs8 ⟨by decide, by decide⟩) rfl) (g := (mkF m 20 #[vr t1, vr t2, vi 1] [(.int 1), (.ref t2), (.int y1)])) rfl rfl (hb hby d16_20) _ kS) ?_
  show gs s₁ m 21 #[vr t1, vr t2, vi 1] [(.int z1), (.int y1)]
  refine own_st (fun _ kS => XS.icmpYes X0.here hx rfl (pc0 := 21) (pc' := 26) rfl (hb hby d16_21) rfl (teq (hq1 : y1 = z1)).1 (by decide) (by decide) kS) ?_
  show gs s₁ m 26 #[vr t1, vr t2, vi 1] []
  refine own_st (fun _ kS => XS.iinc X0.here hx rfl (hb hby d16_26) rfl (l' := #[vr t1, vr t2, vi 2]) rfl kS) ?_
  refine own_st (fun _ kS => XS.goto X0.here hx rfl (pc0 := 29) (pc' := 9) rfl (hb hby d16_29) (by decide) (by decide) kS) ?_
  refine oiloadN X0 hx hby d16_9 rfl ?_
  refine oaloadN X0 hx hby d16_10 rfl rfl ?_
  show gs s₁ m 11 #[vr t1, vr t2, vi 2] [(.ref t1), (.int 2)]
  obtain ⟨cl9, Ar9, qa9, qs9, qn9, qh9, qg9⟩ := id R_1
  refine own_st (fun _ kS => X0.arraylength hx (by rw [e0]; exact Ar9.1) (State.isArrayOf_alike hZ.alike Ar9.2.1) (g := (mkF m 11 #[vr t1, vr t2, vi 2] [(.ref t1), (.int 2)])) rfl rfl (hb hby d16_11) _ kS) ?_
  rw [len_of qs9 qn9]
  show gs s₁ m 12 #[vr t1, vr t2, vi 2] [(.int 3), (.int 2)]
  refine own_st (fun _ kS => XS.icmpNo X0.here hx rfl (hb hby d16_12) rfl (tlt (by decide : (2 : Int32) < (3 : Int32))).2.1 kS) ?_
  show gs s₁ m 15 #[vr t1, vr t2, vi 2] []
  refine oaloadN X0 hx hby d16_15 rfl rfl ?_
  refine oiloadN X0 hx hby d16_16 rfl ?_
  show gs s₁ m 17 #[vr t1, vr t2, vi 2] [(.int 2), (.ref t1)]
  obtain ⟨cl10, Ar10, qa10, qs10, qn10, qh10, qg10⟩ := id R_1
  refine own_st (fun _ kS => X0.baloadBytes hx (j := (2 : Int32)) (v := (.int y2)) (by rw [e0]; exact Ar10.1) (State.isArrayOf_alike hZ.alike Ar10.2.1) Ar10.2.2 (inb_of qs10 ⟨by decide, by decide⟩) (qh10.at (inb_of qs10 ⟨by decide, by decide⟩) rfl) (g := (mkF m 17 #[vr t1, vr t2, vi 2] [(.int 2), (.ref t1)])) rfl rfl (hb hby d16_17) _ kS) ?_
  show gs s₁ m 18 #[vr t1, vr t2, vi 2] [(.int y2)]
  refine oaloadN X0 hx hby d16_18 rfl rfl ?_
  refine oiloadN X0 hx hby d16_19 rfl ?_
  show gs s₁ m 20 #[vr t1, vr t2, vi 2] [(.int 2), (.ref t2), (.int y2)]
  obtain ⟨cl11, Ar11, qa11, qs11, qn11, qh11, qg11⟩ := id R_2
  refine own_st (fun _ kS => X0.baloadBytes hx (j := (2 : Int32)) (v := (.int z2)) (by rw [e0]; exact Ar11.1) (State.isArrayOf_alike hZ.alike Ar11.2.1) Ar11.2.2 (inb_of qs11 ⟨by decide, by decide⟩) (qh11.at (inb_of qs11 ⟨by decide, by decide⟩) rfl) (g := (mkF m 20 #[vr t1, vr t2, vi 2] [(.int 2), (.ref t2), (.int y2)])) rfl rfl (hb hby d16_20) _ kS) ?_
  show gs s₁ m 21 #[vr t1, vr t2, vi 2] [(.int z2), (.int y2)]
  refine own_st (fun _ kS => XS.icmpYes X0.here hx rfl (pc0 := 21) (pc' := 26) rfl (hb hby d16_21) rfl (teq (hq2 : y2 = z2)).1 (by decide) (by decide) kS) ?_
  show gs s₁ m 26 #[vr t1, vr t2, vi 2] []
  refine own_st (fun _ kS => XS.iinc X0.here hx rfl (hb hby d16_26) rfl (l' := #[vr t1, vr t2, vi 3]) rfl kS) ?_
  refine own_st (fun _ kS => XS.goto X0.here hx rfl (pc0 := 29) (pc' := 9) rfl (hb hby d16_29) (by decide) (by decide) kS) ?_
  refine oiloadN X0 hx hby d16_9 rfl ?_
  refine oaloadN X0 hx hby d16_10 rfl rfl ?_
  show gs s₁ m 11 #[vr t1, vr t2, vi 3] [(.ref t1), (.int 3)]
  obtain ⟨cl12, Ar12, qa12, qs12, qn12, qh12, qg12⟩ := id R_1
  refine own_st (fun _ kS => X0.arraylength hx (by rw [e0]; exact Ar12.1) (State.isArrayOf_alike hZ.alike Ar12.2.1) (g := (mkF m 11 #[vr t1, vr t2, vi 3] [(.ref t1), (.int 3)])) rfl rfl (hb hby d16_11) _ kS) ?_
  rw [len_of qs12 qn12]
  show gs s₁ m 12 #[vr t1, vr t2, vi 3] [(.int 3), (.int 3)]
  refine own_st (fun _ kS => XS.icmpYes X0.here hx rfl (pc0 := 12) (pc' := 32) rfl (hb hby d16_12) rfl (flt (by decide : ¬ ((3 : Int32) < (3 : Int32)))).2.1 (by decide) (by decide) kS) ?_
  show gs s₁ m 32 #[vr t1, vr t2, vi 3] []
  refine oiconst X0 hx hby d16_32 ?_
  exact own_retN X0 hx hlk (t := .boolean) hret (by simp) (hb hby d16_33) (by decide) (by decide) (v' := (1 : Int32)) rfl (by rw [e0]; exact ⟨rfl, N0, rfl⟩)
theorem ef_strE_3_T (m : MethodId) (x0 : Addr) (x1 : Addr) : entryFrame m #[(.ref x0), (.ref x1)] 3 = mkF m 0 #[.val (.ref x0), .val (.ref x1), .unset] [] := by first | (simp [entryFrame, mkF, argsToLocals, Value.category]; done) | rfl
def Q_strE_3_T (Z : State) (s1 : Addr) (s2 : Addr) (t1 : Addr) (t2 : Addr) (k1a : ClassId) (k2a : ClassId) (y0 : Int32) (y1 : Int32) (y2 : Int32) (z0 : Int32) (z1 : Int32) (z2 : Int32) (zCS : Int32) (h0 : Heap) (n0 : Nat) (v : Option Value) (h : Heap) (L : List Loc) : Prop := v = some (.int 1) ∧ Fr n0 L ∧ h = h0
theorem rm_strE_3_T (l : Launch) (Z : State) (a0 : Array Value) (hw : HW a0 Z) (ws : List Jvm.Cond) (s1 : Addr) (s2 : Addr) (t1 : Addr) (t2 : Addr) (k1a : ClassId) (k2a : ClassId) (y0 : Int32) (y1 : Int32) (y2 : Int32) (z0 : Int32) (z1 : Int32) (z2 : Int32) (zCS : Int32) (h0 : Heap) (n0 : Nat) (Z0 : n0 ≤ h0.size) (O0 : Old Z n0 h0) (ne12 : s1 ≠ s2) (E_1 : ek21 Z h0 s1) (E_2 : ek21 Z h0 s2) (F1v : fk17 Z h0 s1 (.ref t1)) (F2v : fk17 Z h0 s2 (.ref t2)) (F1c : fk16 Z h0 s1 (.int 0)) (F2c : fk16 Z h0 s2 (.int 0)) (R_1 : Arv Z h0 t1 k1a .byte (3 : Int32) [(.int y0), (.int y1), (.int y2)] (.int 0)) (R_2 : Arv Z h0 t2 k2a .byte (3 : Int32) [(.int z0), (.int z1), (.int z2)] (.int 0)) (hq0 : y0 = z0) (hq1 : y1 = z1) (hq2 : y2 = z2) (S_CS : sk0 Z Z.heap (.int zCS)) (P_CS : ¬ zCS = 0) :
    M10 l ws (rmk 1 0 0 14) Z #[(.ref s1), (.ref s2)] h0 (Q_strE_3_T Z s1 s2 t1 t2 k1a k2a y0 y1 y2 z0 z1 z2 zCS h0 n0) := by
  refine own_go "java/lang/String" rfl (plainFor_of_name pn_13) (fun m => ef_strE_3_T m s1 s2) (fun p e s m below meth c s₁ hx hby hml hown hnm hlk hret hZ X0 e0 => ?_)
  have N0 := Fr.nil n0
  show gs s₁ m 0 #[vr s1, vr s2, .unset] []
  refine oaloadN X0 hx hby d13_0 rfl rfl ?_
  refine oaloadN X0 hx hby d13_1 rfl rfl ?_
  show gs s₁ m 2 #[vr s1, vr s2, .unset] [(.ref s2), (.ref s1)]
  refine own_st (fun _ kS => Jvm.RoadKit.acmp (g := (mkF m 2 #[vr s1, vr s2, .unset] [(.ref s2), (.ref s1)])) X0 hx rfl rfl rfl (pc0 := 2) (pc' := 7) (same := false) rfl (hb hby d13_2) rfl (decide_eq_false fun q => ne12 (Value.ref.inj q)) (by decide) (by decide) kS) ?_
  show gs s₁ m 7 #[vr s1, vr s2, .unset] []
  refine oaloadN X0 hx hby d13_7 rfl rfl ?_
  obtain ⟨T1, X1, e1, st1⟩ := instY X0 hx hZ hown (own_w hw 120 rfl) e0 (Ins.self E_2) (g := (mkF m 8 #[vr s1, vr s2, .unset] [(.ref s2)])) rfl rfl (hb hby d13_8)
  refine own_st st1 ?_
  show gs T1 m 11 #[vr s1, vr s2, .unset] [(.int 1)]
  refine own_st (fun _ kS => XS.ifNo X1.here hx rfl (hb hby d13_11) rfl ((if0 _ _).trans (feq (by decide : ¬ ((1 : Int32) = (0 : Int32)))).1) kS) ?_
  show gs T1 m 14 #[vr s1, vr s2, .unset] []
  refine oaloadN X1 hx hby d13_14 rfl rfl ?_
  obtain ⟨T2, X2, e2, st2⟩ := castY X1 hx hZ hown (own_w hw 120 rfl) e1 (Ins.self E_2) (g := (mkF m 15 #[vr s1, vr s2, .unset] [(.ref s2)])) rfl rfl (hb hby d13_15)
  refine own_st st2 ?_
  show gs T2 m 18 #[vr s1, vr s2, .unset] [(.ref s2)]
  refine own_st (fun _ kS => XS.astoreN X2.here hx rfl (hb hby d13_18) rfl rfl (l' := #[vr s1, vr s2, vr s2]) rfl kS) ?_
  show gs T2 m 19 #[vr s1, vr s2, vr s2] []
  obtain ⟨T3, X3, e3, st3⟩ := getS2 X2 hx hZ hown (host := "") (Or.inl (own_w hw 63 rfl)) Via.refl e2 (Sta.ext O0.2 S_CS) (g := (mkF m 19 #[vr s1, vr s2, vr s2] [])) rfl (hb hby d13_19)
  refine own_st st3 ?_
  show gs T3 m 22 #[vr s1, vr s2, vr s2] [(.int zCS)]
  refine own_st (fun _ kS => XS.ifNo X3.here hx rfl (hb hby d13_22) rfl ((if0 _ _).trans (feq (P_CS : ¬ (zCS = (0 : Int32)))).1) kS) ?_
  show gs T3 m 25 #[vr s1, vr s2, vr s2] []
  refine oaloadN X3 hx hby d13_25 rfl rfl ?_
  obtain ⟨T4, X4, e4, st4⟩ := getF X3 hx hZ hown (host := "") (Or.inl (own_w hw 75 rfl)) Via.refl e3 F1c (g := (mkF m 26 #[vr s1, vr s2, vr s2] [(.ref s1)])) rfl rfl (hb hby d13_26)
  refine own_st st4 ?_
  show gs T4 m 29 #[vr s1, vr s2, vr s2] [(.int 0)]
  refine oaloadN X4 hx hby d13_29 rfl rfl ?_
  obtain ⟨T5, X5, e5, st5⟩ := getF X4 hx hZ hown (host := "") (Or.inl (own_w hw 75 rfl)) Via.refl e4 F2c (g := (mkF m 30 #[vr s1, vr s2, vr s2] [(.ref s2), (.int 0)])) rfl rfl (hb hby d13_30)
  refine own_st st5 ?_
  show gs T5 m 33 #[vr s1, vr s2, vr s2] [(.int 0), (.int 0)]
  refine own_st (fun _ kS => XS.icmpNo X5.here hx rfl (hb hby d13_33) rfl (teq (by decide : (0 : Int32) = (0 : Int32))).2 kS) ?_
  show gs T5 m 36 #[vr s1, vr s2, vr s2] []
  refine oaloadN X5 hx hby d13_36 rfl rfl ?_
  obtain ⟨T6, X6, e6, st6⟩ := getF X5 hx hZ hown (host := "") (Or.inl (own_w hw 77 rfl)) Via.refl e5 F1v (g := (mkF m 37 #[vr s1, vr s2, vr s2] [(.ref s1)])) rfl rfl (hb hby d13_37)
  refine own_st st6 ?_
  show gs T6 m 40 #[vr s1, vr s2, vr s2] [(.ref t1)]
  refine oaloadN X6 hx hby d13_40 rfl rfl ?_
  obtain ⟨T7, X7, e7, st7⟩ := getF X6 hx hZ hown (host := "") (Or.inl (own_w hw 77 rfl)) Via.refl e6 F2v (g := (mkF m 41 #[vr s1, vr s2, vr s2] [(.ref s2), (.ref t1)])) rfl rfl (hb hby d13_41)
  refine own_st st7 ?_
  show gs T7 m 44 #[vr s1, vr s2, vr s2] [(.ref t2), (.ref t1)]
  refine oS 0 X7 hx hZ hby hml hown (own_w hw 121 rfl) (own_w hw 122 rfl) (own_w hw 123 rfl) (own_w hw 124 rfl) (rm_latE_3_T l Z a0 hw [] t1 t2 k1a k2a y0 y1 y2 z0 z1 z2 h0 n0 Z0  R_1 R_2 hq0 hq1 hq2) e7 (by decide) own_pd7 d13_44 rfl rfl rfl (fun T8 L8 v8 X8 hQ8 => ?_)
  obtain ⟨rfl, Nq8, eq8⟩ := hQ8
  have N8 := Fr.app N0 Nq8
  show gs T8 m 47 #[vr s1, vr s2, vr s2] [(.int 1)]
  refine own_st (fun _ kS => XS.ifNo X8.here hx rfl (hb hby d13_47) rfl ((if0 _ _).trans (feq (by decide : ¬ ((1 : Int32) = (0 : Int32)))).1) kS) ?_
  show gs T8 m 50 #[vr s1, vr s2, vr s2] []
  refine oiconst X8 hx hby d13_50 ?_
  refine own_st (fun _ kS => XS.goto X8.here hx rfl (pc0 := 51) (pc' := 55) rfl (hb hby d13_51) (by decide) (by decide) kS) ?_
  show gs T8 m 55 #[vr s1, vr s2, vr s2] [(.int 1)]
  exact own_retN X8 hx hlk (t := .boolean) hret (by simp) (hb hby d13_55) (by decide) (by decide) (v' := (1 : Int32)) rfl (by rw [eq8]; exact ⟨rfl, N8, rfl⟩)
theorem ef_dcE_3_T (m : MethodId) (x0 : Addr) (x1 : Addr) : entryFrame m #[(.ref x0), (.ref x1)] 3 = mkF m 0 #[.val (.ref x0), .val (.ref x1), .unset] [] := by first | (simp [entryFrame, mkF, argsToLocals, Value.category]; done) | rfl
def Q_dcE_3_T (Z : State) (a1 : Addr) (a2 : Addr) (v1 : Addr) (s1 : Addr) (s2 : Addr) (t1 : Addr) (t2 : Addr) (k1a : ClassId) (k2a : ClassId) (y0 : Int32) (y1 : Int32) (y2 : Int32) (z0 : Int32) (z1 : Int32) (z2 : Int32) (zCS : Int32) (h0 : Heap) (n0 : Nat) (v : Option Value) (h : Heap) (L : List Loc) : Prop := v = some (.int 1) ∧ Fr n0 L ∧ h = h0
theorem rm_dcE_3_T (l : Launch) (Z : State) (a0 : Array Value) (hw : HW a0 Z) (ws : List Jvm.Cond) (a1 : Addr) (a2 : Addr) (v1 : Addr) (s1 : Addr) (s2 : Addr) (t1 : Addr) (t2 : Addr) (k1a : ClassId) (k2a : ClassId) (y0 : Int32) (y1 : Int32) (y2 : Int32) (z0 : Int32) (z1 : Int32) (z2 : Int32) (zCS : Int32) (h0 : Heap) (n0 : Nat) (Z0 : n0 ≤ h0.size) (O0 : Old Z n0 h0) (E_a : ek22 Z h0 a1) (E_b : ek22 Z h0 a2) (Fe1 : fk18 Z h0 a1 (.ref v1)) (Ft1 : fk19 Z h0 a1 (.ref s1)) (Fe2 : fk18 Z h0 a2 (.ref v1)) (Ft2 : fk19 Z h0 a2 (.ref s2)) (ne12 : s1 ≠ s2) (E_1 : ek21 Z h0 s1) (E_2 : ek21 Z h0 s2) (F1v : fk17 Z h0 s1 (.ref t1)) (F2v : fk17 Z h0 s2 (.ref t2)) (F1c : fk16 Z h0 s1 (.int 0)) (F2c : fk16 Z h0 s2 (.int 0)) (R_1 : Arv Z h0 t1 k1a .byte (3 : Int32) [(.int y0), (.int y1), (.int y2)] (.int 0)) (R_2 : Arv Z h0 t2 k2a .byte (3 : Int32) [(.int z0), (.int z1), (.int z2)] (.int 0)) (hq0 : y0 = z0) (hq1 : y1 = z1) (hq2 : y2 = z2) (S_CS : sk0 Z Z.heap (.int zCS)) (P_CS : ¬ zCS = 0) :
    M11 l ws (rmk 2 0 0 28) Z #[(.ref a1), (.ref a2)] h0 (Q_dcE_3_T Z a1 a2 v1 s1 s2 t1 t2 k1a k2a y0 y1 y2 z0 z1 z2 zCS h0 n0) := by
  refine own_go "com/example/cartouche/cartouche/crosswalks/DcValue" rfl (plainFor_of_name pn_12) (fun m => ef_dcE_3_T m a1 a2) (fun p e s m below meth c s₁ hx hby hml hown hnm hlk hret hZ X0 e0 => ?_)
  have N0 := Fr.nil n0
  show gs s₁ m 0 #[vr a1, vr a2, .unset] []
  refine oaloadN X0 hx hby d12_0 rfl rfl ?_
  obtain ⟨T1, X1, e1, st1⟩ := instY X0 hx hZ hown (own_w hw 103 rfl) e0 (Ins.self E_b) (g := (mkF m 1 #[vr a1, vr a2, .unset] [(.ref a2)])) rfl rfl (hb hby d12_1)
  refine own_st st1 ?_
  show gs T1 m 4 #[vr a1, vr a2, .unset] [(.int 1)]
  refine own_st (fun _ kS => XS.ifNo X1.here hx rfl (hb hby d12_4) rfl ((if0 _ _).trans (feq (by decide : ¬ ((1 : Int32) = (0 : Int32)))).1) kS) ?_
  show gs T1 m 7 #[vr a1, vr a2, .unset] []
  refine oaloadN X1 hx hby d12_7 rfl rfl ?_
  obtain ⟨T2, X2, e2, st2⟩ := castY X1 hx hZ hown (own_w hw 103 rfl) e1 (Ins.self E_b) (g := (mkF m 8 #[vr a1, vr a2, .unset] [(.ref a2)])) rfl rfl (hb hby d12_8)
  refine own_st st2 ?_
  show gs T2 m 11 #[vr a1, vr a2, .unset] [(.ref a2)]
  refine own_st (fun _ kS => XS.astoreN X2.here hx rfl (hb hby d12_11) rfl rfl (l' := #[vr a1, vr a2, vr a2]) rfl kS) ?_
  refine oaloadN X2 hx hby d12_12 rfl rfl ?_
  obtain ⟨T3, X3, e3, st3⟩ := getF X2 hx hZ hown (host := "") (Or.inl (own_w hw 91 rfl)) Via.refl e2 Fe1 (g := (mkF m 13 #[vr a1, vr a2, vr a2] [(.ref a1)])) rfl rfl (hb hby d12_13)
  refine own_st st3 ?_
  show gs T3 m 16 #[vr a1, vr a2, vr a2] [(.ref v1)]
  refine oaloadN X3 hx hby d12_16 rfl rfl ?_
  obtain ⟨T4, X4, e4, st4⟩ := getF X3 hx hZ hown (host := "") (Or.inl (own_w hw 91 rfl)) Via.refl e3 Fe2 (g := (mkF m 17 #[vr a1, vr a2, vr a2] [(.ref a2), (.ref v1)])) rfl rfl (hb hby d12_17)
  refine own_st st4 ?_
  show gs T4 m 20 #[vr a1, vr a2, vr a2] [(.ref v1), (.ref v1)]
  refine own_st (fun _ kS => Jvm.RoadKit.acmp (g := (mkF m 20 #[vr a1, vr a2, vr a2] [(.ref v1), (.ref v1)])) X4 hx rfl rfl rfl (pc0 := 20) (pc' := 23) (same := true) rfl (hb hby d12_20) rfl (decide_eq_true rfl) (by decide) (by decide) kS) ?_
  show gs T4 m 23 #[vr a1, vr a2, vr a2] []
  refine oaloadN X4 hx hby d12_23 rfl rfl ?_
  obtain ⟨T5, X5, e5, st5⟩ := getF X4 hx hZ hown (host := "") (Or.inl (own_w hw 95 rfl)) Via.refl e4 Ft1 (g := (mkF m 24 #[vr a1, vr a2, vr a2] [(.ref a1)])) rfl rfl (hb hby d12_24)
  refine own_st st5 ?_
  show gs T5 m 27 #[vr a1, vr a2, vr a2] [(.ref s1)]
  refine oaloadN X5 hx hby d12_27 rfl rfl ?_
  obtain ⟨T6, X6, e6, st6⟩ := getF X5 hx hZ hown (host := "") (Or.inl (own_w hw 95 rfl)) Via.refl e5 Ft2 (g := (mkF m 28 #[vr a1, vr a2, vr a2] [(.ref a2), (.ref s1)])) rfl rfl (hb hby d12_28)
  refine own_st st6 ?_
  show gs T6 m 31 #[vr a1, vr a2, vr a2] [(.ref s2), (.ref s1)]
  refine oV 0 X6 hx hZ hby hml hown (own_w hw 105 rfl) (own_w hw 106 rfl) (own_w hw 108 rfl) (own_w hw 107 rfl) (rm_strE_3_T l Z a0 hw [] s1 s2 t1 t2 k1a k2a y0 y1 y2 z0 z1 z2 zCS h0 n0 Z0 O0 ne12 E_1 E_2 F1v F2v F1c F2c R_1 R_2 hq0 hq1 hq2 S_CS P_CS) (own_w hw 109 rfl) (own_w hw 47 rfl) e6 E_1 (by decide) own_pd8 d12_31 rfl rfl rfl (fun T7 L7 v7 X7 hQ7 => ?_)
  obtain ⟨rfl, Nq7, eq7⟩ := hQ7
  have N7 := Fr.app N0 Nq7
  show gs T7 m 34 #[vr a1, vr a2, vr a2] [(.int 1)]
  refine own_st (fun _ kS => XS.ifNo X7.here hx rfl (hb hby d12_34) rfl ((if0 _ _).trans (feq (by decide : ¬ ((1 : Int32) = (0 : Int32)))).1) kS) ?_
  show gs T7 m 37 #[vr a1, vr a2, vr a2] []
  refine oiconst X7 hx hby d12_37 ?_
  refine own_st (fun _ kS => XS.goto X7.here hx rfl (pc0 := 38) (pc' := 42) rfl (hb hby d12_38) (by decide) (by decide) kS) ?_
  show gs T7 m 42 #[vr a1, vr a2, vr a2] [(.int 1)]
  exact own_retN X7 hx hlk (t := .boolean) hret (by simp) (hb hby d12_42) (by decide) (by decide) (v' := (1 : Int32)) rfl (by rw [eq7]; exact ⟨rfl, N7, rfl⟩)
theorem ef_samT_3_T (m : MethodId) (x0 : Int64) (x1 : Int64) : entryFrame m #[(.int 3), (.long x0), (.int 3), (.long x1)] 9 = mkF m 0 #[.val (.int 3), .val (.long x0), .second, .val (.int 3), .val (.long x1), .second, .unset, .unset, .unset] [] := by first | (simp [entryFrame, mkF, argsToLocals, Value.category]; done) | rfl
def Q_samT_3_T (Z : State) (q1 : Int64) (q2 : Int64) (h0 : Heap) (n0 : Nat) (v : Option Value) (h : Heap) (L : List Loc) : Prop := v = some (.int 1) ∧ Fr n0 L ∧ h = h0
theorem rm_samT_3_T (l : Launch) (Z : State) (a0 : Array Value) (hw : HW a0 Z) (ws : List Jvm.Cond) (q1 : Int64) (q2 : Int64) (h0 : Heap) (n0 : Nat) (Z0 : n0 ≤ h0.size) (hq0 : (own_ch q1 (0 : Int32)) = (own_ch q2 (0 : Int32))) (hq1 : (own_ch q1 (1 : Int32)) = (own_ch q2 (1 : Int32))) (hq2 : (own_ch q1 (2 : Int32)) = (own_ch q2 (2 : Int32))) :
    M12 l ws (rmk 1 0 0 15) Z #[(.int 3), (.long q1), (.int 3), (.long q2)] h0 (Q_samT_3_T Z q1 q2 h0 n0) := by
  refine own_go "com/example/cartouche/cartouche/crosswalks/DcValueEqualsPinLaw" rfl (plainFor_of_name pn_15) (fun m => ef_samT_3_T m q1 q2) (fun p e s m below meth c s₁ hx hby hml hown hnm hlk hret hZ X0 e0 => ?_)
  have N0 := Fr.nil n0
  show gs s₁ m 0 #[vi 3, .val (.long q1), .second, vi 3, .val (.long q2), .second, .unset, .unset, .unset] []
  refine oiloadN X0 hx hby d15_0 rfl ?_
  refine oiloadN X0 hx hby d15_1 rfl ?_
  refine own_st (fun _ kS => XS.icmpYes X0.here hx rfl (pc0 := 2) (pc' := 7) rfl (hb hby d15_2) rfl (teq (by decide : (3 : Int32) = (3 : Int32))).1 (by decide) (by decide) kS) ?_
  show gs s₁ m 7 #[vi 3, .val (.long q1), .second, vi 3, .val (.long q2), .second, .unset, .unset, .unset] []
  refine oiloadN X0 hx hby d15_7 rfl ?_
  refine oiconst X0 hx hby d15_8 ?_
  refine own_st (fun _ kS => XS.icmpNo X0.here hx rfl (hb hby d15_9) rfl (flt (by decide : ¬ ((3 : Int32) < (1 : Int32)))).1 kS) ?_
  show gs s₁ m 12 #[vi 3, .val (.long q1), .second, vi 3, .val (.long q2), .second, .unset, .unset, .unset] []
  refine own_st (fun _ kS => XT.lloadN X0.here hx rfl (hb hby d15_12) rfl kS) ?_
  refine oiconst X0 hx hby d15_13 ?_
  refine oS 0 X0 hx hZ hby hml hown (own_w hw 49 rfl) (own_w hw 50 rfl) (own_w hw 6 rfl) (own_w hw 51 rfl) (rm_ch l Z a0 hw [] q1 (0 : Int32) h0 n0 Z0  ) e0 (by decide) own_pd5 d15_14 rfl rfl rfl (fun T1 L1 v1 X1 hQ1 => ?_)
  obtain ⟨rfl, Nq1, eq1⟩ := hQ1
  have N1 := Fr.app N0 Nq1
  show gs T1 m 17 #[vi 3, .val (.long q1), .second, vi 3, .val (.long q2), .second, .unset, .unset, .unset] [(.int (own_ch q1 (0 : Int32)))]
  refine own_st (fun _ kS => XT.lload X1.here hx rfl (hb hby d15_17) rfl kS) ?_
  refine oiconst X1 hx hby d15_19 ?_
  refine oS 1 X1 hx hZ hby hml hown (own_w hw 49 rfl) (own_w hw 50 rfl) (own_w hw 6 rfl) (own_w hw 51 rfl) (rm_ch l Z a0 hw [] q2 (0 : Int32) h0 n0 Z0  ) eq1 (by decide) own_pd5 d15_20 rfl rfl rfl (fun T2 L2 v2 X2 hQ2 => ?_)
  obtain ⟨rfl, Nq2, eq2⟩ := hQ2
  have N2 := Fr.app N1 Nq2
  show gs T2 m 23 #[vi 3, .val (.long q1), .second, vi 3, .val (.long q2), .second, .unset, .unset, .unset] [(.int (own_ch q2 (0 : Int32))), (.int (own_ch q1 (0 : Int32)))]
  refine own_st (fun _ kS => XS.icmpNo X2.here hx rfl (hb hby d15_23) rfl (teq (hq0 : (own_ch q1 (0 : Int32)) = (own_ch q2 (0 : Int32)))).2 kS) ?_
  show gs T2 m 26 #[vi 3, .val (.long q1), .second, vi 3, .val (.long q2), .second, .unset, .unset, .unset] []
  refine oiconst X2 hx hby d15_26 ?_
  refine own_st (fun _ kS => XS.goto X2.here hx rfl (pc0 := 27) (pc' := 31) rfl (hb hby d15_27) (by decide) (by decide) kS) ?_
  refine own_st (fun _ kS => XS.istore X2.here hx rfl (hb hby d15_31) rfl (l' := #[vi 3, .val (.long q1), .second, vi 3, .val (.long q2), .second, vi 1, .unset, .unset]) rfl kS) ?_
  refine oiloadN X2 hx hby d15_33 rfl ?_
  refine oiconst X2 hx hby d15_34 ?_
  refine own_st (fun _ kS => XS.icmpNo X2.here hx rfl (hb hby d15_35) rfl (flt (by decide : ¬ ((3 : Int32) < (2 : Int32)))).1 kS) ?_
  show gs T2 m 38 #[vi 3, .val (.long q1), .second, vi 3, .val (.long q2), .second, vi 1, .unset, .unset] []
  refine own_st (fun _ kS => XT.lloadN X2.here hx rfl (hb hby d15_38) rfl kS) ?_
  refine oiconst X2 hx hby d15_39 ?_
  refine oS 0 X2 hx hZ hby hml hown (own_w hw 49 rfl) (own_w hw 50 rfl) (own_w hw 6 rfl) (own_w hw 51 rfl) (rm_ch l Z a0 hw [] q1 (1 : Int32) h0 n0 Z0  ) eq2 (by decide) own_pd5 d15_40 rfl rfl rfl (fun T3 L3 v3 X3 hQ3 => ?_)
  obtain ⟨rfl, Nq3, eq3⟩ := hQ3
  have N3 := Fr.app N2 Nq3
  show gs T3 m 43 #[vi 3, .val (.long q1), .second, vi 3, .val (.long q2), .second, vi 1, .unset, .unset] [(.int (own_ch q1 (1 : Int32)))]
  refine own_st (fun _ kS => XT.lload X3.here hx rfl (hb hby d15_43) rfl kS) ?_
  refine oiconst X3 hx hby d15_45 ?_
  refine oS 1 X3 hx hZ hby hml hown (own_w hw 49 rfl) (own_w hw 50 rfl) (own_w hw 6 rfl) (own_w hw 51 rfl) (rm_ch l Z a0 hw [] q2 (1 : Int32) h0 n0 Z0  ) eq3 (by decide) own_pd5 d15_46 rfl rfl rfl (fun T4 L4 v4 X4 hQ4 => ?_)
  obtain ⟨rfl, Nq4, eq4⟩ := hQ4
  have N4 := Fr.app N3 Nq4
  show gs T4 m 49 #[vi 3, .val (.long q1), .second, vi 3, .val (.long q2), .second, vi 1, .unset, .unset] [(.int (own_ch q2 (1 : Int32))), (.int (own_ch q1 (1 : Int32)))]
  refine own_st (fun _ kS => XS.icmpNo X4.here hx rfl (hb hby d15_49) rfl (teq (hq1 : (own_ch q1 (1 : Int32)) = (own_ch q2 (1 : Int32)))).2 kS) ?_
  show gs T4 m 52 #[vi 3, .val (.long q1), .second, vi 3, .val (.long q2), .second, vi 1, .unset, .unset] []
  refine oiconst X4 hx hby d15_52 ?_
  refine own_st (fun _ kS => XS.goto X4.here hx rfl (pc0 := 53) (pc' := 57) rfl (hb hby d15_53) (by decide) (by decide) kS) ?_
  refine own_st (fun _ kS => XS.istore X4.here hx rfl (hb hby d15_57) rfl (l' := #[vi 3, .val (.long q1), .second, vi 3, .val (.long q2), .second, vi 1, vi 1, .unset]) rfl kS) ?_
  refine oiloadN X4 hx hby d15_59 rfl ?_
  refine oiconst X4 hx hby d15_60 ?_
  refine own_st (fun _ kS => XS.icmpNo X4.here hx rfl (hb hby d15_61) rfl (flt (by decide : ¬ ((3 : Int32) < (3 : Int32)))).1 kS) ?_
  show gs T4 m 64 #[vi 3, .val (.long q1), .second, vi 3, .val (.long q2), .second, vi 1, vi 1, .unset] []
  refine own_st (fun _ kS => XT.lloadN X4.here hx rfl (hb hby d15_64) rfl kS) ?_
  refine oiconst X4 hx hby d15_65 ?_
  refine oS 0 X4 hx hZ hby hml hown (own_w hw 49 rfl) (own_w hw 50 rfl) (own_w hw 6 rfl) (own_w hw 51 rfl) (rm_ch l Z a0 hw [] q1 (2 : Int32) h0 n0 Z0  ) eq4 (by decide) own_pd5 d15_66 rfl rfl rfl (fun T5 L5 v5 X5 hQ5 => ?_)
  obtain ⟨rfl, Nq5, eq5⟩ := hQ5
  have N5 := Fr.app N4 Nq5
  show gs T5 m 69 #[vi 3, .val (.long q1), .second, vi 3, .val (.long q2), .second, vi 1, vi 1, .unset] [(.int (own_ch q1 (2 : Int32)))]
  refine own_st (fun _ kS => XT.lload X5.here hx rfl (hb hby d15_69) rfl kS) ?_
  refine oiconst X5 hx hby d15_71 ?_
  refine oS 1 X5 hx hZ hby hml hown (own_w hw 49 rfl) (own_w hw 50 rfl) (own_w hw 6 rfl) (own_w hw 51 rfl) (rm_ch l Z a0 hw [] q2 (2 : Int32) h0 n0 Z0  ) eq5 (by decide) own_pd5 d15_72 rfl rfl rfl (fun T6 L6 v6 X6 hQ6 => ?_)
  obtain ⟨rfl, Nq6, eq6⟩ := hQ6
  have N6 := Fr.app N5 Nq6
  show gs T6 m 75 #[vi 3, .val (.long q1), .second, vi 3, .val (.long q2), .second, vi 1, vi 1, .unset] [(.int (own_ch q2 (2 : Int32))), (.int (own_ch q1 (2 : Int32)))]
  refine own_st (fun _ kS => XS.icmpNo X6.here hx rfl (hb hby d15_75) rfl (teq (hq2 : (own_ch q1 (2 : Int32)) = (own_ch q2 (2 : Int32)))).2 kS) ?_
  show gs T6 m 78 #[vi 3, .val (.long q1), .second, vi 3, .val (.long q2), .second, vi 1, vi 1, .unset] []
  refine oiconst X6 hx hby d15_78 ?_
  refine own_st (fun _ kS => XS.goto X6.here hx rfl (pc0 := 79) (pc' := 83) rfl (hb hby d15_79) (by decide) (by decide) kS) ?_
  refine own_st (fun _ kS => XS.istore X6.here hx rfl (hb hby d15_83) rfl (l' := #[vi 3, .val (.long q1), .second, vi 3, .val (.long q2), .second, vi 1, vi 1, vi 1]) rfl kS) ?_
  refine oiload X6 hx hby d15_85 rfl ?_
  refine own_st (fun _ kS => XS.ifNo X6.here hx rfl (hb hby d15_87) rfl ((if0 _ _).trans (feq (by decide : ¬ ((1 : Int32) = (0 : Int32)))).1) kS) ?_
  show gs T6 m 90 #[vi 3, .val (.long q1), .second, vi 3, .val (.long q2), .second, vi 1, vi 1, vi 1] []
  refine oiload X6 hx hby d15_90 rfl ?_
  refine own_st (fun _ kS => XS.ifNo X6.here hx rfl (hb hby d15_92) rfl ((if0 _ _).trans (feq (by decide : ¬ ((1 : Int32) = (0 : Int32)))).1) kS) ?_
  show gs T6 m 95 #[vi 3, .val (.long q1), .second, vi 3, .val (.long q2), .second, vi 1, vi 1, vi 1] []
  refine oiload X6 hx hby d15_95 rfl ?_
  refine own_st (fun _ kS => XS.ifNo X6.here hx rfl (hb hby d15_97) rfl ((if0 _ _).trans (feq (by decide : ¬ ((1 : Int32) = (0 : Int32)))).1) kS) ?_
  show gs T6 m 100 #[vi 3, .val (.long q1), .second, vi 3, .val (.long q2), .second, vi 1, vi 1, vi 1] []
  refine oiconst X6 hx hby d15_100 ?_
  refine own_st (fun _ kS => XS.goto X6.here hx rfl (pc0 := 101) (pc' := 105) rfl (hb hby d15_101) (by decide) (by decide) kS) ?_
  show gs T6 m 105 #[vi 3, .val (.long q1), .second, vi 3, .val (.long q2), .second, vi 1, vi 1, vi 1] [(.int 1)]
  exact own_retN X6 hx hlk (t := .boolean) hret (by simp) (hb hby d15_105) (by decide) (by decide) (v' := (1 : Int32)) rfl (by rw [eq6]; exact ⟨rfl, N6, rfl⟩)
theorem ef_latE_3_0 (m : MethodId) (x0 : Addr) (x1 : Addr) : entryFrame m #[(.ref x0), (.ref x1)] 3 = mkF m 0 #[.val (.ref x0), .val (.ref x1), .unset] [] := by first | (simp [entryFrame, mkF, argsToLocals, Value.category]; done) | rfl
def Q_latE_3_0 (Z : State) (t1 : Addr) (t2 : Addr) (k1a : ClassId) (k2a : ClassId) (y0 : Int32) (y1 : Int32) (y2 : Int32) (z0 : Int32) (z1 : Int32) (z2 : Int32) (h0 : Heap) (n0 : Nat) (v : Option Value) (h : Heap) (L : List Loc) : Prop := v = some (.int 0) ∧ Fr n0 L ∧ h = h0
theorem rm_latE_3_0 (l : Launch) (Z : State) (a0 : Array Value) (hw : HW a0 Z) (ws : List Jvm.Cond) (t1 : Addr) (t2 : Addr) (k1a : ClassId) (k2a : ClassId) (y0 : Int32) (y1 : Int32) (y2 : Int32) (z0 : Int32) (z1 : Int32) (z2 : Int32) (h0 : Heap) (n0 : Nat) (Z0 : n0 ≤ h0.size) (R_1 : Arv Z h0 t1 k1a .byte (3 : Int32) [(.int y0), (.int y1), (.int y2)] (.int 0)) (R_2 : Arv Z h0 t2 k2a .byte (3 : Int32) [(.int z0), (.int z1), (.int z2)] (.int 0)) (hq0 : ¬ (y0 = z0)) :
    M9 l ws (rmk 0 0 0 0) Z #[(.ref t1), (.ref t2)] h0 (Q_latE_3_0 Z t1 t2 k1a k2a y0 y1 y2 z0 z1 z2 h0 n0) := by
  refine own_go "java/lang/StringLatin1" rfl (plainFor_of_name pn_16) (fun m => ef_latE_3_0 m t1 t2) (fun p e s m below meth c s₁ hx hby hml hown hnm hlk hret hZ X0 e0 => ?_)
  have N0 := Fr.nil n0
  show gs s₁ m 0 #[vr t1, vr t2, .unset] []
  refine oaloadN X0 hx hby d16_0 rfl rfl ?_
  show gs s₁ m 1 #[vr t1, vr t2, .unset] [(.ref t1)]
  obtain ⟨cl1, Ar1, qa1, qs1, qn1, qh1, qg1⟩ := id R_1
  refine own_st (fun _ kS => X0.arraylength hx (by rw [e0]; exact Ar1.1) (State.isArrayOf_alike hZ.alike Ar1.2.1) (g := (mkF m 1 #[vr t1, vr t2, .unset] [(.ref t1)])) rfl rfl (hb hby d16_1) _ kS) ?_
  rw [len_of qs1 qn1]
  show gs s₁ m 2 #[vr t1, vr t2, .unset] [(.int 3)]
  refine oaloadN X0 hx hby d16_2 rfl rfl ?_
  show gs s₁ m 3 #[vr t1, vr t2, .unset] [(.ref t2), (.int 3)]
  obtain ⟨cl2, Ar2, qa2, qs2, qn2, qh2, qg2⟩ := id R_2
  refine own_st (fun _ kS => X0.arraylength hx (by rw [e0]; exact Ar2.1) (State.isArrayOf_alike hZ.alike Ar2.2.1) (g := (mkF m 3 #[vr t1, vr t2, .unset] [(.ref t2), (.int 3)])) rfl rfl (hb hby d16_3) _ kS) ?_
  rw [len_of qs2 qn2]
  show gs s₁ m 4 #[vr t1, vr t2, .unset] [(.int 3), (.int 3)]
  refine own_st (fun _ kS => XS.icmpNo X0.here hx rfl (hb hby d16_4) rfl (teq (by decide : (3 : Int32) = (3 : Int32))).2 kS) ?_
  show gs s₁ m 7 #[vr t1, vr t2, .unset] []
  refine oiconst X0 hx hby d16_7 ?_
  refine own_st (fun _ kS => XS.istoreN X0.here hx rfl (hb hby d16_8) rfl (l' := #[vr t1, vr t2, vi 0]) rfl kS) ?_
  refine oiloadN X0 hx hby d16_9 rfl ?_
  refine oaloadN X0 hx hby d16_10 rfl rfl ?_
  show gs s₁ m 11 #[vr t1, vr t2, vi 0] [(.ref t1), (.int 0)]
  obtain ⟨cl3, Ar3, qa3, qs3, qn3, qh3, qg3⟩ := id R_1
  refine own_st (fun _ kS => X0.arraylength hx (by rw [e0]; exact Ar3.1) (State.isArrayOf_alike hZ.alike Ar3.2.1) (g := (mkF m 11 #[vr t1, vr t2, vi 0] [(.ref t1), (.int 0)])) rfl rfl (hb hby d16_11) _ kS) ?_
  rw [len_of qs3 qn3]
  show gs s₁ m 12 #[vr t1, vr t2, vi 0] [(.int 3), (.int 0)]
  refine own_st (fun _ kS => XS.icmpNo X0.here hx rfl (hb hby d16_12) rfl (tlt (by decide : (0 : Int32) < (3 : Int32))).2.1 kS) ?_
  show gs s₁ m 15 #[vr t1, vr t2, vi 0] []
  refine oaloadN X0 hx hby d16_15 rfl rfl ?_
  refine oiloadN X0 hx hby d16_16 rfl ?_
  show gs s₁ m 17 #[vr t1, vr t2, vi 0] [(.int 0), (.ref t1)]
  obtain ⟨cl4, Ar4, qa4, qs4, qn4, qh4, qg4⟩ := id R_1
  refine own_st (fun _ kS => X0.baloadBytes hx (j := (0 : Int32)) (v := (.int y0)) (by rw [e0]; exact Ar4.1) (State.isArrayOf_alike hZ.alike Ar4.2.1) Ar4.2.2 (inb_of qs4 ⟨by decide, by decide⟩) (qh4.at (inb_of qs4 ⟨by decide, by decide⟩) rfl) (g := (mkF m 17 #[vr t1, vr t2, vi 0] [(.int 0), (.ref t1)])) rfl rfl (hb hby d16_17) _ kS) ?_
  show gs s₁ m 18 #[vr t1, vr t2, vi 0] [(.int y0)]
  refine oaloadN X0 hx hby d16_18 rfl rfl ?_
  refine oiloadN X0 hx hby d16_19 rfl ?_
  show gs s₁ m 20 #[vr t1, vr t2, vi 0] [(.int 0), (.ref t2), (.int y0)]
  obtain ⟨cl5, Ar5, qa5, qs5, qn5, qh5, qg5⟩ := id R_2
  refine own_st (fun _ kS => X0.baloadBytes hx (j := (0 : Int32)) (v := (.int z0)) (by rw [e0]; exact Ar5.1) (State.isArrayOf_alike hZ.alike Ar5.2.1) Ar5.2.2 (inb_of qs5 ⟨by decide, by decide⟩) (qh5.at (inb_of qs5 ⟨by decide, by decide⟩) rfl) (g := (mkF m 20 #[vr t1, vr t2, vi 0] [(.int 0), (.ref t2), (.int y0)])) rfl rfl (hb hby d16_20) _ kS) ?_
  show gs s₁ m 21 #[vr t1, vr t2, vi 0] [(.int z0), (.int y0)]
  refine own_st (fun _ kS => XS.icmpNo X0.here hx rfl (hb hby d16_21) rfl (feq (hq0 : ¬ (y0 = z0))).1 kS) ?_
  show gs s₁ m 24 #[vr t1, vr t2, vi 0] []
  refine oiconst X0 hx hby d16_24 ?_
  exact own_retN X0 hx hlk (t := .boolean) hret (by simp) (hb hby d16_25) (by decide) (by decide) (v' := (0 : Int32)) rfl (by rw [e0]; exact ⟨rfl, N0, rfl⟩)
theorem ef_strE_3_0 (m : MethodId) (x0 : Addr) (x1 : Addr) : entryFrame m #[(.ref x0), (.ref x1)] 3 = mkF m 0 #[.val (.ref x0), .val (.ref x1), .unset] [] := by first | (simp [entryFrame, mkF, argsToLocals, Value.category]; done) | rfl
def Q_strE_3_0 (Z : State) (s1 : Addr) (s2 : Addr) (t1 : Addr) (t2 : Addr) (k1a : ClassId) (k2a : ClassId) (y0 : Int32) (y1 : Int32) (y2 : Int32) (z0 : Int32) (z1 : Int32) (z2 : Int32) (zCS : Int32) (h0 : Heap) (n0 : Nat) (v : Option Value) (h : Heap) (L : List Loc) : Prop := v = some (.int 0) ∧ Fr n0 L ∧ h = h0
theorem rm_strE_3_0 (l : Launch) (Z : State) (a0 : Array Value) (hw : HW a0 Z) (ws : List Jvm.Cond) (s1 : Addr) (s2 : Addr) (t1 : Addr) (t2 : Addr) (k1a : ClassId) (k2a : ClassId) (y0 : Int32) (y1 : Int32) (y2 : Int32) (z0 : Int32) (z1 : Int32) (z2 : Int32) (zCS : Int32) (h0 : Heap) (n0 : Nat) (Z0 : n0 ≤ h0.size) (O0 : Old Z n0 h0) (ne12 : s1 ≠ s2) (E_1 : ek21 Z h0 s1) (E_2 : ek21 Z h0 s2) (F1v : fk17 Z h0 s1 (.ref t1)) (F2v : fk17 Z h0 s2 (.ref t2)) (F1c : fk16 Z h0 s1 (.int 0)) (F2c : fk16 Z h0 s2 (.int 0)) (R_1 : Arv Z h0 t1 k1a .byte (3 : Int32) [(.int y0), (.int y1), (.int y2)] (.int 0)) (R_2 : Arv Z h0 t2 k2a .byte (3 : Int32) [(.int z0), (.int z1), (.int z2)] (.int 0)) (hq0 : ¬ (y0 = z0)) (S_CS : sk0 Z Z.heap (.int zCS)) (P_CS : ¬ zCS = 0) :
    M10 l ws (rmk 1 0 0 14) Z #[(.ref s1), (.ref s2)] h0 (Q_strE_3_0 Z s1 s2 t1 t2 k1a k2a y0 y1 y2 z0 z1 z2 zCS h0 n0) := by
  refine own_go "java/lang/String" rfl (plainFor_of_name pn_13) (fun m => ef_strE_3_0 m s1 s2) (fun p e s m below meth c s₁ hx hby hml hown hnm hlk hret hZ X0 e0 => ?_)
  have N0 := Fr.nil n0
  show gs s₁ m 0 #[vr s1, vr s2, .unset] []
  refine oaloadN X0 hx hby d13_0 rfl rfl ?_
  refine oaloadN X0 hx hby d13_1 rfl rfl ?_
  show gs s₁ m 2 #[vr s1, vr s2, .unset] [(.ref s2), (.ref s1)]
  refine own_st (fun _ kS => Jvm.RoadKit.acmp (g := (mkF m 2 #[vr s1, vr s2, .unset] [(.ref s2), (.ref s1)])) X0 hx rfl rfl rfl (pc0 := 2) (pc' := 7) (same := false) rfl (hb hby d13_2) rfl (decide_eq_false fun q => ne12 (Value.ref.inj q)) (by decide) (by decide) kS) ?_
  show gs s₁ m 7 #[vr s1, vr s2, .unset] []
  refine oaloadN X0 hx hby d13_7 rfl rfl ?_
  obtain ⟨T1, X1, e1, st1⟩ := instY X0 hx hZ hown (own_w hw 120 rfl) e0 (Ins.self E_2) (g := (mkF m 8 #[vr s1, vr s2, .unset] [(.ref s2)])) rfl rfl (hb hby d13_8)
  refine own_st st1 ?_
  show gs T1 m 11 #[vr s1, vr s2, .unset] [(.int 1)]
  refine own_st (fun _ kS => XS.ifNo X1.here hx rfl (hb hby d13_11) rfl ((if0 _ _).trans (feq (by decide : ¬ ((1 : Int32) = (0 : Int32)))).1) kS) ?_
  show gs T1 m 14 #[vr s1, vr s2, .unset] []
  refine oaloadN X1 hx hby d13_14 rfl rfl ?_
  obtain ⟨T2, X2, e2, st2⟩ := castY X1 hx hZ hown (own_w hw 120 rfl) e1 (Ins.self E_2) (g := (mkF m 15 #[vr s1, vr s2, .unset] [(.ref s2)])) rfl rfl (hb hby d13_15)
  refine own_st st2 ?_
  show gs T2 m 18 #[vr s1, vr s2, .unset] [(.ref s2)]
  refine own_st (fun _ kS => XS.astoreN X2.here hx rfl (hb hby d13_18) rfl rfl (l' := #[vr s1, vr s2, vr s2]) rfl kS) ?_
  show gs T2 m 19 #[vr s1, vr s2, vr s2] []
  obtain ⟨T3, X3, e3, st3⟩ := getS2 X2 hx hZ hown (host := "") (Or.inl (own_w hw 63 rfl)) Via.refl e2 (Sta.ext O0.2 S_CS) (g := (mkF m 19 #[vr s1, vr s2, vr s2] [])) rfl (hb hby d13_19)
  refine own_st st3 ?_
  show gs T3 m 22 #[vr s1, vr s2, vr s2] [(.int zCS)]
  refine own_st (fun _ kS => XS.ifNo X3.here hx rfl (hb hby d13_22) rfl ((if0 _ _).trans (feq (P_CS : ¬ (zCS = (0 : Int32)))).1) kS) ?_
  show gs T3 m 25 #[vr s1, vr s2, vr s2] []
  refine oaloadN X3 hx hby d13_25 rfl rfl ?_
  obtain ⟨T4, X4, e4, st4⟩ := getF X3 hx hZ hown (host := "") (Or.inl (own_w hw 75 rfl)) Via.refl e3 F1c (g := (mkF m 26 #[vr s1, vr s2, vr s2] [(.ref s1)])) rfl rfl (hb hby d13_26)
  refine own_st st4 ?_
  show gs T4 m 29 #[vr s1, vr s2, vr s2] [(.int 0)]
  refine oaloadN X4 hx hby d13_29 rfl rfl ?_
  obtain ⟨T5, X5, e5, st5⟩ := getF X4 hx hZ hown (host := "") (Or.inl (own_w hw 75 rfl)) Via.refl e4 F2c (g := (mkF m 30 #[vr s1, vr s2, vr s2] [(.ref s2), (.int 0)])) rfl rfl (hb hby d13_30)
  refine own_st st5 ?_
  show gs T5 m 33 #[vr s1, vr s2, vr s2] [(.int 0), (.int 0)]
  refine own_st (fun _ kS => XS.icmpNo X5.here hx rfl (hb hby d13_33) rfl (teq (by decide : (0 : Int32) = (0 : Int32))).2 kS) ?_
  show gs T5 m 36 #[vr s1, vr s2, vr s2] []
  refine oaloadN X5 hx hby d13_36 rfl rfl ?_
  obtain ⟨T6, X6, e6, st6⟩ := getF X5 hx hZ hown (host := "") (Or.inl (own_w hw 77 rfl)) Via.refl e5 F1v (g := (mkF m 37 #[vr s1, vr s2, vr s2] [(.ref s1)])) rfl rfl (hb hby d13_37)
  refine own_st st6 ?_
  show gs T6 m 40 #[vr s1, vr s2, vr s2] [(.ref t1)]
  refine oaloadN X6 hx hby d13_40 rfl rfl ?_
  obtain ⟨T7, X7, e7, st7⟩ := getF X6 hx hZ hown (host := "") (Or.inl (own_w hw 77 rfl)) Via.refl e6 F2v (g := (mkF m 41 #[vr s1, vr s2, vr s2] [(.ref s2), (.ref t1)])) rfl rfl (hb hby d13_41)
  refine own_st st7 ?_
  show gs T7 m 44 #[vr s1, vr s2, vr s2] [(.ref t2), (.ref t1)]
  refine oS 0 X7 hx hZ hby hml hown (own_w hw 121 rfl) (own_w hw 122 rfl) (own_w hw 123 rfl) (own_w hw 124 rfl) (rm_latE_3_0 l Z a0 hw [] t1 t2 k1a k2a y0 y1 y2 z0 z1 z2 h0 n0 Z0  R_1 R_2 hq0) e7 (by decide) own_pd7 d13_44 rfl rfl rfl (fun T8 L8 v8 X8 hQ8 => ?_)
  obtain ⟨rfl, Nq8, eq8⟩ := hQ8
  have N8 := Fr.app N0 Nq8
  show gs T8 m 47 #[vr s1, vr s2, vr s2] [(.int 0)]
  refine own_st (fun _ kS => XS.ifYes X8.here hx rfl (pc0 := 47) (pc' := 54) rfl (hb hby d13_47) rfl ((if0 _ _).trans (teq (by decide : (0 : Int32) = (0 : Int32))).1) (by decide) (by decide) kS) ?_
  show gs T8 m 54 #[vr s1, vr s2, vr s2] []
  refine oiconst X8 hx hby d13_54 ?_
  exact own_retN X8 hx hlk (t := .boolean) hret (by simp) (hb hby d13_55) (by decide) (by decide) (v' := (0 : Int32)) rfl (by rw [eq8]; exact ⟨rfl, N8, rfl⟩)
theorem ef_dcE_3_0 (m : MethodId) (x0 : Addr) (x1 : Addr) : entryFrame m #[(.ref x0), (.ref x1)] 3 = mkF m 0 #[.val (.ref x0), .val (.ref x1), .unset] [] := by first | (simp [entryFrame, mkF, argsToLocals, Value.category]; done) | rfl
def Q_dcE_3_0 (Z : State) (a1 : Addr) (a2 : Addr) (v1 : Addr) (s1 : Addr) (s2 : Addr) (t1 : Addr) (t2 : Addr) (k1a : ClassId) (k2a : ClassId) (y0 : Int32) (y1 : Int32) (y2 : Int32) (z0 : Int32) (z1 : Int32) (z2 : Int32) (zCS : Int32) (h0 : Heap) (n0 : Nat) (v : Option Value) (h : Heap) (L : List Loc) : Prop := v = some (.int 0) ∧ Fr n0 L ∧ h = h0
theorem rm_dcE_3_0 (l : Launch) (Z : State) (a0 : Array Value) (hw : HW a0 Z) (ws : List Jvm.Cond) (a1 : Addr) (a2 : Addr) (v1 : Addr) (s1 : Addr) (s2 : Addr) (t1 : Addr) (t2 : Addr) (k1a : ClassId) (k2a : ClassId) (y0 : Int32) (y1 : Int32) (y2 : Int32) (z0 : Int32) (z1 : Int32) (z2 : Int32) (zCS : Int32) (h0 : Heap) (n0 : Nat) (Z0 : n0 ≤ h0.size) (O0 : Old Z n0 h0) (E_a : ek22 Z h0 a1) (E_b : ek22 Z h0 a2) (Fe1 : fk18 Z h0 a1 (.ref v1)) (Ft1 : fk19 Z h0 a1 (.ref s1)) (Fe2 : fk18 Z h0 a2 (.ref v1)) (Ft2 : fk19 Z h0 a2 (.ref s2)) (ne12 : s1 ≠ s2) (E_1 : ek21 Z h0 s1) (E_2 : ek21 Z h0 s2) (F1v : fk17 Z h0 s1 (.ref t1)) (F2v : fk17 Z h0 s2 (.ref t2)) (F1c : fk16 Z h0 s1 (.int 0)) (F2c : fk16 Z h0 s2 (.int 0)) (R_1 : Arv Z h0 t1 k1a .byte (3 : Int32) [(.int y0), (.int y1), (.int y2)] (.int 0)) (R_2 : Arv Z h0 t2 k2a .byte (3 : Int32) [(.int z0), (.int z1), (.int z2)] (.int 0)) (hq0 : ¬ (y0 = z0)) (S_CS : sk0 Z Z.heap (.int zCS)) (P_CS : ¬ zCS = 0) :
    M11 l ws (rmk 2 0 0 28) Z #[(.ref a1), (.ref a2)] h0 (Q_dcE_3_0 Z a1 a2 v1 s1 s2 t1 t2 k1a k2a y0 y1 y2 z0 z1 z2 zCS h0 n0) := by
  refine own_go "com/example/cartouche/cartouche/crosswalks/DcValue" rfl (plainFor_of_name pn_12) (fun m => ef_dcE_3_0 m a1 a2) (fun p e s m below meth c s₁ hx hby hml hown hnm hlk hret hZ X0 e0 => ?_)
  have N0 := Fr.nil n0
  show gs s₁ m 0 #[vr a1, vr a2, .unset] []
  refine oaloadN X0 hx hby d12_0 rfl rfl ?_
  obtain ⟨T1, X1, e1, st1⟩ := instY X0 hx hZ hown (own_w hw 103 rfl) e0 (Ins.self E_b) (g := (mkF m 1 #[vr a1, vr a2, .unset] [(.ref a2)])) rfl rfl (hb hby d12_1)
  refine own_st st1 ?_
  show gs T1 m 4 #[vr a1, vr a2, .unset] [(.int 1)]
  refine own_st (fun _ kS => XS.ifNo X1.here hx rfl (hb hby d12_4) rfl ((if0 _ _).trans (feq (by decide : ¬ ((1 : Int32) = (0 : Int32)))).1) kS) ?_
  show gs T1 m 7 #[vr a1, vr a2, .unset] []
  refine oaloadN X1 hx hby d12_7 rfl rfl ?_
  obtain ⟨T2, X2, e2, st2⟩ := castY X1 hx hZ hown (own_w hw 103 rfl) e1 (Ins.self E_b) (g := (mkF m 8 #[vr a1, vr a2, .unset] [(.ref a2)])) rfl rfl (hb hby d12_8)
  refine own_st st2 ?_
  show gs T2 m 11 #[vr a1, vr a2, .unset] [(.ref a2)]
  refine own_st (fun _ kS => XS.astoreN X2.here hx rfl (hb hby d12_11) rfl rfl (l' := #[vr a1, vr a2, vr a2]) rfl kS) ?_
  refine oaloadN X2 hx hby d12_12 rfl rfl ?_
  obtain ⟨T3, X3, e3, st3⟩ := getF X2 hx hZ hown (host := "") (Or.inl (own_w hw 91 rfl)) Via.refl e2 Fe1 (g := (mkF m 13 #[vr a1, vr a2, vr a2] [(.ref a1)])) rfl rfl (hb hby d12_13)
  refine own_st st3 ?_
  show gs T3 m 16 #[vr a1, vr a2, vr a2] [(.ref v1)]
  refine oaloadN X3 hx hby d12_16 rfl rfl ?_
  obtain ⟨T4, X4, e4, st4⟩ := getF X3 hx hZ hown (host := "") (Or.inl (own_w hw 91 rfl)) Via.refl e3 Fe2 (g := (mkF m 17 #[vr a1, vr a2, vr a2] [(.ref a2), (.ref v1)])) rfl rfl (hb hby d12_17)
  refine own_st st4 ?_
  show gs T4 m 20 #[vr a1, vr a2, vr a2] [(.ref v1), (.ref v1)]
  refine own_st (fun _ kS => Jvm.RoadKit.acmp (g := (mkF m 20 #[vr a1, vr a2, vr a2] [(.ref v1), (.ref v1)])) X4 hx rfl rfl rfl (pc0 := 20) (pc' := 23) (same := true) rfl (hb hby d12_20) rfl (decide_eq_true rfl) (by decide) (by decide) kS) ?_
  show gs T4 m 23 #[vr a1, vr a2, vr a2] []
  refine oaloadN X4 hx hby d12_23 rfl rfl ?_
  obtain ⟨T5, X5, e5, st5⟩ := getF X4 hx hZ hown (host := "") (Or.inl (own_w hw 95 rfl)) Via.refl e4 Ft1 (g := (mkF m 24 #[vr a1, vr a2, vr a2] [(.ref a1)])) rfl rfl (hb hby d12_24)
  refine own_st st5 ?_
  show gs T5 m 27 #[vr a1, vr a2, vr a2] [(.ref s1)]
  refine oaloadN X5 hx hby d12_27 rfl rfl ?_
  obtain ⟨T6, X6, e6, st6⟩ := getF X5 hx hZ hown (host := "") (Or.inl (own_w hw 95 rfl)) Via.refl e5 Ft2 (g := (mkF m 28 #[vr a1, vr a2, vr a2] [(.ref a2), (.ref s1)])) rfl rfl (hb hby d12_28)
  refine own_st st6 ?_
  show gs T6 m 31 #[vr a1, vr a2, vr a2] [(.ref s2), (.ref s1)]
  refine oV 0 X6 hx hZ hby hml hown (own_w hw 105 rfl) (own_w hw 106 rfl) (own_w hw 108 rfl) (own_w hw 107 rfl) (rm_strE_3_0 l Z a0 hw [] s1 s2 t1 t2 k1a k2a y0 y1 y2 z0 z1 z2 zCS h0 n0 Z0 O0 ne12 E_1 E_2 F1v F2v F1c F2c R_1 R_2 hq0 S_CS P_CS) (own_w hw 109 rfl) (own_w hw 47 rfl) e6 E_1 (by decide) own_pd8 d12_31 rfl rfl rfl (fun T7 L7 v7 X7 hQ7 => ?_)
  obtain ⟨rfl, Nq7, eq7⟩ := hQ7
  have N7 := Fr.app N0 Nq7
  show gs T7 m 34 #[vr a1, vr a2, vr a2] [(.int 0)]
  refine own_st (fun _ kS => XS.ifYes X7.here hx rfl (pc0 := 34) (pc' := 41) rfl (hb hby d12_34) rfl ((if0 _ _).trans (teq (by decide : (0 : Int32) = (0 : Int32))).1) (by decide) (by decide) kS) ?_
  show gs T7 m 41 #[vr a1, vr a2, vr a2] []
  refine oiconst X7 hx hby d12_41 ?_
  exact own_retN X7 hx hlk (t := .boolean) hret (by simp) (hb hby d12_42) (by decide) (by decide) (v' := (0 : Int32)) rfl (by rw [eq7]; exact ⟨rfl, N7, rfl⟩)
theorem ef_samT_3_0 (m : MethodId) (x0 : Int64) (x1 : Int64) : entryFrame m #[(.int 3), (.long x0), (.int 3), (.long x1)] 9 = mkF m 0 #[.val (.int 3), .val (.long x0), .second, .val (.int 3), .val (.long x1), .second, .unset, .unset, .unset] [] := by first | (simp [entryFrame, mkF, argsToLocals, Value.category]; done) | rfl
def Q_samT_3_0 (Z : State) (q1 : Int64) (q2 : Int64) (h0 : Heap) (n0 : Nat) (v : Option Value) (h : Heap) (L : List Loc) : Prop := v = some (.int 0) ∧ Fr n0 L ∧ h = h0
theorem rm_samT_3_0 (l : Launch) (Z : State) (a0 : Array Value) (hw : HW a0 Z) (ws : List Jvm.Cond) (q1 : Int64) (q2 : Int64) (h0 : Heap) (n0 : Nat) (Z0 : n0 ≤ h0.size) (hq0 : ¬ ((own_ch q1 (0 : Int32)) = (own_ch q2 (0 : Int32)))) :
    M12 l ws (rmk 1 0 0 15) Z #[(.int 3), (.long q1), (.int 3), (.long q2)] h0 (Q_samT_3_0 Z q1 q2 h0 n0) := by
  refine own_go "com/example/cartouche/cartouche/crosswalks/DcValueEqualsPinLaw" rfl (plainFor_of_name pn_15) (fun m => ef_samT_3_0 m q1 q2) (fun p e s m below meth c s₁ hx hby hml hown hnm hlk hret hZ X0 e0 => ?_)
  have N0 := Fr.nil n0
  show gs s₁ m 0 #[vi 3, .val (.long q1), .second, vi 3, .val (.long q2), .second, .unset, .unset, .unset] []
  refine oiloadN X0 hx hby d15_0 rfl ?_
  refine oiloadN X0 hx hby d15_1 rfl ?_
  refine own_st (fun _ kS => XS.icmpYes X0.here hx rfl (pc0 := 2) (pc' := 7) rfl (hb hby d15_2) rfl (teq (by decide : (3 : Int32) = (3 : Int32))).1 (by decide) (by decide) kS) ?_
  show gs s₁ m 7 #[vi 3, .val (.long q1), .second, vi 3, .val (.long q2), .second, .unset, .unset, .unset] []
  refine oiloadN X0 hx hby d15_7 rfl ?_
  refine oiconst X0 hx hby d15_8 ?_
  refine own_st (fun _ kS => XS.icmpNo X0.here hx rfl (hb hby d15_9) rfl (flt (by decide : ¬ ((3 : Int32) < (1 : Int32)))).1 kS) ?_
  show gs s₁ m 12 #[vi 3, .val (.long q1), .second, vi 3, .val (.long q2), .second, .unset, .unset, .unset] []
  refine own_st (fun _ kS => XT.lloadN X0.here hx rfl (hb hby d15_12) rfl kS) ?_
  refine oiconst X0 hx hby d15_13 ?_
  refine oS 0 X0 hx hZ hby hml hown (own_w hw 49 rfl) (own_w hw 50 rfl) (own_w hw 6 rfl) (own_w hw 51 rfl) (rm_ch l Z a0 hw [] q1 (0 : Int32) h0 n0 Z0  ) e0 (by decide) own_pd5 d15_14 rfl rfl rfl (fun T1 L1 v1 X1 hQ1 => ?_)
  obtain ⟨rfl, Nq1, eq1⟩ := hQ1
  have N1 := Fr.app N0 Nq1
  show gs T1 m 17 #[vi 3, .val (.long q1), .second, vi 3, .val (.long q2), .second, .unset, .unset, .unset] [(.int (own_ch q1 (0 : Int32)))]
  refine own_st (fun _ kS => XT.lload X1.here hx rfl (hb hby d15_17) rfl kS) ?_
  refine oiconst X1 hx hby d15_19 ?_
  refine oS 1 X1 hx hZ hby hml hown (own_w hw 49 rfl) (own_w hw 50 rfl) (own_w hw 6 rfl) (own_w hw 51 rfl) (rm_ch l Z a0 hw [] q2 (0 : Int32) h0 n0 Z0  ) eq1 (by decide) own_pd5 d15_20 rfl rfl rfl (fun T2 L2 v2 X2 hQ2 => ?_)
  obtain ⟨rfl, Nq2, eq2⟩ := hQ2
  have N2 := Fr.app N1 Nq2
  show gs T2 m 23 #[vi 3, .val (.long q1), .second, vi 3, .val (.long q2), .second, .unset, .unset, .unset] [(.int (own_ch q2 (0 : Int32))), (.int (own_ch q1 (0 : Int32)))]
  refine own_st (fun _ kS => XS.icmpYes X2.here hx rfl (pc0 := 23) (pc' := 30) rfl (hb hby d15_23) rfl (feq (hq0 : ¬ ((own_ch q1 (0 : Int32)) = (own_ch q2 (0 : Int32))))).2 (by decide) (by decide) kS) ?_
  show gs T2 m 30 #[vi 3, .val (.long q1), .second, vi 3, .val (.long q2), .second, .unset, .unset, .unset] []
  refine oiconst X2 hx hby d15_30 ?_
  refine own_st (fun _ kS => XS.istore X2.here hx rfl (hb hby d15_31) rfl (l' := #[vi 3, .val (.long q1), .second, vi 3, .val (.long q2), .second, vi 0, .unset, .unset]) rfl kS) ?_
  refine oiloadN X2 hx hby d15_33 rfl ?_
  refine oiconst X2 hx hby d15_34 ?_
  refine own_st (fun _ kS => XS.icmpNo X2.here hx rfl (hb hby d15_35) rfl (flt (by decide : ¬ ((3 : Int32) < (2 : Int32)))).1 kS) ?_
  show gs T2 m 38 #[vi 3, .val (.long q1), .second, vi 3, .val (.long q2), .second, vi 0, .unset, .unset] []
  refine own_st (fun _ kS => XT.lloadN X2.here hx rfl (hb hby d15_38) rfl kS) ?_
  refine oiconst X2 hx hby d15_39 ?_
  refine oS 0 X2 hx hZ hby hml hown (own_w hw 49 rfl) (own_w hw 50 rfl) (own_w hw 6 rfl) (own_w hw 51 rfl) (rm_ch l Z a0 hw [] q1 (1 : Int32) h0 n0 Z0  ) eq2 (by decide) own_pd5 d15_40 rfl rfl rfl (fun T3 L3 v3 X3 hQ3 => ?_)
  obtain ⟨rfl, Nq3, eq3⟩ := hQ3
  have N3 := Fr.app N2 Nq3
  show gs T3 m 43 #[vi 3, .val (.long q1), .second, vi 3, .val (.long q2), .second, vi 0, .unset, .unset] [(.int (own_ch q1 (1 : Int32)))]
  refine own_st (fun _ kS => XT.lload X3.here hx rfl (hb hby d15_43) rfl kS) ?_
  refine oiconst X3 hx hby d15_45 ?_
  refine oS 1 X3 hx hZ hby hml hown (own_w hw 49 rfl) (own_w hw 50 rfl) (own_w hw 6 rfl) (own_w hw 51 rfl) (rm_ch l Z a0 hw [] q2 (1 : Int32) h0 n0 Z0  ) eq3 (by decide) own_pd5 d15_46 rfl rfl rfl (fun T4 L4 v4 X4 hQ4 => ?_)
  obtain ⟨rfl, Nq4, eq4⟩ := hQ4
  have N4 := Fr.app N3 Nq4
  show gs T4 m 49 #[vi 3, .val (.long q1), .second, vi 3, .val (.long q2), .second, vi 0, .unset, .unset] [(.int (own_ch q2 (1 : Int32))), (.int (own_ch q1 (1 : Int32)))]
  by_cases hc49_5 : (own_ch q1 (1 : Int32)) = (own_ch q2 (1 : Int32))
  · skip
    refine own_st (fun _ kS => XS.icmpNo X4.here hx rfl (hb hby d15_49) rfl (teq hc49_5).2 kS) ?_
    show gs T4 m 52 #[vi 3, .val (.long q1), .second, vi 3, .val (.long q2), .second, vi 0, .unset, .unset] []
    refine oiconst X4 hx hby d15_52 ?_
    refine own_st (fun _ kS => XS.goto X4.here hx rfl (pc0 := 53) (pc' := 57) rfl (hb hby d15_53) (by decide) (by decide) kS) ?_
    refine own_st (fun _ kS => XS.istore X4.here hx rfl (hb hby d15_57) rfl (l' := #[vi 3, .val (.long q1), .second, vi 3, .val (.long q2), .second, vi 0, vi 1, .unset]) rfl kS) ?_
    refine oiloadN X4 hx hby d15_59 rfl ?_
    refine oiconst X4 hx hby d15_60 ?_
    refine own_st (fun _ kS => XS.icmpNo X4.here hx rfl (hb hby d15_61) rfl (flt (by decide : ¬ ((3 : Int32) < (3 : Int32)))).1 kS) ?_
    show gs T4 m 64 #[vi 3, .val (.long q1), .second, vi 3, .val (.long q2), .second, vi 0, vi 1, .unset] []
    refine own_st (fun _ kS => XT.lloadN X4.here hx rfl (hb hby d15_64) rfl kS) ?_
    refine oiconst X4 hx hby d15_65 ?_
    refine oS 0 X4 hx hZ hby hml hown (own_w hw 49 rfl) (own_w hw 50 rfl) (own_w hw 6 rfl) (own_w hw 51 rfl) (rm_ch l Z a0 hw [] q1 (2 : Int32) h0 n0 Z0  ) eq4 (by decide) own_pd5 d15_66 rfl rfl rfl (fun T6 L6 v6 X6 hQ6 => ?_)
    obtain ⟨rfl, Nq6, eq6⟩ := hQ6
    have N6 := Fr.app N4 Nq6
    show gs T6 m 69 #[vi 3, .val (.long q1), .second, vi 3, .val (.long q2), .second, vi 0, vi 1, .unset] [(.int (own_ch q1 (2 : Int32)))]
    refine own_st (fun _ kS => XT.lload X6.here hx rfl (hb hby d15_69) rfl kS) ?_
    refine oiconst X6 hx hby d15_71 ?_
    refine oS 1 X6 hx hZ hby hml hown (own_w hw 49 rfl) (own_w hw 50 rfl) (own_w hw 6 rfl) (own_w hw 51 rfl) (rm_ch l Z a0 hw [] q2 (2 : Int32) h0 n0 Z0  ) eq6 (by decide) own_pd5 d15_72 rfl rfl rfl (fun T7 L7 v7 X7 hQ7 => ?_)
    obtain ⟨rfl, Nq7, eq7⟩ := hQ7
    have N7 := Fr.app N6 Nq7
    show gs T7 m 75 #[vi 3, .val (.long q1), .second, vi 3, .val (.long q2), .second, vi 0, vi 1, .unset] [(.int (own_ch q2 (2 : Int32))), (.int (own_ch q1 (2 : Int32)))]
    by_cases hc75_8 : (own_ch q1 (2 : Int32)) = (own_ch q2 (2 : Int32))
    · skip
      refine own_st (fun _ kS => XS.icmpNo X7.here hx rfl (hb hby d15_75) rfl (teq hc75_8).2 kS) ?_
      show gs T7 m 78 #[vi 3, .val (.long q1), .second, vi 3, .val (.long q2), .second, vi 0, vi 1, .unset] []
      refine oiconst X7 hx hby d15_78 ?_
      refine own_st (fun _ kS => XS.goto X7.here hx rfl (pc0 := 79) (pc' := 83) rfl (hb hby d15_79) (by decide) (by decide) kS) ?_
      refine own_st (fun _ kS => XS.istore X7.here hx rfl (hb hby d15_83) rfl (l' := #[vi 3, .val (.long q1), .second, vi 3, .val (.long q2), .second, vi 0, vi 1, vi 1]) rfl kS) ?_
      refine oiload X7 hx hby d15_85 rfl ?_
      refine own_st (fun _ kS => XS.ifYes X7.here hx rfl (pc0 := 87) (pc' := 104) rfl (hb hby d15_87) rfl ((if0 _ _).trans (teq (by decide : (0 : Int32) = (0 : Int32))).1) (by decide) (by decide) kS) ?_
      show gs T7 m 104 #[vi 3, .val (.long q1), .second, vi 3, .val (.long q2), .second, vi 0, vi 1, vi 1] []
      refine oiconst X7 hx hby d15_104 ?_
      exact own_retN X7 hx hlk (t := .boolean) hret (by simp) (hb hby d15_105) (by decide) (by decide) (v' := (0 : Int32)) rfl (by rw [eq7]; exact ⟨rfl, N7, rfl⟩)
    · skip
      refine own_st (fun _ kS => XS.icmpYes X7.here hx rfl (pc0 := 75) (pc' := 82) rfl (hb hby d15_75) rfl (feq hc75_8).2 (by decide) (by decide) kS) ?_
      show gs T7 m 82 #[vi 3, .val (.long q1), .second, vi 3, .val (.long q2), .second, vi 0, vi 1, .unset] []
      refine oiconst X7 hx hby d15_82 ?_
      refine own_st (fun _ kS => XS.istore X7.here hx rfl (hb hby d15_83) rfl (l' := #[vi 3, .val (.long q1), .second, vi 3, .val (.long q2), .second, vi 0, vi 1, vi 0]) rfl kS) ?_
      refine oiload X7 hx hby d15_85 rfl ?_
      refine own_st (fun _ kS => XS.ifYes X7.here hx rfl (pc0 := 87) (pc' := 104) rfl (hb hby d15_87) rfl ((if0 _ _).trans (teq (by decide : (0 : Int32) = (0 : Int32))).1) (by decide) (by decide) kS) ?_
      show gs T7 m 104 #[vi 3, .val (.long q1), .second, vi 3, .val (.long q2), .second, vi 0, vi 1, vi 0] []
      refine oiconst X7 hx hby d15_104 ?_
      exact own_retN X7 hx hlk (t := .boolean) hret (by simp) (hb hby d15_105) (by decide) (by decide) (v' := (0 : Int32)) rfl (by rw [eq7]; exact ⟨rfl, N7, rfl⟩)
  · skip
    refine own_st (fun _ kS => XS.icmpYes X4.here hx rfl (pc0 := 49) (pc' := 56) rfl (hb hby d15_49) rfl (feq hc49_5).2 (by decide) (by decide) kS) ?_
    show gs T4 m 56 #[vi 3, .val (.long q1), .second, vi 3, .val (.long q2), .second, vi 0, .unset, .unset] []
    refine oiconst X4 hx hby d15_56 ?_
    refine own_st (fun _ kS => XS.istore X4.here hx rfl (hb hby d15_57) rfl (l' := #[vi 3, .val (.long q1), .second, vi 3, .val (.long q2), .second, vi 0, vi 0, .unset]) rfl kS) ?_
    refine oiloadN X4 hx hby d15_59 rfl ?_
    refine oiconst X4 hx hby d15_60 ?_
    refine own_st (fun _ kS => XS.icmpNo X4.here hx rfl (hb hby d15_61) rfl (flt (by decide : ¬ ((3 : Int32) < (3 : Int32)))).1 kS) ?_
    show gs T4 m 64 #[vi 3, .val (.long q1), .second, vi 3, .val (.long q2), .second, vi 0, vi 0, .unset] []
    refine own_st (fun _ kS => XT.lloadN X4.here hx rfl (hb hby d15_64) rfl kS) ?_
    refine oiconst X4 hx hby d15_65 ?_
    refine oS 0 X4 hx hZ hby hml hown (own_w hw 49 rfl) (own_w hw 50 rfl) (own_w hw 6 rfl) (own_w hw 51 rfl) (rm_ch l Z a0 hw [] q1 (2 : Int32) h0 n0 Z0  ) eq4 (by decide) own_pd5 d15_66 rfl rfl rfl (fun T9 L9 v9 X9 hQ9 => ?_)
    obtain ⟨rfl, Nq9, eq9⟩ := hQ9
    have N9 := Fr.app N4 Nq9
    show gs T9 m 69 #[vi 3, .val (.long q1), .second, vi 3, .val (.long q2), .second, vi 0, vi 0, .unset] [(.int (own_ch q1 (2 : Int32)))]
    refine own_st (fun _ kS => XT.lload X9.here hx rfl (hb hby d15_69) rfl kS) ?_
    refine oiconst X9 hx hby d15_71 ?_
    refine oS 1 X9 hx hZ hby hml hown (own_w hw 49 rfl) (own_w hw 50 rfl) (own_w hw 6 rfl) (own_w hw 51 rfl) (rm_ch l Z a0 hw [] q2 (2 : Int32) h0 n0 Z0  ) eq9 (by decide) own_pd5 d15_72 rfl rfl rfl (fun T10 L10 v10 X10 hQ10 => ?_)
    obtain ⟨rfl, Nq10, eq10⟩ := hQ10
    have N10 := Fr.app N9 Nq10
    show gs T10 m 75 #[vi 3, .val (.long q1), .second, vi 3, .val (.long q2), .second, vi 0, vi 0, .unset] [(.int (own_ch q2 (2 : Int32))), (.int (own_ch q1 (2 : Int32)))]
    by_cases hc75_11 : (own_ch q1 (2 : Int32)) = (own_ch q2 (2 : Int32))
    · skip
      refine own_st (fun _ kS => XS.icmpNo X10.here hx rfl (hb hby d15_75) rfl (teq hc75_11).2 kS) ?_
      show gs T10 m 78 #[vi 3, .val (.long q1), .second, vi 3, .val (.long q2), .second, vi 0, vi 0, .unset] []
      refine oiconst X10 hx hby d15_78 ?_
      refine own_st (fun _ kS => XS.goto X10.here hx rfl (pc0 := 79) (pc' := 83) rfl (hb hby d15_79) (by decide) (by decide) kS) ?_
      refine own_st (fun _ kS => XS.istore X10.here hx rfl (hb hby d15_83) rfl (l' := #[vi 3, .val (.long q1), .second, vi 3, .val (.long q2), .second, vi 0, vi 0, vi 1]) rfl kS) ?_
      refine oiload X10 hx hby d15_85 rfl ?_
      refine own_st (fun _ kS => XS.ifYes X10.here hx rfl (pc0 := 87) (pc' := 104) rfl (hb hby d15_87) rfl ((if0 _ _).trans (teq (by decide : (0 : Int32) = (0 : Int32))).1) (by decide) (by decide) kS) ?_
      show gs T10 m 104 #[vi 3, .val (.long q1), .second, vi 3, .val (.long q2), .second, vi 0, vi 0, vi 1] []
      refine oiconst X10 hx hby d15_104 ?_
      exact own_retN X10 hx hlk (t := .boolean) hret (by simp) (hb hby d15_105) (by decide) (by decide) (v' := (0 : Int32)) rfl (by rw [eq10]; exact ⟨rfl, N10, rfl⟩)
    · skip
      refine own_st (fun _ kS => XS.icmpYes X10.here hx rfl (pc0 := 75) (pc' := 82) rfl (hb hby d15_75) rfl (feq hc75_11).2 (by decide) (by decide) kS) ?_
      show gs T10 m 82 #[vi 3, .val (.long q1), .second, vi 3, .val (.long q2), .second, vi 0, vi 0, .unset] []
      refine oiconst X10 hx hby d15_82 ?_
      refine own_st (fun _ kS => XS.istore X10.here hx rfl (hb hby d15_83) rfl (l' := #[vi 3, .val (.long q1), .second, vi 3, .val (.long q2), .second, vi 0, vi 0, vi 0]) rfl kS) ?_
      refine oiload X10 hx hby d15_85 rfl ?_
      refine own_st (fun _ kS => XS.ifYes X10.here hx rfl (pc0 := 87) (pc' := 104) rfl (hb hby d15_87) rfl ((if0 _ _).trans (teq (by decide : (0 : Int32) = (0 : Int32))).1) (by decide) (by decide) kS) ?_
      show gs T10 m 104 #[vi 3, .val (.long q1), .second, vi 3, .val (.long q2), .second, vi 0, vi 0, vi 0] []
      refine oiconst X10 hx hby d15_104 ?_
      exact own_retN X10 hx hlk (t := .boolean) hret (by simp) (hb hby d15_105) (by decide) (by decide) (v' := (0 : Int32)) rfl (by rw [eq10]; exact ⟨rfl, N10, rfl⟩)
theorem ef_latE_3_1 (m : MethodId) (x0 : Addr) (x1 : Addr) : entryFrame m #[(.ref x0), (.ref x1)] 3 = mkF m 0 #[.val (.ref x0), .val (.ref x1), .unset] [] := by first | (simp [entryFrame, mkF, argsToLocals, Value.category]; done) | rfl
def Q_latE_3_1 (Z : State) (t1 : Addr) (t2 : Addr) (k1a : ClassId) (k2a : ClassId) (y0 : Int32) (y1 : Int32) (y2 : Int32) (z0 : Int32) (z1 : Int32) (z2 : Int32) (h0 : Heap) (n0 : Nat) (v : Option Value) (h : Heap) (L : List Loc) : Prop := v = some (.int 0) ∧ Fr n0 L ∧ h = h0
theorem rm_latE_3_1 (l : Launch) (Z : State) (a0 : Array Value) (hw : HW a0 Z) (ws : List Jvm.Cond) (t1 : Addr) (t2 : Addr) (k1a : ClassId) (k2a : ClassId) (y0 : Int32) (y1 : Int32) (y2 : Int32) (z0 : Int32) (z1 : Int32) (z2 : Int32) (h0 : Heap) (n0 : Nat) (Z0 : n0 ≤ h0.size) (R_1 : Arv Z h0 t1 k1a .byte (3 : Int32) [(.int y0), (.int y1), (.int y2)] (.int 0)) (R_2 : Arv Z h0 t2 k2a .byte (3 : Int32) [(.int z0), (.int z1), (.int z2)] (.int 0)) (hq0 : y0 = z0) (hq1 : ¬ (y1 = z1)) :
    M9 l ws (rmk 0 0 0 0) Z #[(.ref t1), (.ref t2)] h0 (Q_latE_3_1 Z t1 t2 k1a k2a y0 y1 y2 z0 z1 z2 h0 n0) := by
  refine own_go "java/lang/StringLatin1" rfl (plainFor_of_name pn_16) (fun m => ef_latE_3_1 m t1 t2) (fun p e s m below meth c s₁ hx hby hml hown hnm hlk hret hZ X0 e0 => ?_)
  have N0 := Fr.nil n0
  show gs s₁ m 0 #[vr t1, vr t2, .unset] []
  refine oaloadN X0 hx hby d16_0 rfl rfl ?_
  show gs s₁ m 1 #[vr t1, vr t2, .unset] [(.ref t1)]
  obtain ⟨cl1, Ar1, qa1, qs1, qn1, qh1, qg1⟩ := id R_1
  refine own_st (fun _ kS => X0.arraylength hx (by rw [e0]; exact Ar1.1) (State.isArrayOf_alike hZ.alike Ar1.2.1) (g := (mkF m 1 #[vr t1, vr t2, .unset] [(.ref t1)])) rfl rfl (hb hby d16_1) _ kS) ?_
  rw [len_of qs1 qn1]
  show gs s₁ m 2 #[vr t1, vr t2, .unset] [(.int 3)]
  refine oaloadN X0 hx hby d16_2 rfl rfl ?_
  show gs s₁ m 3 #[vr t1, vr t2, .unset] [(.ref t2), (.int 3)]
  obtain ⟨cl2, Ar2, qa2, qs2, qn2, qh2, qg2⟩ := id R_2
  refine own_st (fun _ kS => X0.arraylength hx (by rw [e0]; exact Ar2.1) (State.isArrayOf_alike hZ.alike Ar2.2.1) (g := (mkF m 3 #[vr t1, vr t2, .unset] [(.ref t2), (.int 3)])) rfl rfl (hb hby d16_3) _ kS) ?_
  rw [len_of qs2 qn2]
  show gs s₁ m 4 #[vr t1, vr t2, .unset] [(.int 3), (.int 3)]
  refine own_st (fun _ kS => XS.icmpNo X0.here hx rfl (hb hby d16_4) rfl (teq (by decide : (3 : Int32) = (3 : Int32))).2 kS) ?_
  show gs s₁ m 7 #[vr t1, vr t2, .unset] []
  refine oiconst X0 hx hby d16_7 ?_
  refine own_st (fun _ kS => XS.istoreN X0.here hx rfl (hb hby d16_8) rfl (l' := #[vr t1, vr t2, vi 0]) rfl kS) ?_
  refine oiloadN X0 hx hby d16_9 rfl ?_
  refine oaloadN X0 hx hby d16_10 rfl rfl ?_
  show gs s₁ m 11 #[vr t1, vr t2, vi 0] [(.ref t1), (.int 0)]
  obtain ⟨cl3, Ar3, qa3, qs3, qn3, qh3, qg3⟩ := id R_1
  refine own_st (fun _ kS => X0.arraylength hx (by rw [e0]; exact Ar3.1) (State.isArrayOf_alike hZ.alike Ar3.2.1) (g := (mkF m 11 #[vr t1, vr t2, vi 0] [(.ref t1), (.int 0)])) rfl rfl (hb hby d16_11) _ kS) ?_
  rw [len_of qs3 qn3]
  show gs s₁ m 12 #[vr t1, vr t2, vi 0] [(.int 3), (.int 0)]
  refine own_st (fun _ kS => XS.icmpNo X0.here hx rfl (hb hby d16_12) rfl (tlt (by decide : (0 : Int32) < (3 : Int32))).2.1 kS) ?_
  show gs s₁ m 15 #[vr t1, vr t2, vi 0] []
  refine oaloadN X0 hx hby d16_15 rfl rfl ?_
  refine oiloadN X0 hx hby d16_16 rfl ?_
  show gs s₁ m 17 #[vr t1, vr t2, vi 0] [(.int 0), (.ref t1)]
  obtain ⟨cl4, Ar4, qa4, qs4, qn4, qh4, qg4⟩ := id R_1
  refine own_st (fun _ kS => X0.baloadBytes hx (j := (0 : Int32)) (v := (.int y0)) (by rw [e0]; exact Ar4.1) (State.isArrayOf_alike hZ.alike Ar4.2.1) Ar4.2.2 (inb_of qs4 ⟨by decide, by decide⟩) (qh4.at (inb_of qs4 ⟨by decide, by decide⟩) rfl) (g := (mkF m 17 #[vr t1, vr t2, vi 0] [(.int 0), (.ref t1)])) rfl rfl (hb hby d16_17) _ kS) ?_
  show gs s₁ m 18 #[vr t1, vr t2, vi 0] [(.int y0)]
  refine oaloadN X0 hx hby d16_18 rfl rfl ?_
  refine oiloadN X0 hx hby d16_19 rfl ?_
  show gs s₁ m 20 #[vr t1, vr t2, vi 0] [(.int 0), (.ref t2), (.int y0)]
  obtain ⟨cl5, Ar5, qa5, qs5, qn5, qh5, qg5⟩ := id R_2
  refine own_st (fun _ kS => X0.baloadBytes hx (j := (0 : Int32)) (v := (.int z0)) (by rw [e0]; exact Ar5.1) (State.isArrayOf_alike hZ.alike Ar5.2.1) Ar5.2.2 (inb_of qs5 ⟨by decide, by decide⟩) (qh5.at (inb_of qs5 ⟨by decide, by decide⟩) rfl) (g := (mkF m 20 #[vr t1, vr t2, vi 0] [(.int 0), (.ref t2), (.int y0)])) rfl rfl (hb hby d16_20) _ kS) ?_
  show gs s₁ m 21 #[vr t1, vr t2, vi 0] [(.int z0), (.int y0)]
  refine own_st (fun _ kS => XS.icmpYes X0.here hx rfl (pc0 := 21) (pc' := 26) rfl (hb hby d16_21) rfl (teq (hq0 : y0 = z0)).1 (by decide) (by decide) kS) ?_
  show gs s₁ m 26 #[vr t1, vr t2, vi 0] []
  refine own_st (fun _ kS => XS.iinc X0.here hx rfl (hb hby d16_26) rfl (l' := #[vr t1, vr t2, vi 1]) rfl kS) ?_
  refine own_st (fun _ kS => XS.goto X0.here hx rfl (pc0 := 29) (pc' := 9) rfl (hb hby d16_29) (by decide) (by decide) kS) ?_
  refine oiloadN X0 hx hby d16_9 rfl ?_
  refine oaloadN X0 hx hby d16_10 rfl rfl ?_
  show gs s₁ m 11 #[vr t1, vr t2, vi 1] [(.ref t1), (.int 1)]
  obtain ⟨cl6, Ar6, qa6, qs6, qn6, qh6, qg6⟩ := id R_1
  refine own_st (fun _ kS => X0.arraylength hx (by rw [e0]; exact Ar6.1) (State.isArrayOf_alike hZ.alike Ar6.2.1) (g := (mkF m 11 #[vr t1, vr t2, vi 1] [(.ref t1), (.int 1)])) rfl rfl (hb hby d16_11) _ kS) ?_
  rw [len_of qs6 qn6]
  show gs s₁ m 12 #[vr t1, vr t2, vi 1] [(.int 3), (.int 1)]
  refine own_st (fun _ kS => XS.icmpNo X0.here hx rfl (hb hby d16_12) rfl (tlt (by decide : (1 : Int32) < (3 : Int32))).2.1 kS) ?_
  show gs s₁ m 15 #[vr t1, vr t2, vi 1] []
  refine oaloadN X0 hx hby d16_15 rfl rfl ?_
  refine oiloadN X0 hx hby d16_16 rfl ?_
  show gs s₁ m 17 #[vr t1, vr t2, vi 1] [(.int 1), (.ref t1)]
  obtain ⟨cl7, Ar7, qa7, qs7, qn7, qh7, qg7⟩ := id R_1
  refine own_st (fun _ kS => X0.baloadBytes hx (j := (1 : Int32)) (v := (.int y1)) (by rw [e0]; exact Ar7.1) (State.isArrayOf_alike hZ.alike Ar7.2.1) Ar7.2.2 (inb_of qs7 ⟨by decide, by decide⟩) (qh7.at (inb_of qs7 ⟨by decide, by decide⟩) rfl) (g := (mkF m 17 #[vr t1, vr t2, vi 1] [(.int 1), (.ref t1)])) rfl rfl (hb hby d16_17) _ kS) ?_
  show gs s₁ m 18 #[vr t1, vr t2, vi 1] [(.int y1)]
  refine oaloadN X0 hx hby d16_18 rfl rfl ?_
  refine oiloadN X0 hx hby d16_19 rfl ?_
  show gs s₁ m 20 #[vr t1, vr t2, vi 1] [(.int 1), (.ref t2), (.int y1)]
  obtain ⟨cl8, Ar8, qa8, qs8, qn8, qh8, qg8⟩ := id R_2
  refine own_st (fun _ kS => X0.baloadBytes hx (j := (1 : Int32)) (v := (.int z1)) (by rw [e0]; exact Ar8.1) (State.isArrayOf_alike hZ.alike Ar8.2.1) Ar8.2.2 (inb_of qs8 ⟨by decide, by decide⟩) (qh8.at (inb_of qs8 ⟨by decide, by decide⟩) rfl) (g := (mkF m 20 #[vr t1, vr t2, vi 1] [(.int 1), (.ref t2), (.int y1)])) rfl rfl (hb hby d16_20) _ kS) ?_
  show gs s₁ m 21 #[vr t1, vr t2, vi 1] [(.int z1), (.int y1)]
  refine own_st (fun _ kS => XS.icmpNo X0.here hx rfl (hb hby d16_21) rfl (feq (hq1 : ¬ (y1 = z1))).1 kS) ?_
  show gs s₁ m 24 #[vr t1, vr t2, vi 1] []
  refine oiconst X0 hx hby d16_24 ?_
  exact own_retN X0 hx hlk (t := .boolean) hret (by simp) (hb hby d16_25) (by decide) (by decide) (v' := (0 : Int32)) rfl (by rw [e0]; exact ⟨rfl, N0, rfl⟩)
theorem ef_strE_3_1 (m : MethodId) (x0 : Addr) (x1 : Addr) : entryFrame m #[(.ref x0), (.ref x1)] 3 = mkF m 0 #[.val (.ref x0), .val (.ref x1), .unset] [] := by first | (simp [entryFrame, mkF, argsToLocals, Value.category]; done) | rfl
def Q_strE_3_1 (Z : State) (s1 : Addr) (s2 : Addr) (t1 : Addr) (t2 : Addr) (k1a : ClassId) (k2a : ClassId) (y0 : Int32) (y1 : Int32) (y2 : Int32) (z0 : Int32) (z1 : Int32) (z2 : Int32) (zCS : Int32) (h0 : Heap) (n0 : Nat) (v : Option Value) (h : Heap) (L : List Loc) : Prop := v = some (.int 0) ∧ Fr n0 L ∧ h = h0
theorem rm_strE_3_1 (l : Launch) (Z : State) (a0 : Array Value) (hw : HW a0 Z) (ws : List Jvm.Cond) (s1 : Addr) (s2 : Addr) (t1 : Addr) (t2 : Addr) (k1a : ClassId) (k2a : ClassId) (y0 : Int32) (y1 : Int32) (y2 : Int32) (z0 : Int32) (z1 : Int32) (z2 : Int32) (zCS : Int32) (h0 : Heap) (n0 : Nat) (Z0 : n0 ≤ h0.size) (O0 : Old Z n0 h0) (ne12 : s1 ≠ s2) (E_1 : ek21 Z h0 s1) (E_2 : ek21 Z h0 s2) (F1v : fk17 Z h0 s1 (.ref t1)) (F2v : fk17 Z h0 s2 (.ref t2)) (F1c : fk16 Z h0 s1 (.int 0)) (F2c : fk16 Z h0 s2 (.int 0)) (R_1 : Arv Z h0 t1 k1a .byte (3 : Int32) [(.int y0), (.int y1), (.int y2)] (.int 0)) (R_2 : Arv Z h0 t2 k2a .byte (3 : Int32) [(.int z0), (.int z1), (.int z2)] (.int 0)) (hq0 : y0 = z0) (hq1 : ¬ (y1 = z1)) (S_CS : sk0 Z Z.heap (.int zCS)) (P_CS : ¬ zCS = 0) :
    M10 l ws (rmk 1 0 0 14) Z #[(.ref s1), (.ref s2)] h0 (Q_strE_3_1 Z s1 s2 t1 t2 k1a k2a y0 y1 y2 z0 z1 z2 zCS h0 n0) := by
  refine own_go "java/lang/String" rfl (plainFor_of_name pn_13) (fun m => ef_strE_3_1 m s1 s2) (fun p e s m below meth c s₁ hx hby hml hown hnm hlk hret hZ X0 e0 => ?_)
  have N0 := Fr.nil n0
  show gs s₁ m 0 #[vr s1, vr s2, .unset] []
  refine oaloadN X0 hx hby d13_0 rfl rfl ?_
  refine oaloadN X0 hx hby d13_1 rfl rfl ?_
  show gs s₁ m 2 #[vr s1, vr s2, .unset] [(.ref s2), (.ref s1)]
  refine own_st (fun _ kS => Jvm.RoadKit.acmp (g := (mkF m 2 #[vr s1, vr s2, .unset] [(.ref s2), (.ref s1)])) X0 hx rfl rfl rfl (pc0 := 2) (pc' := 7) (same := false) rfl (hb hby d13_2) rfl (decide_eq_false fun q => ne12 (Value.ref.inj q)) (by decide) (by decide) kS) ?_
  show gs s₁ m 7 #[vr s1, vr s2, .unset] []
  refine oaloadN X0 hx hby d13_7 rfl rfl ?_
  obtain ⟨T1, X1, e1, st1⟩ := instY X0 hx hZ hown (own_w hw 120 rfl) e0 (Ins.self E_2) (g := (mkF m 8 #[vr s1, vr s2, .unset] [(.ref s2)])) rfl rfl (hb hby d13_8)
  refine own_st st1 ?_
  show gs T1 m 11 #[vr s1, vr s2, .unset] [(.int 1)]
  refine own_st (fun _ kS => XS.ifNo X1.here hx rfl (hb hby d13_11) rfl ((if0 _ _).trans (feq (by decide : ¬ ((1 : Int32) = (0 : Int32)))).1) kS) ?_
  show gs T1 m 14 #[vr s1, vr s2, .unset] []
  refine oaloadN X1 hx hby d13_14 rfl rfl ?_
  obtain ⟨T2, X2, e2, st2⟩ := castY X1 hx hZ hown (own_w hw 120 rfl) e1 (Ins.self E_2) (g := (mkF m 15 #[vr s1, vr s2, .unset] [(.ref s2)])) rfl rfl (hb hby d13_15)
  refine own_st st2 ?_
  show gs T2 m 18 #[vr s1, vr s2, .unset] [(.ref s2)]
  refine own_st (fun _ kS => XS.astoreN X2.here hx rfl (hb hby d13_18) rfl rfl (l' := #[vr s1, vr s2, vr s2]) rfl kS) ?_
  show gs T2 m 19 #[vr s1, vr s2, vr s2] []
  obtain ⟨T3, X3, e3, st3⟩ := getS2 X2 hx hZ hown (host := "") (Or.inl (own_w hw 63 rfl)) Via.refl e2 (Sta.ext O0.2 S_CS) (g := (mkF m 19 #[vr s1, vr s2, vr s2] [])) rfl (hb hby d13_19)
  refine own_st st3 ?_
  show gs T3 m 22 #[vr s1, vr s2, vr s2] [(.int zCS)]
  refine own_st (fun _ kS => XS.ifNo X3.here hx rfl (hb hby d13_22) rfl ((if0 _ _).trans (feq (P_CS : ¬ (zCS = (0 : Int32)))).1) kS) ?_
  show gs T3 m 25 #[vr s1, vr s2, vr s2] []
  refine oaloadN X3 hx hby d13_25 rfl rfl ?_
  obtain ⟨T4, X4, e4, st4⟩ := getF X3 hx hZ hown (host := "") (Or.inl (own_w hw 75 rfl)) Via.refl e3 F1c (g := (mkF m 26 #[vr s1, vr s2, vr s2] [(.ref s1)])) rfl rfl (hb hby d13_26)
  refine own_st st4 ?_
  show gs T4 m 29 #[vr s1, vr s2, vr s2] [(.int 0)]
  refine oaloadN X4 hx hby d13_29 rfl rfl ?_
  obtain ⟨T5, X5, e5, st5⟩ := getF X4 hx hZ hown (host := "") (Or.inl (own_w hw 75 rfl)) Via.refl e4 F2c (g := (mkF m 30 #[vr s1, vr s2, vr s2] [(.ref s2), (.int 0)])) rfl rfl (hb hby d13_30)
  refine own_st st5 ?_
  show gs T5 m 33 #[vr s1, vr s2, vr s2] [(.int 0), (.int 0)]
  refine own_st (fun _ kS => XS.icmpNo X5.here hx rfl (hb hby d13_33) rfl (teq (by decide : (0 : Int32) = (0 : Int32))).2 kS) ?_
  show gs T5 m 36 #[vr s1, vr s2, vr s2] []
  refine oaloadN X5 hx hby d13_36 rfl rfl ?_
  obtain ⟨T6, X6, e6, st6⟩ := getF X5 hx hZ hown (host := "") (Or.inl (own_w hw 77 rfl)) Via.refl e5 F1v (g := (mkF m 37 #[vr s1, vr s2, vr s2] [(.ref s1)])) rfl rfl (hb hby d13_37)
  refine own_st st6 ?_
  show gs T6 m 40 #[vr s1, vr s2, vr s2] [(.ref t1)]
  refine oaloadN X6 hx hby d13_40 rfl rfl ?_
  obtain ⟨T7, X7, e7, st7⟩ := getF X6 hx hZ hown (host := "") (Or.inl (own_w hw 77 rfl)) Via.refl e6 F2v (g := (mkF m 41 #[vr s1, vr s2, vr s2] [(.ref s2), (.ref t1)])) rfl rfl (hb hby d13_41)
  refine own_st st7 ?_
  show gs T7 m 44 #[vr s1, vr s2, vr s2] [(.ref t2), (.ref t1)]
  refine oS 0 X7 hx hZ hby hml hown (own_w hw 121 rfl) (own_w hw 122 rfl) (own_w hw 123 rfl) (own_w hw 124 rfl) (rm_latE_3_1 l Z a0 hw [] t1 t2 k1a k2a y0 y1 y2 z0 z1 z2 h0 n0 Z0  R_1 R_2 hq0 hq1) e7 (by decide) own_pd7 d13_44 rfl rfl rfl (fun T8 L8 v8 X8 hQ8 => ?_)
  obtain ⟨rfl, Nq8, eq8⟩ := hQ8
  have N8 := Fr.app N0 Nq8
  show gs T8 m 47 #[vr s1, vr s2, vr s2] [(.int 0)]
  refine own_st (fun _ kS => XS.ifYes X8.here hx rfl (pc0 := 47) (pc' := 54) rfl (hb hby d13_47) rfl ((if0 _ _).trans (teq (by decide : (0 : Int32) = (0 : Int32))).1) (by decide) (by decide) kS) ?_
  show gs T8 m 54 #[vr s1, vr s2, vr s2] []
  refine oiconst X8 hx hby d13_54 ?_
  exact own_retN X8 hx hlk (t := .boolean) hret (by simp) (hb hby d13_55) (by decide) (by decide) (v' := (0 : Int32)) rfl (by rw [eq8]; exact ⟨rfl, N8, rfl⟩)
theorem ef_dcE_3_1 (m : MethodId) (x0 : Addr) (x1 : Addr) : entryFrame m #[(.ref x0), (.ref x1)] 3 = mkF m 0 #[.val (.ref x0), .val (.ref x1), .unset] [] := by first | (simp [entryFrame, mkF, argsToLocals, Value.category]; done) | rfl
def Q_dcE_3_1 (Z : State) (a1 : Addr) (a2 : Addr) (v1 : Addr) (s1 : Addr) (s2 : Addr) (t1 : Addr) (t2 : Addr) (k1a : ClassId) (k2a : ClassId) (y0 : Int32) (y1 : Int32) (y2 : Int32) (z0 : Int32) (z1 : Int32) (z2 : Int32) (zCS : Int32) (h0 : Heap) (n0 : Nat) (v : Option Value) (h : Heap) (L : List Loc) : Prop := v = some (.int 0) ∧ Fr n0 L ∧ h = h0
theorem rm_dcE_3_1 (l : Launch) (Z : State) (a0 : Array Value) (hw : HW a0 Z) (ws : List Jvm.Cond) (a1 : Addr) (a2 : Addr) (v1 : Addr) (s1 : Addr) (s2 : Addr) (t1 : Addr) (t2 : Addr) (k1a : ClassId) (k2a : ClassId) (y0 : Int32) (y1 : Int32) (y2 : Int32) (z0 : Int32) (z1 : Int32) (z2 : Int32) (zCS : Int32) (h0 : Heap) (n0 : Nat) (Z0 : n0 ≤ h0.size) (O0 : Old Z n0 h0) (E_a : ek22 Z h0 a1) (E_b : ek22 Z h0 a2) (Fe1 : fk18 Z h0 a1 (.ref v1)) (Ft1 : fk19 Z h0 a1 (.ref s1)) (Fe2 : fk18 Z h0 a2 (.ref v1)) (Ft2 : fk19 Z h0 a2 (.ref s2)) (ne12 : s1 ≠ s2) (E_1 : ek21 Z h0 s1) (E_2 : ek21 Z h0 s2) (F1v : fk17 Z h0 s1 (.ref t1)) (F2v : fk17 Z h0 s2 (.ref t2)) (F1c : fk16 Z h0 s1 (.int 0)) (F2c : fk16 Z h0 s2 (.int 0)) (R_1 : Arv Z h0 t1 k1a .byte (3 : Int32) [(.int y0), (.int y1), (.int y2)] (.int 0)) (R_2 : Arv Z h0 t2 k2a .byte (3 : Int32) [(.int z0), (.int z1), (.int z2)] (.int 0)) (hq0 : y0 = z0) (hq1 : ¬ (y1 = z1)) (S_CS : sk0 Z Z.heap (.int zCS)) (P_CS : ¬ zCS = 0) :
    M11 l ws (rmk 2 0 0 28) Z #[(.ref a1), (.ref a2)] h0 (Q_dcE_3_1 Z a1 a2 v1 s1 s2 t1 t2 k1a k2a y0 y1 y2 z0 z1 z2 zCS h0 n0) := by
  refine own_go "com/example/cartouche/cartouche/crosswalks/DcValue" rfl (plainFor_of_name pn_12) (fun m => ef_dcE_3_1 m a1 a2) (fun p e s m below meth c s₁ hx hby hml hown hnm hlk hret hZ X0 e0 => ?_)
  have N0 := Fr.nil n0
  show gs s₁ m 0 #[vr a1, vr a2, .unset] []
  refine oaloadN X0 hx hby d12_0 rfl rfl ?_
  obtain ⟨T1, X1, e1, st1⟩ := instY X0 hx hZ hown (own_w hw 103 rfl) e0 (Ins.self E_b) (g := (mkF m 1 #[vr a1, vr a2, .unset] [(.ref a2)])) rfl rfl (hb hby d12_1)
  refine own_st st1 ?_
  show gs T1 m 4 #[vr a1, vr a2, .unset] [(.int 1)]
  refine own_st (fun _ kS => XS.ifNo X1.here hx rfl (hb hby d12_4) rfl ((if0 _ _).trans (feq (by decide : ¬ ((1 : Int32) = (0 : Int32)))).1) kS) ?_
  show gs T1 m 7 #[vr a1, vr a2, .unset] []
  refine oaloadN X1 hx hby d12_7 rfl rfl ?_
  obtain ⟨T2, X2, e2, st2⟩ := castY X1 hx hZ hown (own_w hw 103 rfl) e1 (Ins.self E_b) (g := (mkF m 8 #[vr a1, vr a2, .unset] [(.ref a2)])) rfl rfl (hb hby d12_8)
  refine own_st st2 ?_
  show gs T2 m 11 #[vr a1, vr a2, .unset] [(.ref a2)]
  refine own_st (fun _ kS => XS.astoreN X2.here hx rfl (hb hby d12_11) rfl rfl (l' := #[vr a1, vr a2, vr a2]) rfl kS) ?_
  refine oaloadN X2 hx hby d12_12 rfl rfl ?_
  obtain ⟨T3, X3, e3, st3⟩ := getF X2 hx hZ hown (host := "") (Or.inl (own_w hw 91 rfl)) Via.refl e2 Fe1 (g := (mkF m 13 #[vr a1, vr a2, vr a2] [(.ref a1)])) rfl rfl (hb hby d12_13)
  refine own_st st3 ?_
  show gs T3 m 16 #[vr a1, vr a2, vr a2] [(.ref v1)]
  refine oaloadN X3 hx hby d12_16 rfl rfl ?_
  obtain ⟨T4, X4, e4, st4⟩ := getF X3 hx hZ hown (host := "") (Or.inl (own_w hw 91 rfl)) Via.refl e3 Fe2 (g := (mkF m 17 #[vr a1, vr a2, vr a2] [(.ref a2), (.ref v1)])) rfl rfl (hb hby d12_17)
  refine own_st st4 ?_
  show gs T4 m 20 #[vr a1, vr a2, vr a2] [(.ref v1), (.ref v1)]
  refine own_st (fun _ kS => Jvm.RoadKit.acmp (g := (mkF m 20 #[vr a1, vr a2, vr a2] [(.ref v1), (.ref v1)])) X4 hx rfl rfl rfl (pc0 := 20) (pc' := 23) (same := true) rfl (hb hby d12_20) rfl (decide_eq_true rfl) (by decide) (by decide) kS) ?_
  show gs T4 m 23 #[vr a1, vr a2, vr a2] []
  refine oaloadN X4 hx hby d12_23 rfl rfl ?_
  obtain ⟨T5, X5, e5, st5⟩ := getF X4 hx hZ hown (host := "") (Or.inl (own_w hw 95 rfl)) Via.refl e4 Ft1 (g := (mkF m 24 #[vr a1, vr a2, vr a2] [(.ref a1)])) rfl rfl (hb hby d12_24)
  refine own_st st5 ?_
  show gs T5 m 27 #[vr a1, vr a2, vr a2] [(.ref s1)]
  refine oaloadN X5 hx hby d12_27 rfl rfl ?_
  obtain ⟨T6, X6, e6, st6⟩ := getF X5 hx hZ hown (host := "") (Or.inl (own_w hw 95 rfl)) Via.refl e5 Ft2 (g := (mkF m 28 #[vr a1, vr a2, vr a2] [(.ref a2), (.ref s1)])) rfl rfl (hb hby d12_28)
  refine own_st st6 ?_
  show gs T6 m 31 #[vr a1, vr a2, vr a2] [(.ref s2), (.ref s1)]
  refine oV 0 X6 hx hZ hby hml hown (own_w hw 105 rfl) (own_w hw 106 rfl) (own_w hw 108 rfl) (own_w hw 107 rfl) (rm_strE_3_1 l Z a0 hw [] s1 s2 t1 t2 k1a k2a y0 y1 y2 z0 z1 z2 zCS h0 n0 Z0 O0 ne12 E_1 E_2 F1v F2v F1c F2c R_1 R_2 hq0 hq1 S_CS P_CS) (own_w hw 109 rfl) (own_w hw 47 rfl) e6 E_1 (by decide) own_pd8 d12_31 rfl rfl rfl (fun T7 L7 v7 X7 hQ7 => ?_)
  obtain ⟨rfl, Nq7, eq7⟩ := hQ7
  have N7 := Fr.app N0 Nq7
  show gs T7 m 34 #[vr a1, vr a2, vr a2] [(.int 0)]
  refine own_st (fun _ kS => XS.ifYes X7.here hx rfl (pc0 := 34) (pc' := 41) rfl (hb hby d12_34) rfl ((if0 _ _).trans (teq (by decide : (0 : Int32) = (0 : Int32))).1) (by decide) (by decide) kS) ?_
  show gs T7 m 41 #[vr a1, vr a2, vr a2] []
  refine oiconst X7 hx hby d12_41 ?_
  exact own_retN X7 hx hlk (t := .boolean) hret (by simp) (hb hby d12_42) (by decide) (by decide) (v' := (0 : Int32)) rfl (by rw [eq7]; exact ⟨rfl, N7, rfl⟩)
theorem ef_samT_3_1 (m : MethodId) (x0 : Int64) (x1 : Int64) : entryFrame m #[(.int 3), (.long x0), (.int 3), (.long x1)] 9 = mkF m 0 #[.val (.int 3), .val (.long x0), .second, .val (.int 3), .val (.long x1), .second, .unset, .unset, .unset] [] := by first | (simp [entryFrame, mkF, argsToLocals, Value.category]; done) | rfl
def Q_samT_3_1 (Z : State) (q1 : Int64) (q2 : Int64) (h0 : Heap) (n0 : Nat) (v : Option Value) (h : Heap) (L : List Loc) : Prop := v = some (.int 0) ∧ Fr n0 L ∧ h = h0
theorem rm_samT_3_1 (l : Launch) (Z : State) (a0 : Array Value) (hw : HW a0 Z) (ws : List Jvm.Cond) (q1 : Int64) (q2 : Int64) (h0 : Heap) (n0 : Nat) (Z0 : n0 ≤ h0.size) (hq0 : (own_ch q1 (0 : Int32)) = (own_ch q2 (0 : Int32))) (hq1 : ¬ ((own_ch q1 (1 : Int32)) = (own_ch q2 (1 : Int32)))) :
    M12 l ws (rmk 1 0 0 15) Z #[(.int 3), (.long q1), (.int 3), (.long q2)] h0 (Q_samT_3_1 Z q1 q2 h0 n0) := by
  refine own_go "com/example/cartouche/cartouche/crosswalks/DcValueEqualsPinLaw" rfl (plainFor_of_name pn_15) (fun m => ef_samT_3_1 m q1 q2) (fun p e s m below meth c s₁ hx hby hml hown hnm hlk hret hZ X0 e0 => ?_)
  have N0 := Fr.nil n0
  show gs s₁ m 0 #[vi 3, .val (.long q1), .second, vi 3, .val (.long q2), .second, .unset, .unset, .unset] []
  refine oiloadN X0 hx hby d15_0 rfl ?_
  refine oiloadN X0 hx hby d15_1 rfl ?_
  refine own_st (fun _ kS => XS.icmpYes X0.here hx rfl (pc0 := 2) (pc' := 7) rfl (hb hby d15_2) rfl (teq (by decide : (3 : Int32) = (3 : Int32))).1 (by decide) (by decide) kS) ?_
  show gs s₁ m 7 #[vi 3, .val (.long q1), .second, vi 3, .val (.long q2), .second, .unset, .unset, .unset] []
  refine oiloadN X0 hx hby d15_7 rfl ?_
  refine oiconst X0 hx hby d15_8 ?_
  refine own_st (fun _ kS => XS.icmpNo X0.here hx rfl (hb hby d15_9) rfl (flt (by decide : ¬ ((3 : Int32) < (1 : Int32)))).1 kS) ?_
  show gs s₁ m 12 #[vi 3, .val (.long q1), .second, vi 3, .val (.long q2), .second, .unset, .unset, .unset] []
  refine own_st (fun _ kS => XT.lloadN X0.here hx rfl (hb hby d15_12) rfl kS) ?_
  refine oiconst X0 hx hby d15_13 ?_
  refine oS 0 X0 hx hZ hby hml hown (own_w hw 49 rfl) (own_w hw 50 rfl) (own_w hw 6 rfl) (own_w hw 51 rfl) (rm_ch l Z a0 hw [] q1 (0 : Int32) h0 n0 Z0  ) e0 (by decide) own_pd5 d15_14 rfl rfl rfl (fun T1 L1 v1 X1 hQ1 => ?_)
  obtain ⟨rfl, Nq1, eq1⟩ := hQ1
  have N1 := Fr.app N0 Nq1
  show gs T1 m 17 #[vi 3, .val (.long q1), .second, vi 3, .val (.long q2), .second, .unset, .unset, .unset] [(.int (own_ch q1 (0 : Int32)))]
  refine own_st (fun _ kS => XT.lload X1.here hx rfl (hb hby d15_17) rfl kS) ?_
  refine oiconst X1 hx hby d15_19 ?_
  refine oS 1 X1 hx hZ hby hml hown (own_w hw 49 rfl) (own_w hw 50 rfl) (own_w hw 6 rfl) (own_w hw 51 rfl) (rm_ch l Z a0 hw [] q2 (0 : Int32) h0 n0 Z0  ) eq1 (by decide) own_pd5 d15_20 rfl rfl rfl (fun T2 L2 v2 X2 hQ2 => ?_)
  obtain ⟨rfl, Nq2, eq2⟩ := hQ2
  have N2 := Fr.app N1 Nq2
  show gs T2 m 23 #[vi 3, .val (.long q1), .second, vi 3, .val (.long q2), .second, .unset, .unset, .unset] [(.int (own_ch q2 (0 : Int32))), (.int (own_ch q1 (0 : Int32)))]
  refine own_st (fun _ kS => XS.icmpNo X2.here hx rfl (hb hby d15_23) rfl (teq (hq0 : (own_ch q1 (0 : Int32)) = (own_ch q2 (0 : Int32)))).2 kS) ?_
  show gs T2 m 26 #[vi 3, .val (.long q1), .second, vi 3, .val (.long q2), .second, .unset, .unset, .unset] []
  refine oiconst X2 hx hby d15_26 ?_
  refine own_st (fun _ kS => XS.goto X2.here hx rfl (pc0 := 27) (pc' := 31) rfl (hb hby d15_27) (by decide) (by decide) kS) ?_
  refine own_st (fun _ kS => XS.istore X2.here hx rfl (hb hby d15_31) rfl (l' := #[vi 3, .val (.long q1), .second, vi 3, .val (.long q2), .second, vi 1, .unset, .unset]) rfl kS) ?_
  refine oiloadN X2 hx hby d15_33 rfl ?_
  refine oiconst X2 hx hby d15_34 ?_
  refine own_st (fun _ kS => XS.icmpNo X2.here hx rfl (hb hby d15_35) rfl (flt (by decide : ¬ ((3 : Int32) < (2 : Int32)))).1 kS) ?_
  show gs T2 m 38 #[vi 3, .val (.long q1), .second, vi 3, .val (.long q2), .second, vi 1, .unset, .unset] []
  refine own_st (fun _ kS => XT.lloadN X2.here hx rfl (hb hby d15_38) rfl kS) ?_
  refine oiconst X2 hx hby d15_39 ?_
  refine oS 0 X2 hx hZ hby hml hown (own_w hw 49 rfl) (own_w hw 50 rfl) (own_w hw 6 rfl) (own_w hw 51 rfl) (rm_ch l Z a0 hw [] q1 (1 : Int32) h0 n0 Z0  ) eq2 (by decide) own_pd5 d15_40 rfl rfl rfl (fun T3 L3 v3 X3 hQ3 => ?_)
  obtain ⟨rfl, Nq3, eq3⟩ := hQ3
  have N3 := Fr.app N2 Nq3
  show gs T3 m 43 #[vi 3, .val (.long q1), .second, vi 3, .val (.long q2), .second, vi 1, .unset, .unset] [(.int (own_ch q1 (1 : Int32)))]
  refine own_st (fun _ kS => XT.lload X3.here hx rfl (hb hby d15_43) rfl kS) ?_
  refine oiconst X3 hx hby d15_45 ?_
  refine oS 1 X3 hx hZ hby hml hown (own_w hw 49 rfl) (own_w hw 50 rfl) (own_w hw 6 rfl) (own_w hw 51 rfl) (rm_ch l Z a0 hw [] q2 (1 : Int32) h0 n0 Z0  ) eq3 (by decide) own_pd5 d15_46 rfl rfl rfl (fun T4 L4 v4 X4 hQ4 => ?_)
  obtain ⟨rfl, Nq4, eq4⟩ := hQ4
  have N4 := Fr.app N3 Nq4
  show gs T4 m 49 #[vi 3, .val (.long q1), .second, vi 3, .val (.long q2), .second, vi 1, .unset, .unset] [(.int (own_ch q2 (1 : Int32))), (.int (own_ch q1 (1 : Int32)))]
  refine own_st (fun _ kS => XS.icmpYes X4.here hx rfl (pc0 := 49) (pc' := 56) rfl (hb hby d15_49) rfl (feq (hq1 : ¬ ((own_ch q1 (1 : Int32)) = (own_ch q2 (1 : Int32))))).2 (by decide) (by decide) kS) ?_
  show gs T4 m 56 #[vi 3, .val (.long q1), .second, vi 3, .val (.long q2), .second, vi 1, .unset, .unset] []
  refine oiconst X4 hx hby d15_56 ?_
  refine own_st (fun _ kS => XS.istore X4.here hx rfl (hb hby d15_57) rfl (l' := #[vi 3, .val (.long q1), .second, vi 3, .val (.long q2), .second, vi 1, vi 0, .unset]) rfl kS) ?_
  refine oiloadN X4 hx hby d15_59 rfl ?_
  refine oiconst X4 hx hby d15_60 ?_
  refine own_st (fun _ kS => XS.icmpNo X4.here hx rfl (hb hby d15_61) rfl (flt (by decide : ¬ ((3 : Int32) < (3 : Int32)))).1 kS) ?_
  show gs T4 m 64 #[vi 3, .val (.long q1), .second, vi 3, .val (.long q2), .second, vi 1, vi 0, .unset] []
  refine own_st (fun _ kS => XT.lloadN X4.here hx rfl (hb hby d15_64) rfl kS) ?_
  refine oiconst X4 hx hby d15_65 ?_
  refine oS 0 X4 hx hZ hby hml hown (own_w hw 49 rfl) (own_w hw 50 rfl) (own_w hw 6 rfl) (own_w hw 51 rfl) (rm_ch l Z a0 hw [] q1 (2 : Int32) h0 n0 Z0  ) eq4 (by decide) own_pd5 d15_66 rfl rfl rfl (fun T5 L5 v5 X5 hQ5 => ?_)
  obtain ⟨rfl, Nq5, eq5⟩ := hQ5
  have N5 := Fr.app N4 Nq5
  show gs T5 m 69 #[vi 3, .val (.long q1), .second, vi 3, .val (.long q2), .second, vi 1, vi 0, .unset] [(.int (own_ch q1 (2 : Int32)))]
  refine own_st (fun _ kS => XT.lload X5.here hx rfl (hb hby d15_69) rfl kS) ?_
  refine oiconst X5 hx hby d15_71 ?_
  refine oS 1 X5 hx hZ hby hml hown (own_w hw 49 rfl) (own_w hw 50 rfl) (own_w hw 6 rfl) (own_w hw 51 rfl) (rm_ch l Z a0 hw [] q2 (2 : Int32) h0 n0 Z0  ) eq5 (by decide) own_pd5 d15_72 rfl rfl rfl (fun T6 L6 v6 X6 hQ6 => ?_)
  obtain ⟨rfl, Nq6, eq6⟩ := hQ6
  have N6 := Fr.app N5 Nq6
  show gs T6 m 75 #[vi 3, .val (.long q1), .second, vi 3, .val (.long q2), .second, vi 1, vi 0, .unset] [(.int (own_ch q2 (2 : Int32))), (.int (own_ch q1 (2 : Int32)))]
  by_cases hc75_7 : (own_ch q1 (2 : Int32)) = (own_ch q2 (2 : Int32))
  · skip
    refine own_st (fun _ kS => XS.icmpNo X6.here hx rfl (hb hby d15_75) rfl (teq hc75_7).2 kS) ?_
    show gs T6 m 78 #[vi 3, .val (.long q1), .second, vi 3, .val (.long q2), .second, vi 1, vi 0, .unset] []
    refine oiconst X6 hx hby d15_78 ?_
    refine own_st (fun _ kS => XS.goto X6.here hx rfl (pc0 := 79) (pc' := 83) rfl (hb hby d15_79) (by decide) (by decide) kS) ?_
    refine own_st (fun _ kS => XS.istore X6.here hx rfl (hb hby d15_83) rfl (l' := #[vi 3, .val (.long q1), .second, vi 3, .val (.long q2), .second, vi 1, vi 0, vi 1]) rfl kS) ?_
    refine oiload X6 hx hby d15_85 rfl ?_
    refine own_st (fun _ kS => XS.ifNo X6.here hx rfl (hb hby d15_87) rfl ((if0 _ _).trans (feq (by decide : ¬ ((1 : Int32) = (0 : Int32)))).1) kS) ?_
    show gs T6 m 90 #[vi 3, .val (.long q1), .second, vi 3, .val (.long q2), .second, vi 1, vi 0, vi 1] []
    refine oiload X6 hx hby d15_90 rfl ?_
    refine own_st (fun _ kS => XS.ifYes X6.here hx rfl (pc0 := 92) (pc' := 104) rfl (hb hby d15_92) rfl ((if0 _ _).trans (teq (by decide : (0 : Int32) = (0 : Int32))).1) (by decide) (by decide) kS) ?_
    show gs T6 m 104 #[vi 3, .val (.long q1), .second, vi 3, .val (.long q2), .second, vi 1, vi 0, vi 1] []
    refine oiconst X6 hx hby d15_104 ?_
    exact own_retN X6 hx hlk (t := .boolean) hret (by simp) (hb hby d15_105) (by decide) (by decide) (v' := (0 : Int32)) rfl (by rw [eq6]; exact ⟨rfl, N6, rfl⟩)
  · skip
    refine own_st (fun _ kS => XS.icmpYes X6.here hx rfl (pc0 := 75) (pc' := 82) rfl (hb hby d15_75) rfl (feq hc75_7).2 (by decide) (by decide) kS) ?_
    show gs T6 m 82 #[vi 3, .val (.long q1), .second, vi 3, .val (.long q2), .second, vi 1, vi 0, .unset] []
    refine oiconst X6 hx hby d15_82 ?_
    refine own_st (fun _ kS => XS.istore X6.here hx rfl (hb hby d15_83) rfl (l' := #[vi 3, .val (.long q1), .second, vi 3, .val (.long q2), .second, vi 1, vi 0, vi 0]) rfl kS) ?_
    refine oiload X6 hx hby d15_85 rfl ?_
    refine own_st (fun _ kS => XS.ifNo X6.here hx rfl (hb hby d15_87) rfl ((if0 _ _).trans (feq (by decide : ¬ ((1 : Int32) = (0 : Int32)))).1) kS) ?_
    show gs T6 m 90 #[vi 3, .val (.long q1), .second, vi 3, .val (.long q2), .second, vi 1, vi 0, vi 0] []
    refine oiload X6 hx hby d15_90 rfl ?_
    refine own_st (fun _ kS => XS.ifYes X6.here hx rfl (pc0 := 92) (pc' := 104) rfl (hb hby d15_92) rfl ((if0 _ _).trans (teq (by decide : (0 : Int32) = (0 : Int32))).1) (by decide) (by decide) kS) ?_
    show gs T6 m 104 #[vi 3, .val (.long q1), .second, vi 3, .val (.long q2), .second, vi 1, vi 0, vi 0] []
    refine oiconst X6 hx hby d15_104 ?_
    exact own_retN X6 hx hlk (t := .boolean) hret (by simp) (hb hby d15_105) (by decide) (by decide) (v' := (0 : Int32)) rfl (by rw [eq6]; exact ⟨rfl, N6, rfl⟩)
theorem ef_latE_3_2 (m : MethodId) (x0 : Addr) (x1 : Addr) : entryFrame m #[(.ref x0), (.ref x1)] 3 = mkF m 0 #[.val (.ref x0), .val (.ref x1), .unset] [] := by first | (simp [entryFrame, mkF, argsToLocals, Value.category]; done) | rfl
def Q_latE_3_2 (Z : State) (t1 : Addr) (t2 : Addr) (k1a : ClassId) (k2a : ClassId) (y0 : Int32) (y1 : Int32) (y2 : Int32) (z0 : Int32) (z1 : Int32) (z2 : Int32) (h0 : Heap) (n0 : Nat) (v : Option Value) (h : Heap) (L : List Loc) : Prop := v = some (.int 0) ∧ Fr n0 L ∧ h = h0
theorem rm_latE_3_2 (l : Launch) (Z : State) (a0 : Array Value) (hw : HW a0 Z) (ws : List Jvm.Cond) (t1 : Addr) (t2 : Addr) (k1a : ClassId) (k2a : ClassId) (y0 : Int32) (y1 : Int32) (y2 : Int32) (z0 : Int32) (z1 : Int32) (z2 : Int32) (h0 : Heap) (n0 : Nat) (Z0 : n0 ≤ h0.size) (R_1 : Arv Z h0 t1 k1a .byte (3 : Int32) [(.int y0), (.int y1), (.int y2)] (.int 0)) (R_2 : Arv Z h0 t2 k2a .byte (3 : Int32) [(.int z0), (.int z1), (.int z2)] (.int 0)) (hq0 : y0 = z0) (hq1 : y1 = z1) (hq2 : ¬ (y2 = z2)) :
    M9 l ws (rmk 0 0 0 0) Z #[(.ref t1), (.ref t2)] h0 (Q_latE_3_2 Z t1 t2 k1a k2a y0 y1 y2 z0 z1 z2 h0 n0) := by
  refine own_go "java/lang/StringLatin1" rfl (plainFor_of_name pn_16) (fun m => ef_latE_3_2 m t1 t2) (fun p e s m below meth c s₁ hx hby hml hown hnm hlk hret hZ X0 e0 => ?_)
  have N0 := Fr.nil n0
  show gs s₁ m 0 #[vr t1, vr t2, .unset] []
  refine oaloadN X0 hx hby d16_0 rfl rfl ?_
  show gs s₁ m 1 #[vr t1, vr t2, .unset] [(.ref t1)]
  obtain ⟨cl1, Ar1, qa1, qs1, qn1, qh1, qg1⟩ := id R_1
  refine own_st (fun _ kS => X0.arraylength hx (by rw [e0]; exact Ar1.1) (State.isArrayOf_alike hZ.alike Ar1.2.1) (g := (mkF m 1 #[vr t1, vr t2, .unset] [(.ref t1)])) rfl rfl (hb hby d16_1) _ kS) ?_
  rw [len_of qs1 qn1]
  show gs s₁ m 2 #[vr t1, vr t2, .unset] [(.int 3)]
  refine oaloadN X0 hx hby d16_2 rfl rfl ?_
  show gs s₁ m 3 #[vr t1, vr t2, .unset] [(.ref t2), (.int 3)]
  obtain ⟨cl2, Ar2, qa2, qs2, qn2, qh2, qg2⟩ := id R_2
  refine own_st (fun _ kS => X0.arraylength hx (by rw [e0]; exact Ar2.1) (State.isArrayOf_alike hZ.alike Ar2.2.1) (g := (mkF m 3 #[vr t1, vr t2, .unset] [(.ref t2), (.int 3)])) rfl rfl (hb hby d16_3) _ kS) ?_
  rw [len_of qs2 qn2]
  show gs s₁ m 4 #[vr t1, vr t2, .unset] [(.int 3), (.int 3)]
  refine own_st (fun _ kS => XS.icmpNo X0.here hx rfl (hb hby d16_4) rfl (teq (by decide : (3 : Int32) = (3 : Int32))).2 kS) ?_
  show gs s₁ m 7 #[vr t1, vr t2, .unset] []
  refine oiconst X0 hx hby d16_7 ?_
  refine own_st (fun _ kS => XS.istoreN X0.here hx rfl (hb hby d16_8) rfl (l' := #[vr t1, vr t2, vi 0]) rfl kS) ?_
  refine oiloadN X0 hx hby d16_9 rfl ?_
  refine oaloadN X0 hx hby d16_10 rfl rfl ?_
  show gs s₁ m 11 #[vr t1, vr t2, vi 0] [(.ref t1), (.int 0)]
  obtain ⟨cl3, Ar3, qa3, qs3, qn3, qh3, qg3⟩ := id R_1
  refine own_st (fun _ kS => X0.arraylength hx (by rw [e0]; exact Ar3.1) (State.isArrayOf_alike hZ.alike Ar3.2.1) (g := (mkF m 11 #[vr t1, vr t2, vi 0] [(.ref t1), (.int 0)])) rfl rfl (hb hby d16_11) _ kS) ?_
  rw [len_of qs3 qn3]
  show gs s₁ m 12 #[vr t1, vr t2, vi 0] [(.int 3), (.int 0)]
  refine own_st (fun _ kS => XS.icmpNo X0.here hx rfl (hb hby d16_12) rfl (tlt (by decide : (0 : Int32) < (3 : Int32))).2.1 kS) ?_
  show gs s₁ m 15 #[vr t1, vr t2, vi 0] []
  refine oaloadN X0 hx hby d16_15 rfl rfl ?_
  refine oiloadN X0 hx hby d16_16 rfl ?_
  show gs s₁ m 17 #[vr t1, vr t2, vi 0] [(.int 0), (.ref t1)]
  obtain ⟨cl4, Ar4, qa4, qs4, qn4, qh4, qg4⟩ := id R_1
  refine own_st (fun _ kS => X0.baloadBytes hx (j := (0 : Int32)) (v := (.int y0)) (by rw [e0]; exact Ar4.1) (State.isArrayOf_alike hZ.alike Ar4.2.1) Ar4.2.2 (inb_of qs4 ⟨by decide, by decide⟩) (qh4.at (inb_of qs4 ⟨by decide, by decide⟩) rfl) (g := (mkF m 17 #[vr t1, vr t2, vi 0] [(.int 0), (.ref t1)])) rfl rfl (hb hby d16_17) _ kS) ?_
  show gs s₁ m 18 #[vr t1, vr t2, vi 0] [(.int y0)]
  refine oaloadN X0 hx hby d16_18 rfl rfl ?_
  refine oiloadN X0 hx hby d16_19 rfl ?_
  show gs s₁ m 20 #[vr t1, vr t2, vi 0] [(.int 0), (.ref t2), (.int y0)]
  obtain ⟨cl5, Ar5, qa5, qs5, qn5, qh5, qg5⟩ := id R_2
  refine own_st (fun _ kS => X0.baloadBytes hx (j := (0 : Int32)) (v := (.int z0)) (by rw [e0]; exact Ar5.1) (State.isArrayOf_alike hZ.alike Ar5.2.1) Ar5.2.2 (inb_of qs5 ⟨by decide, by decide⟩) (qh5.at (inb_of qs5 ⟨by decide, by decide⟩) rfl) (g := (mkF m 20 #[vr t1, vr t2, vi 0] [(.int 0), (.ref t2), (.int y0)])) rfl rfl (hb hby d16_20) _ kS) ?_
  show gs s₁ m 21 #[vr t1, vr t2, vi 0] [(.int z0), (.int y0)]
  refine own_st (fun _ kS => XS.icmpYes X0.here hx rfl (pc0 := 21) (pc' := 26) rfl (hb hby d16_21) rfl (teq (hq0 : y0 = z0)).1 (by decide) (by decide) kS) ?_
  show gs s₁ m 26 #[vr t1, vr t2, vi 0] []
  refine own_st (fun _ kS => XS.iinc X0.here hx rfl (hb hby d16_26) rfl (l' := #[vr t1, vr t2, vi 1]) rfl kS) ?_
  refine own_st (fun _ kS => XS.goto X0.here hx rfl (pc0 := 29) (pc' := 9) rfl (hb hby d16_29) (by decide) (by decide) kS) ?_
  refine oiloadN X0 hx hby d16_9 rfl ?_
  refine oaloadN X0 hx hby d16_10 rfl rfl ?_
  show gs s₁ m 11 #[vr t1, vr t2, vi 1] [(.ref t1), (.int 1)]
  obtain ⟨cl6, Ar6, qa6, qs6, qn6, qh6, qg6⟩ := id R_1
  refine own_st (fun _ kS => X0.arraylength hx (by rw [e0]; exact Ar6.1) (State.isArrayOf_alike hZ.alike Ar6.2.1) (g := (mkF m 11 #[vr t1, vr t2, vi 1] [(.ref t1), (.int 1)])) rfl rfl (hb hby d16_11) _ kS) ?_
  rw [len_of qs6 qn6]
  show gs s₁ m 12 #[vr t1, vr t2, vi 1] [(.int 3), (.int 1)]
  refine own_st (fun _ kS => XS.icmpNo X0.here hx rfl (hb hby d16_12) rfl (tlt (by decide : (1 : Int32) < (3 : Int32))).2.1 kS) ?_
  show gs s₁ m 15 #[vr t1, vr t2, vi 1] []
  refine oaloadN X0 hx hby d16_15 rfl rfl ?_
  refine oiloadN X0 hx hby d16_16 rfl ?_
  show gs s₁ m 17 #[vr t1, vr t2, vi 1] [(.int 1), (.ref t1)]
  obtain ⟨cl7, Ar7, qa7, qs7, qn7, qh7, qg7⟩ := id R_1
  refine own_st (fun _ kS => X0.baloadBytes hx (j := (1 : Int32)) (v := (.int y1)) (by rw [e0]; exact Ar7.1) (State.isArrayOf_alike hZ.alike Ar7.2.1) Ar7.2.2 (inb_of qs7 ⟨by decide, by decide⟩) (qh7.at (inb_of qs7 ⟨by decide, by decide⟩) rfl) (g := (mkF m 17 #[vr t1, vr t2, vi 1] [(.int 1), (.ref t1)])) rfl rfl (hb hby d16_17) _ kS) ?_
  show gs s₁ m 18 #[vr t1, vr t2, vi 1] [(.int y1)]
  refine oaloadN X0 hx hby d16_18 rfl rfl ?_
  refine oiloadN X0 hx hby d16_19 rfl ?_
  show gs s₁ m 20 #[vr t1, vr t2, vi 1] [(.int 1), (.ref t2), (.int y1)]
  obtain ⟨cl8, Ar8, qa8, qs8, qn8, qh8, qg8⟩ := id R_2
  refine own_st (fun _ kS => X0.baloadBytes hx (j := (1 : Int32)) (v := (.int z1)) (by rw [e0]; exact Ar8.1) (State.isArrayOf_alike hZ.alike Ar8.2.1) Ar8.2.2 (inb_of qs8 ⟨by decide, by decide⟩) (qh8.at (inb_of qs8 ⟨by decide, by decide⟩) rfl) (g := (mkF m 20 #[vr t1, vr t2, vi 1] [(.int 1), (.ref t2), (.int y1)])) rfl rfl (hb hby d16_20) _ kS) ?_
  show gs s₁ m 21 #[vr t1, vr t2, vi 1] [(.int z1), (.int y1)]
  refine own_st (fun _ kS => XS.icmpYes X0.here hx rfl (pc0 := 21) (pc' := 26) rfl (hb hby d16_21) rfl (teq (hq1 : y1 = z1)).1 (by decide) (by decide) kS) ?_
  show gs s₁ m 26 #[vr t1, vr t2, vi 1] []
  refine own_st (fun _ kS => XS.iinc X0.here hx rfl (hb hby d16_26) rfl (l' := #[vr t1, vr t2, vi 2]) rfl kS) ?_
  refine own_st (fun _ kS => XS.goto X0.here hx rfl (pc0 := 29) (pc' := 9) rfl (hb hby d16_29) (by decide) (by decide) kS) ?_
  refine oiloadN X0 hx hby d16_9 rfl ?_
  refine oaloadN X0 hx hby d16_10 rfl rfl ?_
  show gs s₁ m 11 #[vr t1, vr t2, vi 2] [(.ref t1), (.int 2)]
  obtain ⟨cl9, Ar9, qa9, qs9, qn9, qh9, qg9⟩ := id R_1
  refine own_st (fun _ kS => X0.arraylength hx (by rw [e0]; exact Ar9.1) (State.isArrayOf_alike hZ.alike Ar9.2.1) (g := (mkF m 11 #[vr t1, vr t2, vi 2] [(.ref t1), (.int 2)])) rfl rfl (hb hby d16_11) _ kS) ?_
  rw [len_of qs9 qn9]
  show gs s₁ m 12 #[vr t1, vr t2, vi 2] [(.int 3), (.int 2)]
  refine own_st (fun _ kS => XS.icmpNo X0.here hx rfl (hb hby d16_12) rfl (tlt (by decide : (2 : Int32) < (3 : Int32))).2.1 kS) ?_
  show gs s₁ m 15 #[vr t1, vr t2, vi 2] []
  refine oaloadN X0 hx hby d16_15 rfl rfl ?_
  refine oiloadN X0 hx hby d16_16 rfl ?_
  show gs s₁ m 17 #[vr t1, vr t2, vi 2] [(.int 2), (.ref t1)]
  obtain ⟨cl10, Ar10, qa10, qs10, qn10, qh10, qg10⟩ := id R_1
  refine own_st (fun _ kS => X0.baloadBytes hx (j := (2 : Int32)) (v := (.int y2)) (by rw [e0]; exact Ar10.1) (State.isArrayOf_alike hZ.alike Ar10.2.1) Ar10.2.2 (inb_of qs10 ⟨by decide, by decide⟩) (qh10.at (inb_of qs10 ⟨by decide, by decide⟩) rfl) (g := (mkF m 17 #[vr t1, vr t2, vi 2] [(.int 2), (.ref t1)])) rfl rfl (hb hby d16_17) _ kS) ?_
  show gs s₁ m 18 #[vr t1, vr t2, vi 2] [(.int y2)]
  refine oaloadN X0 hx hby d16_18 rfl rfl ?_
  refine oiloadN X0 hx hby d16_19 rfl ?_
  show gs s₁ m 20 #[vr t1, vr t2, vi 2] [(.int 2), (.ref t2), (.int y2)]
  obtain ⟨cl11, Ar11, qa11, qs11, qn11, qh11, qg11⟩ := id R_2
  refine own_st (fun _ kS => X0.baloadBytes hx (j := (2 : Int32)) (v := (.int z2)) (by rw [e0]; exact Ar11.1) (State.isArrayOf_alike hZ.alike Ar11.2.1) Ar11.2.2 (inb_of qs11 ⟨by decide, by decide⟩) (qh11.at (inb_of qs11 ⟨by decide, by decide⟩) rfl) (g := (mkF m 20 #[vr t1, vr t2, vi 2] [(.int 2), (.ref t2), (.int y2)])) rfl rfl (hb hby d16_20) _ kS) ?_
  show gs s₁ m 21 #[vr t1, vr t2, vi 2] [(.int z2), (.int y2)]
  refine own_st (fun _ kS => XS.icmpNo X0.here hx rfl (hb hby d16_21) rfl (feq (hq2 : ¬ (y2 = z2))).1 kS) ?_
  show gs s₁ m 24 #[vr t1, vr t2, vi 2] []
  refine oiconst X0 hx hby d16_24 ?_
  exact own_retN X0 hx hlk (t := .boolean) hret (by simp) (hb hby d16_25) (by decide) (by decide) (v' := (0 : Int32)) rfl (by rw [e0]; exact ⟨rfl, N0, rfl⟩)
theorem ef_strE_3_2 (m : MethodId) (x0 : Addr) (x1 : Addr) : entryFrame m #[(.ref x0), (.ref x1)] 3 = mkF m 0 #[.val (.ref x0), .val (.ref x1), .unset] [] := by first | (simp [entryFrame, mkF, argsToLocals, Value.category]; done) | rfl
def Q_strE_3_2 (Z : State) (s1 : Addr) (s2 : Addr) (t1 : Addr) (t2 : Addr) (k1a : ClassId) (k2a : ClassId) (y0 : Int32) (y1 : Int32) (y2 : Int32) (z0 : Int32) (z1 : Int32) (z2 : Int32) (zCS : Int32) (h0 : Heap) (n0 : Nat) (v : Option Value) (h : Heap) (L : List Loc) : Prop := v = some (.int 0) ∧ Fr n0 L ∧ h = h0
theorem rm_strE_3_2 (l : Launch) (Z : State) (a0 : Array Value) (hw : HW a0 Z) (ws : List Jvm.Cond) (s1 : Addr) (s2 : Addr) (t1 : Addr) (t2 : Addr) (k1a : ClassId) (k2a : ClassId) (y0 : Int32) (y1 : Int32) (y2 : Int32) (z0 : Int32) (z1 : Int32) (z2 : Int32) (zCS : Int32) (h0 : Heap) (n0 : Nat) (Z0 : n0 ≤ h0.size) (O0 : Old Z n0 h0) (ne12 : s1 ≠ s2) (E_1 : ek21 Z h0 s1) (E_2 : ek21 Z h0 s2) (F1v : fk17 Z h0 s1 (.ref t1)) (F2v : fk17 Z h0 s2 (.ref t2)) (F1c : fk16 Z h0 s1 (.int 0)) (F2c : fk16 Z h0 s2 (.int 0)) (R_1 : Arv Z h0 t1 k1a .byte (3 : Int32) [(.int y0), (.int y1), (.int y2)] (.int 0)) (R_2 : Arv Z h0 t2 k2a .byte (3 : Int32) [(.int z0), (.int z1), (.int z2)] (.int 0)) (hq0 : y0 = z0) (hq1 : y1 = z1) (hq2 : ¬ (y2 = z2)) (S_CS : sk0 Z Z.heap (.int zCS)) (P_CS : ¬ zCS = 0) :
    M10 l ws (rmk 1 0 0 14) Z #[(.ref s1), (.ref s2)] h0 (Q_strE_3_2 Z s1 s2 t1 t2 k1a k2a y0 y1 y2 z0 z1 z2 zCS h0 n0) := by
  refine own_go "java/lang/String" rfl (plainFor_of_name pn_13) (fun m => ef_strE_3_2 m s1 s2) (fun p e s m below meth c s₁ hx hby hml hown hnm hlk hret hZ X0 e0 => ?_)
  have N0 := Fr.nil n0
  show gs s₁ m 0 #[vr s1, vr s2, .unset] []
  refine oaloadN X0 hx hby d13_0 rfl rfl ?_
  refine oaloadN X0 hx hby d13_1 rfl rfl ?_
  show gs s₁ m 2 #[vr s1, vr s2, .unset] [(.ref s2), (.ref s1)]
  refine own_st (fun _ kS => Jvm.RoadKit.acmp (g := (mkF m 2 #[vr s1, vr s2, .unset] [(.ref s2), (.ref s1)])) X0 hx rfl rfl rfl (pc0 := 2) (pc' := 7) (same := false) rfl (hb hby d13_2) rfl (decide_eq_false fun q => ne12 (Value.ref.inj q)) (by decide) (by decide) kS) ?_
  show gs s₁ m 7 #[vr s1, vr s2, .unset] []
  refine oaloadN X0 hx hby d13_7 rfl rfl ?_
  obtain ⟨T1, X1, e1, st1⟩ := instY X0 hx hZ hown (own_w hw 120 rfl) e0 (Ins.self E_2) (g := (mkF m 8 #[vr s1, vr s2, .unset] [(.ref s2)])) rfl rfl (hb hby d13_8)
  refine own_st st1 ?_
  show gs T1 m 11 #[vr s1, vr s2, .unset] [(.int 1)]
  refine own_st (fun _ kS => XS.ifNo X1.here hx rfl (hb hby d13_11) rfl ((if0 _ _).trans (feq (by decide : ¬ ((1 : Int32) = (0 : Int32)))).1) kS) ?_
  show gs T1 m 14 #[vr s1, vr s2, .unset] []
  refine oaloadN X1 hx hby d13_14 rfl rfl ?_
  obtain ⟨T2, X2, e2, st2⟩ := castY X1 hx hZ hown (own_w hw 120 rfl) e1 (Ins.self E_2) (g := (mkF m 15 #[vr s1, vr s2, .unset] [(.ref s2)])) rfl rfl (hb hby d13_15)
  refine own_st st2 ?_
  show gs T2 m 18 #[vr s1, vr s2, .unset] [(.ref s2)]
  refine own_st (fun _ kS => XS.astoreN X2.here hx rfl (hb hby d13_18) rfl rfl (l' := #[vr s1, vr s2, vr s2]) rfl kS) ?_
  show gs T2 m 19 #[vr s1, vr s2, vr s2] []
  obtain ⟨T3, X3, e3, st3⟩ := getS2 X2 hx hZ hown (host := "") (Or.inl (own_w hw 63 rfl)) Via.refl e2 (Sta.ext O0.2 S_CS) (g := (mkF m 19 #[vr s1, vr s2, vr s2] [])) rfl (hb hby d13_19)
  refine own_st st3 ?_
  show gs T3 m 22 #[vr s1, vr s2, vr s2] [(.int zCS)]
  refine own_st (fun _ kS => XS.ifNo X3.here hx rfl (hb hby d13_22) rfl ((if0 _ _).trans (feq (P_CS : ¬ (zCS = (0 : Int32)))).1) kS) ?_
  show gs T3 m 25 #[vr s1, vr s2, vr s2] []
  refine oaloadN X3 hx hby d13_25 rfl rfl ?_
  obtain ⟨T4, X4, e4, st4⟩ := getF X3 hx hZ hown (host := "") (Or.inl (own_w hw 75 rfl)) Via.refl e3 F1c (g := (mkF m 26 #[vr s1, vr s2, vr s2] [(.ref s1)])) rfl rfl (hb hby d13_26)
  refine own_st st4 ?_
  show gs T4 m 29 #[vr s1, vr s2, vr s2] [(.int 0)]
  refine oaloadN X4 hx hby d13_29 rfl rfl ?_
  obtain ⟨T5, X5, e5, st5⟩ := getF X4 hx hZ hown (host := "") (Or.inl (own_w hw 75 rfl)) Via.refl e4 F2c (g := (mkF m 30 #[vr s1, vr s2, vr s2] [(.ref s2), (.int 0)])) rfl rfl (hb hby d13_30)
  refine own_st st5 ?_
  show gs T5 m 33 #[vr s1, vr s2, vr s2] [(.int 0), (.int 0)]
  refine own_st (fun _ kS => XS.icmpNo X5.here hx rfl (hb hby d13_33) rfl (teq (by decide : (0 : Int32) = (0 : Int32))).2 kS) ?_
  show gs T5 m 36 #[vr s1, vr s2, vr s2] []
  refine oaloadN X5 hx hby d13_36 rfl rfl ?_
  obtain ⟨T6, X6, e6, st6⟩ := getF X5 hx hZ hown (host := "") (Or.inl (own_w hw 77 rfl)) Via.refl e5 F1v (g := (mkF m 37 #[vr s1, vr s2, vr s2] [(.ref s1)])) rfl rfl (hb hby d13_37)
  refine own_st st6 ?_
  show gs T6 m 40 #[vr s1, vr s2, vr s2] [(.ref t1)]
  refine oaloadN X6 hx hby d13_40 rfl rfl ?_
  obtain ⟨T7, X7, e7, st7⟩ := getF X6 hx hZ hown (host := "") (Or.inl (own_w hw 77 rfl)) Via.refl e6 F2v (g := (mkF m 41 #[vr s1, vr s2, vr s2] [(.ref s2), (.ref t1)])) rfl rfl (hb hby d13_41)
  refine own_st st7 ?_
  show gs T7 m 44 #[vr s1, vr s2, vr s2] [(.ref t2), (.ref t1)]
  refine oS 0 X7 hx hZ hby hml hown (own_w hw 121 rfl) (own_w hw 122 rfl) (own_w hw 123 rfl) (own_w hw 124 rfl) (rm_latE_3_2 l Z a0 hw [] t1 t2 k1a k2a y0 y1 y2 z0 z1 z2 h0 n0 Z0  R_1 R_2 hq0 hq1 hq2) e7 (by decide) own_pd7 d13_44 rfl rfl rfl (fun T8 L8 v8 X8 hQ8 => ?_)
  obtain ⟨rfl, Nq8, eq8⟩ := hQ8
  have N8 := Fr.app N0 Nq8
  show gs T8 m 47 #[vr s1, vr s2, vr s2] [(.int 0)]
  refine own_st (fun _ kS => XS.ifYes X8.here hx rfl (pc0 := 47) (pc' := 54) rfl (hb hby d13_47) rfl ((if0 _ _).trans (teq (by decide : (0 : Int32) = (0 : Int32))).1) (by decide) (by decide) kS) ?_
  show gs T8 m 54 #[vr s1, vr s2, vr s2] []
  refine oiconst X8 hx hby d13_54 ?_
  exact own_retN X8 hx hlk (t := .boolean) hret (by simp) (hb hby d13_55) (by decide) (by decide) (v' := (0 : Int32)) rfl (by rw [eq8]; exact ⟨rfl, N8, rfl⟩)
theorem ef_dcE_3_2 (m : MethodId) (x0 : Addr) (x1 : Addr) : entryFrame m #[(.ref x0), (.ref x1)] 3 = mkF m 0 #[.val (.ref x0), .val (.ref x1), .unset] [] := by first | (simp [entryFrame, mkF, argsToLocals, Value.category]; done) | rfl
def Q_dcE_3_2 (Z : State) (a1 : Addr) (a2 : Addr) (v1 : Addr) (s1 : Addr) (s2 : Addr) (t1 : Addr) (t2 : Addr) (k1a : ClassId) (k2a : ClassId) (y0 : Int32) (y1 : Int32) (y2 : Int32) (z0 : Int32) (z1 : Int32) (z2 : Int32) (zCS : Int32) (h0 : Heap) (n0 : Nat) (v : Option Value) (h : Heap) (L : List Loc) : Prop := v = some (.int 0) ∧ Fr n0 L ∧ h = h0
theorem rm_dcE_3_2 (l : Launch) (Z : State) (a0 : Array Value) (hw : HW a0 Z) (ws : List Jvm.Cond) (a1 : Addr) (a2 : Addr) (v1 : Addr) (s1 : Addr) (s2 : Addr) (t1 : Addr) (t2 : Addr) (k1a : ClassId) (k2a : ClassId) (y0 : Int32) (y1 : Int32) (y2 : Int32) (z0 : Int32) (z1 : Int32) (z2 : Int32) (zCS : Int32) (h0 : Heap) (n0 : Nat) (Z0 : n0 ≤ h0.size) (O0 : Old Z n0 h0) (E_a : ek22 Z h0 a1) (E_b : ek22 Z h0 a2) (Fe1 : fk18 Z h0 a1 (.ref v1)) (Ft1 : fk19 Z h0 a1 (.ref s1)) (Fe2 : fk18 Z h0 a2 (.ref v1)) (Ft2 : fk19 Z h0 a2 (.ref s2)) (ne12 : s1 ≠ s2) (E_1 : ek21 Z h0 s1) (E_2 : ek21 Z h0 s2) (F1v : fk17 Z h0 s1 (.ref t1)) (F2v : fk17 Z h0 s2 (.ref t2)) (F1c : fk16 Z h0 s1 (.int 0)) (F2c : fk16 Z h0 s2 (.int 0)) (R_1 : Arv Z h0 t1 k1a .byte (3 : Int32) [(.int y0), (.int y1), (.int y2)] (.int 0)) (R_2 : Arv Z h0 t2 k2a .byte (3 : Int32) [(.int z0), (.int z1), (.int z2)] (.int 0)) (hq0 : y0 = z0) (hq1 : y1 = z1) (hq2 : ¬ (y2 = z2)) (S_CS : sk0 Z Z.heap (.int zCS)) (P_CS : ¬ zCS = 0) :
    M11 l ws (rmk 2 0 0 28) Z #[(.ref a1), (.ref a2)] h0 (Q_dcE_3_2 Z a1 a2 v1 s1 s2 t1 t2 k1a k2a y0 y1 y2 z0 z1 z2 zCS h0 n0) := by
  refine own_go "com/example/cartouche/cartouche/crosswalks/DcValue" rfl (plainFor_of_name pn_12) (fun m => ef_dcE_3_2 m a1 a2) (fun p e s m below meth c s₁ hx hby hml hown hnm hlk hret hZ X0 e0 => ?_)
  have N0 := Fr.nil n0
  show gs s₁ m 0 #[vr a1, vr a2, .unset] []
  refine oaloadN X0 hx hby d12_0 rfl rfl ?_
  obtain ⟨T1, X1, e1, st1⟩ := instY X0 hx hZ hown (own_w hw 103 rfl) e0 (Ins.self E_b) (g := (mkF m 1 #[vr a1, vr a2, .unset] [(.ref a2)])) rfl rfl (hb hby d12_1)
  refine own_st st1 ?_
  show gs T1 m 4 #[vr a1, vr a2, .unset] [(.int 1)]
  refine own_st (fun _ kS => XS.ifNo X1.here hx rfl (hb hby d12_4) rfl ((if0 _ _).trans (feq (by decide : ¬ ((1 : Int32) = (0 : Int32)))).1) kS) ?_
  show gs T1 m 7 #[vr a1, vr a2, .unset] []
  refine oaloadN X1 hx hby d12_7 rfl rfl ?_
  obtain ⟨T2, X2, e2, st2⟩ := castY X1 hx hZ hown (own_w hw 103 rfl) e1 (Ins.self E_b) (g := (mkF m 8 #[vr a1, vr a2, .unset] [(.ref a2)])) rfl rfl (hb hby d12_8)
  refine own_st st2 ?_
  show gs T2 m 11 #[vr a1, vr a2, .unset] [(.ref a2)]
  refine own_st (fun _ kS => XS.astoreN X2.here hx rfl (hb hby d12_11) rfl rfl (l' := #[vr a1, vr a2, vr a2]) rfl kS) ?_
  refine oaloadN X2 hx hby d12_12 rfl rfl ?_
  obtain ⟨T3, X3, e3, st3⟩ := getF X2 hx hZ hown (host := "") (Or.inl (own_w hw 91 rfl)) Via.refl e2 Fe1 (g := (mkF m 13 #[vr a1, vr a2, vr a2] [(.ref a1)])) rfl rfl (hb hby d12_13)
  refine own_st st3 ?_
  show gs T3 m 16 #[vr a1, vr a2, vr a2] [(.ref v1)]
  refine oaloadN X3 hx hby d12_16 rfl rfl ?_
  obtain ⟨T4, X4, e4, st4⟩ := getF X3 hx hZ hown (host := "") (Or.inl (own_w hw 91 rfl)) Via.refl e3 Fe2 (g := (mkF m 17 #[vr a1, vr a2, vr a2] [(.ref a2), (.ref v1)])) rfl rfl (hb hby d12_17)
  refine own_st st4 ?_
  show gs T4 m 20 #[vr a1, vr a2, vr a2] [(.ref v1), (.ref v1)]
  refine own_st (fun _ kS => Jvm.RoadKit.acmp (g := (mkF m 20 #[vr a1, vr a2, vr a2] [(.ref v1), (.ref v1)])) X4 hx rfl rfl rfl (pc0 := 20) (pc' := 23) (same := true) rfl (hb hby d12_20) rfl (decide_eq_true rfl) (by decide) (by decide) kS) ?_
  show gs T4 m 23 #[vr a1, vr a2, vr a2] []
  refine oaloadN X4 hx hby d12_23 rfl rfl ?_
  obtain ⟨T5, X5, e5, st5⟩ := getF X4 hx hZ hown (host := "") (Or.inl (own_w hw 95 rfl)) Via.refl e4 Ft1 (g := (mkF m 24 #[vr a1, vr a2, vr a2] [(.ref a1)])) rfl rfl (hb hby d12_24)
  refine own_st st5 ?_
  show gs T5 m 27 #[vr a1, vr a2, vr a2] [(.ref s1)]
  refine oaloadN X5 hx hby d12_27 rfl rfl ?_
  obtain ⟨T6, X6, e6, st6⟩ := getF X5 hx hZ hown (host := "") (Or.inl (own_w hw 95 rfl)) Via.refl e5 Ft2 (g := (mkF m 28 #[vr a1, vr a2, vr a2] [(.ref a2), (.ref s1)])) rfl rfl (hb hby d12_28)
  refine own_st st6 ?_
  show gs T6 m 31 #[vr a1, vr a2, vr a2] [(.ref s2), (.ref s1)]
  refine oV 0 X6 hx hZ hby hml hown (own_w hw 105 rfl) (own_w hw 106 rfl) (own_w hw 108 rfl) (own_w hw 107 rfl) (rm_strE_3_2 l Z a0 hw [] s1 s2 t1 t2 k1a k2a y0 y1 y2 z0 z1 z2 zCS h0 n0 Z0 O0 ne12 E_1 E_2 F1v F2v F1c F2c R_1 R_2 hq0 hq1 hq2 S_CS P_CS) (own_w hw 109 rfl) (own_w hw 47 rfl) e6 E_1 (by decide) own_pd8 d12_31 rfl rfl rfl (fun T7 L7 v7 X7 hQ7 => ?_)
  obtain ⟨rfl, Nq7, eq7⟩ := hQ7
  have N7 := Fr.app N0 Nq7
  show gs T7 m 34 #[vr a1, vr a2, vr a2] [(.int 0)]
  refine own_st (fun _ kS => XS.ifYes X7.here hx rfl (pc0 := 34) (pc' := 41) rfl (hb hby d12_34) rfl ((if0 _ _).trans (teq (by decide : (0 : Int32) = (0 : Int32))).1) (by decide) (by decide) kS) ?_
  show gs T7 m 41 #[vr a1, vr a2, vr a2] []
  refine oiconst X7 hx hby d12_41 ?_
  exact own_retN X7 hx hlk (t := .boolean) hret (by simp) (hb hby d12_42) (by decide) (by decide) (v' := (0 : Int32)) rfl (by rw [eq7]; exact ⟨rfl, N7, rfl⟩)
theorem ef_samT_3_2 (m : MethodId) (x0 : Int64) (x1 : Int64) : entryFrame m #[(.int 3), (.long x0), (.int 3), (.long x1)] 9 = mkF m 0 #[.val (.int 3), .val (.long x0), .second, .val (.int 3), .val (.long x1), .second, .unset, .unset, .unset] [] := by first | (simp [entryFrame, mkF, argsToLocals, Value.category]; done) | rfl
def Q_samT_3_2 (Z : State) (q1 : Int64) (q2 : Int64) (h0 : Heap) (n0 : Nat) (v : Option Value) (h : Heap) (L : List Loc) : Prop := v = some (.int 0) ∧ Fr n0 L ∧ h = h0
theorem rm_samT_3_2 (l : Launch) (Z : State) (a0 : Array Value) (hw : HW a0 Z) (ws : List Jvm.Cond) (q1 : Int64) (q2 : Int64) (h0 : Heap) (n0 : Nat) (Z0 : n0 ≤ h0.size) (hq0 : (own_ch q1 (0 : Int32)) = (own_ch q2 (0 : Int32))) (hq1 : (own_ch q1 (1 : Int32)) = (own_ch q2 (1 : Int32))) (hq2 : ¬ ((own_ch q1 (2 : Int32)) = (own_ch q2 (2 : Int32)))) :
    M12 l ws (rmk 1 0 0 15) Z #[(.int 3), (.long q1), (.int 3), (.long q2)] h0 (Q_samT_3_2 Z q1 q2 h0 n0) := by
  refine own_go "com/example/cartouche/cartouche/crosswalks/DcValueEqualsPinLaw" rfl (plainFor_of_name pn_15) (fun m => ef_samT_3_2 m q1 q2) (fun p e s m below meth c s₁ hx hby hml hown hnm hlk hret hZ X0 e0 => ?_)
  have N0 := Fr.nil n0
  show gs s₁ m 0 #[vi 3, .val (.long q1), .second, vi 3, .val (.long q2), .second, .unset, .unset, .unset] []
  refine oiloadN X0 hx hby d15_0 rfl ?_
  refine oiloadN X0 hx hby d15_1 rfl ?_
  refine own_st (fun _ kS => XS.icmpYes X0.here hx rfl (pc0 := 2) (pc' := 7) rfl (hb hby d15_2) rfl (teq (by decide : (3 : Int32) = (3 : Int32))).1 (by decide) (by decide) kS) ?_
  show gs s₁ m 7 #[vi 3, .val (.long q1), .second, vi 3, .val (.long q2), .second, .unset, .unset, .unset] []
  refine oiloadN X0 hx hby d15_7 rfl ?_
  refine oiconst X0 hx hby d15_8 ?_
  refine own_st (fun _ kS => XS.icmpNo X0.here hx rfl (hb hby d15_9) rfl (flt (by decide : ¬ ((3 : Int32) < (1 : Int32)))).1 kS) ?_
  show gs s₁ m 12 #[vi 3, .val (.long q1), .second, vi 3, .val (.long q2), .second, .unset, .unset, .unset] []
  refine own_st (fun _ kS => XT.lloadN X0.here hx rfl (hb hby d15_12) rfl kS) ?_
  refine oiconst X0 hx hby d15_13 ?_
  refine oS 0 X0 hx hZ hby hml hown (own_w hw 49 rfl) (own_w hw 50 rfl) (own_w hw 6 rfl) (own_w hw 51 rfl) (rm_ch l Z a0 hw [] q1 (0 : Int32) h0 n0 Z0  ) e0 (by decide) own_pd5 d15_14 rfl rfl rfl (fun T1 L1 v1 X1 hQ1 => ?_)
  obtain ⟨rfl, Nq1, eq1⟩ := hQ1
  have N1 := Fr.app N0 Nq1
  show gs T1 m 17 #[vi 3, .val (.long q1), .second, vi 3, .val (.long q2), .second, .unset, .unset, .unset] [(.int (own_ch q1 (0 : Int32)))]
  refine own_st (fun _ kS => XT.lload X1.here hx rfl (hb hby d15_17) rfl kS) ?_
  refine oiconst X1 hx hby d15_19 ?_
  refine oS 1 X1 hx hZ hby hml hown (own_w hw 49 rfl) (own_w hw 50 rfl) (own_w hw 6 rfl) (own_w hw 51 rfl) (rm_ch l Z a0 hw [] q2 (0 : Int32) h0 n0 Z0  ) eq1 (by decide) own_pd5 d15_20 rfl rfl rfl (fun T2 L2 v2 X2 hQ2 => ?_)
  obtain ⟨rfl, Nq2, eq2⟩ := hQ2
  have N2 := Fr.app N1 Nq2
  show gs T2 m 23 #[vi 3, .val (.long q1), .second, vi 3, .val (.long q2), .second, .unset, .unset, .unset] [(.int (own_ch q2 (0 : Int32))), (.int (own_ch q1 (0 : Int32)))]
  refine own_st (fun _ kS => XS.icmpNo X2.here hx rfl (hb hby d15_23) rfl (teq (hq0 : (own_ch q1 (0 : Int32)) = (own_ch q2 (0 : Int32)))).2 kS) ?_
  show gs T2 m 26 #[vi 3, .val (.long q1), .second, vi 3, .val (.long q2), .second, .unset, .unset, .unset] []
  refine oiconst X2 hx hby d15_26 ?_
  refine own_st (fun _ kS => XS.goto X2.here hx rfl (pc0 := 27) (pc' := 31) rfl (hb hby d15_27) (by decide) (by decide) kS) ?_
  refine own_st (fun _ kS => XS.istore X2.here hx rfl (hb hby d15_31) rfl (l' := #[vi 3, .val (.long q1), .second, vi 3, .val (.long q2), .second, vi 1, .unset, .unset]) rfl kS) ?_
  refine oiloadN X2 hx hby d15_33 rfl ?_
  refine oiconst X2 hx hby d15_34 ?_
  refine own_st (fun _ kS => XS.icmpNo X2.here hx rfl (hb hby d15_35) rfl (flt (by decide : ¬ ((3 : Int32) < (2 : Int32)))).1 kS) ?_
  show gs T2 m 38 #[vi 3, .val (.long q1), .second, vi 3, .val (.long q2), .second, vi 1, .unset, .unset] []
  refine own_st (fun _ kS => XT.lloadN X2.here hx rfl (hb hby d15_38) rfl kS) ?_
  refine oiconst X2 hx hby d15_39 ?_
  refine oS 0 X2 hx hZ hby hml hown (own_w hw 49 rfl) (own_w hw 50 rfl) (own_w hw 6 rfl) (own_w hw 51 rfl) (rm_ch l Z a0 hw [] q1 (1 : Int32) h0 n0 Z0  ) eq2 (by decide) own_pd5 d15_40 rfl rfl rfl (fun T3 L3 v3 X3 hQ3 => ?_)
  obtain ⟨rfl, Nq3, eq3⟩ := hQ3
  have N3 := Fr.app N2 Nq3
  show gs T3 m 43 #[vi 3, .val (.long q1), .second, vi 3, .val (.long q2), .second, vi 1, .unset, .unset] [(.int (own_ch q1 (1 : Int32)))]
  refine own_st (fun _ kS => XT.lload X3.here hx rfl (hb hby d15_43) rfl kS) ?_
  refine oiconst X3 hx hby d15_45 ?_
  refine oS 1 X3 hx hZ hby hml hown (own_w hw 49 rfl) (own_w hw 50 rfl) (own_w hw 6 rfl) (own_w hw 51 rfl) (rm_ch l Z a0 hw [] q2 (1 : Int32) h0 n0 Z0  ) eq3 (by decide) own_pd5 d15_46 rfl rfl rfl (fun T4 L4 v4 X4 hQ4 => ?_)
  obtain ⟨rfl, Nq4, eq4⟩ := hQ4
  have N4 := Fr.app N3 Nq4
  show gs T4 m 49 #[vi 3, .val (.long q1), .second, vi 3, .val (.long q2), .second, vi 1, .unset, .unset] [(.int (own_ch q2 (1 : Int32))), (.int (own_ch q1 (1 : Int32)))]
  refine own_st (fun _ kS => XS.icmpNo X4.here hx rfl (hb hby d15_49) rfl (teq (hq1 : (own_ch q1 (1 : Int32)) = (own_ch q2 (1 : Int32)))).2 kS) ?_
  show gs T4 m 52 #[vi 3, .val (.long q1), .second, vi 3, .val (.long q2), .second, vi 1, .unset, .unset] []
  refine oiconst X4 hx hby d15_52 ?_
  refine own_st (fun _ kS => XS.goto X4.here hx rfl (pc0 := 53) (pc' := 57) rfl (hb hby d15_53) (by decide) (by decide) kS) ?_
  refine own_st (fun _ kS => XS.istore X4.here hx rfl (hb hby d15_57) rfl (l' := #[vi 3, .val (.long q1), .second, vi 3, .val (.long q2), .second, vi 1, vi 1, .unset]) rfl kS) ?_
  refine oiloadN X4 hx hby d15_59 rfl ?_
  refine oiconst X4 hx hby d15_60 ?_
  refine own_st (fun _ kS => XS.icmpNo X4.here hx rfl (hb hby d15_61) rfl (flt (by decide : ¬ ((3 : Int32) < (3 : Int32)))).1 kS) ?_
  show gs T4 m 64 #[vi 3, .val (.long q1), .second, vi 3, .val (.long q2), .second, vi 1, vi 1, .unset] []
  refine own_st (fun _ kS => XT.lloadN X4.here hx rfl (hb hby d15_64) rfl kS) ?_
  refine oiconst X4 hx hby d15_65 ?_
  refine oS 0 X4 hx hZ hby hml hown (own_w hw 49 rfl) (own_w hw 50 rfl) (own_w hw 6 rfl) (own_w hw 51 rfl) (rm_ch l Z a0 hw [] q1 (2 : Int32) h0 n0 Z0  ) eq4 (by decide) own_pd5 d15_66 rfl rfl rfl (fun T5 L5 v5 X5 hQ5 => ?_)
  obtain ⟨rfl, Nq5, eq5⟩ := hQ5
  have N5 := Fr.app N4 Nq5
  show gs T5 m 69 #[vi 3, .val (.long q1), .second, vi 3, .val (.long q2), .second, vi 1, vi 1, .unset] [(.int (own_ch q1 (2 : Int32)))]
  refine own_st (fun _ kS => XT.lload X5.here hx rfl (hb hby d15_69) rfl kS) ?_
  refine oiconst X5 hx hby d15_71 ?_
  refine oS 1 X5 hx hZ hby hml hown (own_w hw 49 rfl) (own_w hw 50 rfl) (own_w hw 6 rfl) (own_w hw 51 rfl) (rm_ch l Z a0 hw [] q2 (2 : Int32) h0 n0 Z0  ) eq5 (by decide) own_pd5 d15_72 rfl rfl rfl (fun T6 L6 v6 X6 hQ6 => ?_)
  obtain ⟨rfl, Nq6, eq6⟩ := hQ6
  have N6 := Fr.app N5 Nq6
  show gs T6 m 75 #[vi 3, .val (.long q1), .second, vi 3, .val (.long q2), .second, vi 1, vi 1, .unset] [(.int (own_ch q2 (2 : Int32))), (.int (own_ch q1 (2 : Int32)))]
  refine own_st (fun _ kS => XS.icmpYes X6.here hx rfl (pc0 := 75) (pc' := 82) rfl (hb hby d15_75) rfl (feq (hq2 : ¬ ((own_ch q1 (2 : Int32)) = (own_ch q2 (2 : Int32))))).2 (by decide) (by decide) kS) ?_
  show gs T6 m 82 #[vi 3, .val (.long q1), .second, vi 3, .val (.long q2), .second, vi 1, vi 1, .unset] []
  refine oiconst X6 hx hby d15_82 ?_
  refine own_st (fun _ kS => XS.istore X6.here hx rfl (hb hby d15_83) rfl (l' := #[vi 3, .val (.long q1), .second, vi 3, .val (.long q2), .second, vi 1, vi 1, vi 0]) rfl kS) ?_
  refine oiload X6 hx hby d15_85 rfl ?_
  refine own_st (fun _ kS => XS.ifNo X6.here hx rfl (hb hby d15_87) rfl ((if0 _ _).trans (feq (by decide : ¬ ((1 : Int32) = (0 : Int32)))).1) kS) ?_
  show gs T6 m 90 #[vi 3, .val (.long q1), .second, vi 3, .val (.long q2), .second, vi 1, vi 1, vi 0] []
  refine oiload X6 hx hby d15_90 rfl ?_
  refine own_st (fun _ kS => XS.ifNo X6.here hx rfl (hb hby d15_92) rfl ((if0 _ _).trans (feq (by decide : ¬ ((1 : Int32) = (0 : Int32)))).1) kS) ?_
  show gs T6 m 95 #[vi 3, .val (.long q1), .second, vi 3, .val (.long q2), .second, vi 1, vi 1, vi 0] []
  refine oiload X6 hx hby d15_95 rfl ?_
  refine own_st (fun _ kS => XS.ifYes X6.here hx rfl (pc0 := 97) (pc' := 104) rfl (hb hby d15_97) rfl ((if0 _ _).trans (teq (by decide : (0 : Int32) = (0 : Int32))).1) (by decide) (by decide) kS) ?_
  show gs T6 m 104 #[vi 3, .val (.long q1), .second, vi 3, .val (.long q2), .second, vi 1, vi 1, vi 0] []
  refine oiconst X6 hx hby d15_104 ?_
  exact own_retN X6 hx hlk (t := .boolean) hret (by simp) (hb hby d15_105) (by decide) (by decide) (v' := (0 : Int32)) rfl (by rw [eq6]; exact ⟨rfl, N6, rfl⟩)
theorem ef_latN (m : MethodId) (x0 : Addr) (x1 : Addr) : entryFrame m #[(.ref x0), (.ref x1)] 3 = mkF m 0 #[.val (.ref x0), .val (.ref x1), .unset] [] := by first | (simp [entryFrame, mkF, argsToLocals, Value.category]; done) | rfl
def Q_latN (Z : State) (t1 : Addr) (t2 : Addr) (k1a : ClassId) (k2a : ClassId) (n1 : Int32) (n2 : Int32) (vs1 : List Value) (vs2 : List Value) (h0 : Heap) (n0 : Nat) (v : Option Value) (h : Heap) (L : List Loc) : Prop := v = some (.int 0) ∧ Fr n0 L ∧ h = h0
theorem rm_latN (l : Launch) (Z : State) (a0 : Array Value) (hw : HW a0 Z) (ws : List Jvm.Cond) (t1 : Addr) (t2 : Addr) (k1a : ClassId) (k2a : ClassId) (n1 : Int32) (n2 : Int32) (vs1 : List Value) (vs2 : List Value) (h0 : Heap) (n0 : Nat) (Z0 : n0 ≤ h0.size) (R_1 : Arv Z h0 t1 k1a .byte n1 vs1 (.int 0)) (R_2 : Arv Z h0 t2 k2a .byte n2 vs2 (.int 0)) (hne : ¬ (n1 = n2)) :
    M9 l ws (rmk 0 0 0 0) Z #[(.ref t1), (.ref t2)] h0 (Q_latN Z t1 t2 k1a k2a n1 n2 vs1 vs2 h0 n0) := by
  refine own_go "java/lang/StringLatin1" rfl (plainFor_of_name pn_16) (fun m => ef_latN m t1 t2) (fun p e s m below meth c s₁ hx hby hml hown hnm hlk hret hZ X0 e0 => ?_)
  have N0 := Fr.nil n0
  show gs s₁ m 0 #[vr t1, vr t2, .unset] []
  refine oaloadN X0 hx hby d16_0 rfl rfl ?_
  show gs s₁ m 1 #[vr t1, vr t2, .unset] [(.ref t1)]
  obtain ⟨cl1, Ar1, qa1, qs1, qn1, qh1, qg1⟩ := id R_1
  refine own_st (fun _ kS => X0.arraylength hx (by rw [e0]; exact Ar1.1) (State.isArrayOf_alike hZ.alike Ar1.2.1) (g := (mkF m 1 #[vr t1, vr t2, .unset] [(.ref t1)])) rfl rfl (hb hby d16_1) _ kS) ?_
  rw [len_of qs1 qn1]
  show gs s₁ m 2 #[vr t1, vr t2, .unset] [(.int n1)]
  refine oaloadN X0 hx hby d16_2 rfl rfl ?_
  show gs s₁ m 3 #[vr t1, vr t2, .unset] [(.ref t2), (.int n1)]
  obtain ⟨cl2, Ar2, qa2, qs2, qn2, qh2, qg2⟩ := id R_2
  refine own_st (fun _ kS => X0.arraylength hx (by rw [e0]; exact Ar2.1) (State.isArrayOf_alike hZ.alike Ar2.2.1) (g := (mkF m 3 #[vr t1, vr t2, .unset] [(.ref t2), (.int n1)])) rfl rfl (hb hby d16_3) _ kS) ?_
  rw [len_of qs2 qn2]
  show gs s₁ m 4 #[vr t1, vr t2, .unset] [(.int n2), (.int n1)]
  refine own_st (fun _ kS => XS.icmpYes X0.here hx rfl (pc0 := 4) (pc' := 34) rfl (hb hby d16_4) rfl (feq (hne : ¬ (n1 = n2))).2 (by decide) (by decide) kS) ?_
  show gs s₁ m 34 #[vr t1, vr t2, .unset] []
  refine oiconst X0 hx hby d16_34 ?_
  exact own_retN X0 hx hlk (t := .boolean) hret (by simp) (hb hby d16_35) (by decide) (by decide) (v' := (0 : Int32)) rfl (by rw [e0]; exact ⟨rfl, N0, rfl⟩)
theorem ef_strN (m : MethodId) (x0 : Addr) (x1 : Addr) : entryFrame m #[(.ref x0), (.ref x1)] 3 = mkF m 0 #[.val (.ref x0), .val (.ref x1), .unset] [] := by first | (simp [entryFrame, mkF, argsToLocals, Value.category]; done) | rfl
def Q_strN (Z : State) (s1 : Addr) (s2 : Addr) (t1 : Addr) (t2 : Addr) (k1a : ClassId) (k2a : ClassId) (n1 : Int32) (n2 : Int32) (vs1 : List Value) (vs2 : List Value) (zCS : Int32) (h0 : Heap) (n0 : Nat) (v : Option Value) (h : Heap) (L : List Loc) : Prop := v = some (.int 0) ∧ Fr n0 L ∧ h = h0
theorem rm_strN (l : Launch) (Z : State) (a0 : Array Value) (hw : HW a0 Z) (ws : List Jvm.Cond) (s1 : Addr) (s2 : Addr) (t1 : Addr) (t2 : Addr) (k1a : ClassId) (k2a : ClassId) (n1 : Int32) (n2 : Int32) (vs1 : List Value) (vs2 : List Value) (zCS : Int32) (h0 : Heap) (n0 : Nat) (Z0 : n0 ≤ h0.size) (O0 : Old Z n0 h0) (ne12 : s1 ≠ s2) (E_1 : ek21 Z h0 s1) (E_2 : ek21 Z h0 s2) (F1v : fk17 Z h0 s1 (.ref t1)) (F2v : fk17 Z h0 s2 (.ref t2)) (F1c : fk16 Z h0 s1 (.int 0)) (F2c : fk16 Z h0 s2 (.int 0)) (R_1 : Arv Z h0 t1 k1a .byte n1 vs1 (.int 0)) (R_2 : Arv Z h0 t2 k2a .byte n2 vs2 (.int 0)) (hne : ¬ (n1 = n2)) (S_CS : sk0 Z Z.heap (.int zCS)) (P_CS : ¬ zCS = 0) :
    M10 l ws (rmk 1 0 0 14) Z #[(.ref s1), (.ref s2)] h0 (Q_strN Z s1 s2 t1 t2 k1a k2a n1 n2 vs1 vs2 zCS h0 n0) := by
  refine own_go "java/lang/String" rfl (plainFor_of_name pn_13) (fun m => ef_strN m s1 s2) (fun p e s m below meth c s₁ hx hby hml hown hnm hlk hret hZ X0 e0 => ?_)
  have N0 := Fr.nil n0
  show gs s₁ m 0 #[vr s1, vr s2, .unset] []
  refine oaloadN X0 hx hby d13_0 rfl rfl ?_
  refine oaloadN X0 hx hby d13_1 rfl rfl ?_
  show gs s₁ m 2 #[vr s1, vr s2, .unset] [(.ref s2), (.ref s1)]
  refine own_st (fun _ kS => Jvm.RoadKit.acmp (g := (mkF m 2 #[vr s1, vr s2, .unset] [(.ref s2), (.ref s1)])) X0 hx rfl rfl rfl (pc0 := 2) (pc' := 7) (same := false) rfl (hb hby d13_2) rfl (decide_eq_false fun q => ne12 (Value.ref.inj q)) (by decide) (by decide) kS) ?_
  show gs s₁ m 7 #[vr s1, vr s2, .unset] []
  refine oaloadN X0 hx hby d13_7 rfl rfl ?_
  obtain ⟨T1, X1, e1, st1⟩ := instY X0 hx hZ hown (own_w hw 120 rfl) e0 (Ins.self E_2) (g := (mkF m 8 #[vr s1, vr s2, .unset] [(.ref s2)])) rfl rfl (hb hby d13_8)
  refine own_st st1 ?_
  show gs T1 m 11 #[vr s1, vr s2, .unset] [(.int 1)]
  refine own_st (fun _ kS => XS.ifNo X1.here hx rfl (hb hby d13_11) rfl ((if0 _ _).trans (feq (by decide : ¬ ((1 : Int32) = (0 : Int32)))).1) kS) ?_
  show gs T1 m 14 #[vr s1, vr s2, .unset] []
  refine oaloadN X1 hx hby d13_14 rfl rfl ?_
  obtain ⟨T2, X2, e2, st2⟩ := castY X1 hx hZ hown (own_w hw 120 rfl) e1 (Ins.self E_2) (g := (mkF m 15 #[vr s1, vr s2, .unset] [(.ref s2)])) rfl rfl (hb hby d13_15)
  refine own_st st2 ?_
  show gs T2 m 18 #[vr s1, vr s2, .unset] [(.ref s2)]
  refine own_st (fun _ kS => XS.astoreN X2.here hx rfl (hb hby d13_18) rfl rfl (l' := #[vr s1, vr s2, vr s2]) rfl kS) ?_
  show gs T2 m 19 #[vr s1, vr s2, vr s2] []
  obtain ⟨T3, X3, e3, st3⟩ := getS2 X2 hx hZ hown (host := "") (Or.inl (own_w hw 63 rfl)) Via.refl e2 (Sta.ext O0.2 S_CS) (g := (mkF m 19 #[vr s1, vr s2, vr s2] [])) rfl (hb hby d13_19)
  refine own_st st3 ?_
  show gs T3 m 22 #[vr s1, vr s2, vr s2] [(.int zCS)]
  refine own_st (fun _ kS => XS.ifNo X3.here hx rfl (hb hby d13_22) rfl ((if0 _ _).trans (feq (P_CS : ¬ (zCS = (0 : Int32)))).1) kS) ?_
  show gs T3 m 25 #[vr s1, vr s2, vr s2] []
  refine oaloadN X3 hx hby d13_25 rfl rfl ?_
  obtain ⟨T4, X4, e4, st4⟩ := getF X3 hx hZ hown (host := "") (Or.inl (own_w hw 75 rfl)) Via.refl e3 F1c (g := (mkF m 26 #[vr s1, vr s2, vr s2] [(.ref s1)])) rfl rfl (hb hby d13_26)
  refine own_st st4 ?_
  show gs T4 m 29 #[vr s1, vr s2, vr s2] [(.int 0)]
  refine oaloadN X4 hx hby d13_29 rfl rfl ?_
  obtain ⟨T5, X5, e5, st5⟩ := getF X4 hx hZ hown (host := "") (Or.inl (own_w hw 75 rfl)) Via.refl e4 F2c (g := (mkF m 30 #[vr s1, vr s2, vr s2] [(.ref s2), (.int 0)])) rfl rfl (hb hby d13_30)
  refine own_st st5 ?_
  show gs T5 m 33 #[vr s1, vr s2, vr s2] [(.int 0), (.int 0)]
  refine own_st (fun _ kS => XS.icmpNo X5.here hx rfl (hb hby d13_33) rfl (teq (by decide : (0 : Int32) = (0 : Int32))).2 kS) ?_
  show gs T5 m 36 #[vr s1, vr s2, vr s2] []
  refine oaloadN X5 hx hby d13_36 rfl rfl ?_
  obtain ⟨T6, X6, e6, st6⟩ := getF X5 hx hZ hown (host := "") (Or.inl (own_w hw 77 rfl)) Via.refl e5 F1v (g := (mkF m 37 #[vr s1, vr s2, vr s2] [(.ref s1)])) rfl rfl (hb hby d13_37)
  refine own_st st6 ?_
  show gs T6 m 40 #[vr s1, vr s2, vr s2] [(.ref t1)]
  refine oaloadN X6 hx hby d13_40 rfl rfl ?_
  obtain ⟨T7, X7, e7, st7⟩ := getF X6 hx hZ hown (host := "") (Or.inl (own_w hw 77 rfl)) Via.refl e6 F2v (g := (mkF m 41 #[vr s1, vr s2, vr s2] [(.ref s2), (.ref t1)])) rfl rfl (hb hby d13_41)
  refine own_st st7 ?_
  show gs T7 m 44 #[vr s1, vr s2, vr s2] [(.ref t2), (.ref t1)]
  refine oS 0 X7 hx hZ hby hml hown (own_w hw 121 rfl) (own_w hw 122 rfl) (own_w hw 123 rfl) (own_w hw 124 rfl) (rm_latN l Z a0 hw [] t1 t2 k1a k2a n1 n2 vs1 vs2 h0 n0 Z0  R_1 R_2 hne) e7 (by decide) own_pd7 d13_44 rfl rfl rfl (fun T8 L8 v8 X8 hQ8 => ?_)
  obtain ⟨rfl, Nq8, eq8⟩ := hQ8
  have N8 := Fr.app N0 Nq8
  show gs T8 m 47 #[vr s1, vr s2, vr s2] [(.int 0)]
  refine own_st (fun _ kS => XS.ifYes X8.here hx rfl (pc0 := 47) (pc' := 54) rfl (hb hby d13_47) rfl ((if0 _ _).trans (teq (by decide : (0 : Int32) = (0 : Int32))).1) (by decide) (by decide) kS) ?_
  show gs T8 m 54 #[vr s1, vr s2, vr s2] []
  refine oiconst X8 hx hby d13_54 ?_
  exact own_retN X8 hx hlk (t := .boolean) hret (by simp) (hb hby d13_55) (by decide) (by decide) (v' := (0 : Int32)) rfl (by rw [eq8]; exact ⟨rfl, N8, rfl⟩)
theorem ef_dcN (m : MethodId) (x0 : Addr) (x1 : Addr) : entryFrame m #[(.ref x0), (.ref x1)] 3 = mkF m 0 #[.val (.ref x0), .val (.ref x1), .unset] [] := by first | (simp [entryFrame, mkF, argsToLocals, Value.category]; done) | rfl
def Q_dcN (Z : State) (a1 : Addr) (a2 : Addr) (v1 : Addr) (s1 : Addr) (s2 : Addr) (t1 : Addr) (t2 : Addr) (k1a : ClassId) (k2a : ClassId) (n1 : Int32) (n2 : Int32) (vs1 : List Value) (vs2 : List Value) (zCS : Int32) (h0 : Heap) (n0 : Nat) (v : Option Value) (h : Heap) (L : List Loc) : Prop := v = some (.int 0) ∧ Fr n0 L ∧ h = h0
theorem rm_dcN (l : Launch) (Z : State) (a0 : Array Value) (hw : HW a0 Z) (ws : List Jvm.Cond) (a1 : Addr) (a2 : Addr) (v1 : Addr) (s1 : Addr) (s2 : Addr) (t1 : Addr) (t2 : Addr) (k1a : ClassId) (k2a : ClassId) (n1 : Int32) (n2 : Int32) (vs1 : List Value) (vs2 : List Value) (zCS : Int32) (h0 : Heap) (n0 : Nat) (Z0 : n0 ≤ h0.size) (O0 : Old Z n0 h0) (E_a : ek22 Z h0 a1) (E_b : ek22 Z h0 a2) (Fe1 : fk18 Z h0 a1 (.ref v1)) (Ft1 : fk19 Z h0 a1 (.ref s1)) (Fe2 : fk18 Z h0 a2 (.ref v1)) (Ft2 : fk19 Z h0 a2 (.ref s2)) (ne12 : s1 ≠ s2) (E_1 : ek21 Z h0 s1) (E_2 : ek21 Z h0 s2) (F1v : fk17 Z h0 s1 (.ref t1)) (F2v : fk17 Z h0 s2 (.ref t2)) (F1c : fk16 Z h0 s1 (.int 0)) (F2c : fk16 Z h0 s2 (.int 0)) (R_1 : Arv Z h0 t1 k1a .byte n1 vs1 (.int 0)) (R_2 : Arv Z h0 t2 k2a .byte n2 vs2 (.int 0)) (hne : ¬ (n1 = n2)) (S_CS : sk0 Z Z.heap (.int zCS)) (P_CS : ¬ zCS = 0) :
    M11 l ws (rmk 2 0 0 28) Z #[(.ref a1), (.ref a2)] h0 (Q_dcN Z a1 a2 v1 s1 s2 t1 t2 k1a k2a n1 n2 vs1 vs2 zCS h0 n0) := by
  refine own_go "com/example/cartouche/cartouche/crosswalks/DcValue" rfl (plainFor_of_name pn_12) (fun m => ef_dcN m a1 a2) (fun p e s m below meth c s₁ hx hby hml hown hnm hlk hret hZ X0 e0 => ?_)
  have N0 := Fr.nil n0
  show gs s₁ m 0 #[vr a1, vr a2, .unset] []
  refine oaloadN X0 hx hby d12_0 rfl rfl ?_
  obtain ⟨T1, X1, e1, st1⟩ := instY X0 hx hZ hown (own_w hw 103 rfl) e0 (Ins.self E_b) (g := (mkF m 1 #[vr a1, vr a2, .unset] [(.ref a2)])) rfl rfl (hb hby d12_1)
  refine own_st st1 ?_
  show gs T1 m 4 #[vr a1, vr a2, .unset] [(.int 1)]
  refine own_st (fun _ kS => XS.ifNo X1.here hx rfl (hb hby d12_4) rfl ((if0 _ _).trans (feq (by decide : ¬ ((1 : Int32) = (0 : Int32)))).1) kS) ?_
  show gs T1 m 7 #[vr a1, vr a2, .unset] []
  refine oaloadN X1 hx hby d12_7 rfl rfl ?_
  obtain ⟨T2, X2, e2, st2⟩ := castY X1 hx hZ hown (own_w hw 103 rfl) e1 (Ins.self E_b) (g := (mkF m 8 #[vr a1, vr a2, .unset] [(.ref a2)])) rfl rfl (hb hby d12_8)
  refine own_st st2 ?_
  show gs T2 m 11 #[vr a1, vr a2, .unset] [(.ref a2)]
  refine own_st (fun _ kS => XS.astoreN X2.here hx rfl (hb hby d12_11) rfl rfl (l' := #[vr a1, vr a2, vr a2]) rfl kS) ?_
  refine oaloadN X2 hx hby d12_12 rfl rfl ?_
  obtain ⟨T3, X3, e3, st3⟩ := getF X2 hx hZ hown (host := "") (Or.inl (own_w hw 91 rfl)) Via.refl e2 Fe1 (g := (mkF m 13 #[vr a1, vr a2, vr a2] [(.ref a1)])) rfl rfl (hb hby d12_13)
  refine own_st st3 ?_
  show gs T3 m 16 #[vr a1, vr a2, vr a2] [(.ref v1)]
  refine oaloadN X3 hx hby d12_16 rfl rfl ?_
  obtain ⟨T4, X4, e4, st4⟩ := getF X3 hx hZ hown (host := "") (Or.inl (own_w hw 91 rfl)) Via.refl e3 Fe2 (g := (mkF m 17 #[vr a1, vr a2, vr a2] [(.ref a2), (.ref v1)])) rfl rfl (hb hby d12_17)
  refine own_st st4 ?_
  show gs T4 m 20 #[vr a1, vr a2, vr a2] [(.ref v1), (.ref v1)]
  refine own_st (fun _ kS => Jvm.RoadKit.acmp (g := (mkF m 20 #[vr a1, vr a2, vr a2] [(.ref v1), (.ref v1)])) X4 hx rfl rfl rfl (pc0 := 20) (pc' := 23) (same := true) rfl (hb hby d12_20) rfl (decide_eq_true rfl) (by decide) (by decide) kS) ?_
  show gs T4 m 23 #[vr a1, vr a2, vr a2] []
  refine oaloadN X4 hx hby d12_23 rfl rfl ?_
  obtain ⟨T5, X5, e5, st5⟩ := getF X4 hx hZ hown (host := "") (Or.inl (own_w hw 95 rfl)) Via.refl e4 Ft1 (g := (mkF m 24 #[vr a1, vr a2, vr a2] [(.ref a1)])) rfl rfl (hb hby d12_24)
  refine own_st st5 ?_
  show gs T5 m 27 #[vr a1, vr a2, vr a2] [(.ref s1)]
  refine oaloadN X5 hx hby d12_27 rfl rfl ?_
  obtain ⟨T6, X6, e6, st6⟩ := getF X5 hx hZ hown (host := "") (Or.inl (own_w hw 95 rfl)) Via.refl e5 Ft2 (g := (mkF m 28 #[vr a1, vr a2, vr a2] [(.ref a2), (.ref s1)])) rfl rfl (hb hby d12_28)
  refine own_st st6 ?_
  show gs T6 m 31 #[vr a1, vr a2, vr a2] [(.ref s2), (.ref s1)]
  refine oV 0 X6 hx hZ hby hml hown (own_w hw 105 rfl) (own_w hw 106 rfl) (own_w hw 108 rfl) (own_w hw 107 rfl) (rm_strN l Z a0 hw [] s1 s2 t1 t2 k1a k2a n1 n2 vs1 vs2 zCS h0 n0 Z0 O0 ne12 E_1 E_2 F1v F2v F1c F2c R_1 R_2 hne S_CS P_CS) (own_w hw 109 rfl) (own_w hw 47 rfl) e6 E_1 (by decide) own_pd8 d12_31 rfl rfl rfl (fun T7 L7 v7 X7 hQ7 => ?_)
  obtain ⟨rfl, Nq7, eq7⟩ := hQ7
  have N7 := Fr.app N0 Nq7
  show gs T7 m 34 #[vr a1, vr a2, vr a2] [(.int 0)]
  refine own_st (fun _ kS => XS.ifYes X7.here hx rfl (pc0 := 34) (pc' := 41) rfl (hb hby d12_34) rfl ((if0 _ _).trans (teq (by decide : (0 : Int32) = (0 : Int32))).1) (by decide) (by decide) kS) ?_
  show gs T7 m 41 #[vr a1, vr a2, vr a2] []
  refine oiconst X7 hx hby d12_41 ?_
  exact own_retN X7 hx hlk (t := .boolean) hret (by simp) (hb hby d12_42) (by decide) (by decide) (v' := (0 : Int32)) rfl (by rw [eq7]; exact ⟨rfl, N7, rfl⟩)
theorem ef_dcEl (m : MethodId) (x0 : Addr) (x1 : Addr) : entryFrame m #[(.ref x0), (.ref x1)] 3 = mkF m 0 #[.val (.ref x0), .val (.ref x1), .unset] [] := by first | (simp [entryFrame, mkF, argsToLocals, Value.category]; done) | rfl
def Q_dcEl (Z : State) (a1 : Addr) (a2 : Addr) (v1 : Addr) (v2 : Addr) (h0 : Heap) (n0 : Nat) (v : Option Value) (h : Heap) (L : List Loc) : Prop := v = some (.int 0) ∧ Fr n0 L ∧ h = h0
theorem rm_dcEl (l : Launch) (Z : State) (a0 : Array Value) (hw : HW a0 Z) (ws : List Jvm.Cond) (a1 : Addr) (a2 : Addr) (v1 : Addr) (v2 : Addr) (h0 : Heap) (n0 : Nat) (Z0 : n0 ≤ h0.size) (E_a : ek22 Z h0 a1) (E_b : ek22 Z h0 a2) (Fe1 : fk18 Z h0 a1 (.ref v1)) (Fe2 : fk18 Z h0 a2 (.ref v2)) (nev : v1 ≠ v2) :
    M11 l ws (rmk 0 0 0 0) Z #[(.ref a1), (.ref a2)] h0 (Q_dcEl Z a1 a2 v1 v2 h0 n0) := by
  refine own_go "com/example/cartouche/cartouche/crosswalks/DcValue" rfl (plainFor_of_name pn_12) (fun m => ef_dcEl m a1 a2) (fun p e s m below meth c s₁ hx hby hml hown hnm hlk hret hZ X0 e0 => ?_)
  have N0 := Fr.nil n0
  show gs s₁ m 0 #[vr a1, vr a2, .unset] []
  refine oaloadN X0 hx hby d12_0 rfl rfl ?_
  obtain ⟨T1, X1, e1, st1⟩ := instY X0 hx hZ hown (own_w hw 103 rfl) e0 (Ins.self E_b) (g := (mkF m 1 #[vr a1, vr a2, .unset] [(.ref a2)])) rfl rfl (hb hby d12_1)
  refine own_st st1 ?_
  show gs T1 m 4 #[vr a1, vr a2, .unset] [(.int 1)]
  refine own_st (fun _ kS => XS.ifNo X1.here hx rfl (hb hby d12_4) rfl ((if0 _ _).trans (feq (by decide : ¬ ((1 : Int32) = (0 : Int32)))).1) kS) ?_
  show gs T1 m 7 #[vr a1, vr a2, .unset] []
  refine oaloadN X1 hx hby d12_7 rfl rfl ?_
  obtain ⟨T2, X2, e2, st2⟩ := castY X1 hx hZ hown (own_w hw 103 rfl) e1 (Ins.self E_b) (g := (mkF m 8 #[vr a1, vr a2, .unset] [(.ref a2)])) rfl rfl (hb hby d12_8)
  refine own_st st2 ?_
  show gs T2 m 11 #[vr a1, vr a2, .unset] [(.ref a2)]
  refine own_st (fun _ kS => XS.astoreN X2.here hx rfl (hb hby d12_11) rfl rfl (l' := #[vr a1, vr a2, vr a2]) rfl kS) ?_
  refine oaloadN X2 hx hby d12_12 rfl rfl ?_
  obtain ⟨T3, X3, e3, st3⟩ := getF X2 hx hZ hown (host := "") (Or.inl (own_w hw 91 rfl)) Via.refl e2 Fe1 (g := (mkF m 13 #[vr a1, vr a2, vr a2] [(.ref a1)])) rfl rfl (hb hby d12_13)
  refine own_st st3 ?_
  show gs T3 m 16 #[vr a1, vr a2, vr a2] [(.ref v1)]
  refine oaloadN X3 hx hby d12_16 rfl rfl ?_
  obtain ⟨T4, X4, e4, st4⟩ := getF X3 hx hZ hown (host := "") (Or.inl (own_w hw 91 rfl)) Via.refl e3 Fe2 (g := (mkF m 17 #[vr a1, vr a2, vr a2] [(.ref a2), (.ref v1)])) rfl rfl (hb hby d12_17)
  refine own_st st4 ?_
  show gs T4 m 20 #[vr a1, vr a2, vr a2] [(.ref v2), (.ref v1)]
  refine own_st (fun _ kS => Jvm.RoadKit.acmp (g := (mkF m 20 #[vr a1, vr a2, vr a2] [(.ref v2), (.ref v1)])) X4 hx rfl rfl rfl (pc0 := 20) (pc' := 41) (same := false) rfl (hb hby d12_20) rfl (decide_eq_false fun q => nev (Value.ref.inj q)) (by decide) (by decide) kS) ?_
  show gs T4 m 41 #[vr a1, vr a2, vr a2] []
  refine oiconst X4 hx hby d12_41 ?_
  exact own_retN X4 hx hlk (t := .boolean) hret (by simp) (hb hby d12_42) (by decide) (by decide) (v' := (0 : Int32)) rfl (by rw [e4]; exact ⟨rfl, N0, rfl⟩)
theorem ef_samN (m : MethodId) (x0 : Int32) (x1 : Int64) (x2 : Int32) (x3 : Int64) : entryFrame m #[(.int x0), (.long x1), (.int x2), (.long x3)] 9 = mkF m 0 #[.val (.int x0), .val (.long x1), .second, .val (.int x2), .val (.long x3), .second, .unset, .unset, .unset] [] := by first | (simp [entryFrame, mkF, argsToLocals, Value.category]; done) | rfl
def Q_samN (Z : State) (n1 : Int32) (q1 : Int64) (n2 : Int32) (q2 : Int64) (h0 : Heap) (n0 : Nat) (v : Option Value) (h : Heap) (L : List Loc) : Prop := v = some (.int 0) ∧ Fr n0 L ∧ h = h0
theorem rm_samN (l : Launch) (Z : State) (a0 : Array Value) (hw : HW a0 Z) (ws : List Jvm.Cond) (n1 : Int32) (q1 : Int64) (n2 : Int32) (q2 : Int64) (h0 : Heap) (n0 : Nat) (Z0 : n0 ≤ h0.size) (hne : ¬ (n1 = n2)) :
    M12 l ws (rmk 0 0 0 0) Z #[(.int n1), (.long q1), (.int n2), (.long q2)] h0 (Q_samN Z n1 q1 n2 q2 h0 n0) := by
  refine own_go "com/example/cartouche/cartouche/crosswalks/DcValueEqualsPinLaw" rfl (plainFor_of_name pn_15) (fun m => ef_samN m n1 q1 n2 q2) (fun p e s m below meth c s₁ hx hby hml hown hnm hlk hret hZ X0 e0 => ?_)
  have N0 := Fr.nil n0
  show gs s₁ m 0 #[vi n1, .val (.long q1), .second, vi n2, .val (.long q2), .second, .unset, .unset, .unset] []
  refine oiloadN X0 hx hby d15_0 rfl ?_
  refine oiloadN X0 hx hby d15_1 rfl ?_
  refine own_st (fun _ kS => XS.icmpNo X0.here hx rfl (hb hby d15_2) rfl (feq (hne : ¬ (n1 = n2))).1 kS) ?_
  show gs s₁ m 5 #[vi n1, .val (.long q1), .second, vi n2, .val (.long q2), .second, .unset, .unset, .unset] []
  refine oiconst X0 hx hby d15_5 ?_
  exact own_retN X0 hx hlk (t := .boolean) hret (by simp) (hb hby d15_6) (by decide) (by decide) (v' := (0 : Int32)) rfl (by rw [e0]; exact ⟨rfl, N0, rfl⟩)
theorem ef_strS (m : MethodId) (x0 : Addr) : entryFrame m #[(.ref x0), (.ref x0)] 3 = mkF m 0 #[.val (.ref x0), .val (.ref x0), .unset] [] := by first | (simp [entryFrame, mkF, argsToLocals, Value.category]; done) | rfl
def Q_strS (Z : State) (s1 : Addr) (h0 : Heap) (n0 : Nat) (v : Option Value) (h : Heap) (L : List Loc) : Prop := v = some (.int 1) ∧ Fr n0 L ∧ h = h0
theorem rm_strS (l : Launch) (Z : State) (a0 : Array Value) (hw : HW a0 Z) (ws : List Jvm.Cond) (s1 : Addr) (h0 : Heap) (n0 : Nat) (Z0 : n0 ≤ h0.size)  :
    M10 l ws (rmk 0 0 0 0) Z #[(.ref s1), (.ref s1)] h0 (Q_strS Z s1 h0 n0) := by
  refine own_go "java/lang/String" rfl (plainFor_of_name pn_13) (fun m => ef_strS m s1) (fun p e s m below meth c s₁ hx hby hml hown hnm hlk hret hZ X0 e0 => ?_)
  have N0 := Fr.nil n0
  show gs s₁ m 0 #[vr s1, vr s1, .unset] []
  refine oaloadN X0 hx hby d13_0 rfl rfl ?_
  refine oaloadN X0 hx hby d13_1 rfl rfl ?_
  show gs s₁ m 2 #[vr s1, vr s1, .unset] [(.ref s1), (.ref s1)]
  refine own_st (fun _ kS => Jvm.RoadKit.acmp (g := (mkF m 2 #[vr s1, vr s1, .unset] [(.ref s1), (.ref s1)])) X0 hx rfl rfl rfl (pc0 := 2) (pc' := 5) (same := true) rfl (hb hby d13_2) rfl (decide_eq_true rfl) (by decide) (by decide) kS) ?_
  show gs s₁ m 5 #[vr s1, vr s1, .unset] []
  refine oiconst X0 hx hby d13_5 ?_
  exact own_retN X0 hx hlk (t := .boolean) hret (by simp) (hb hby d13_6) (by decide) (by decide) (v' := (1 : Int32)) rfl (by rw [e0]; exact ⟨rfl, N0, rfl⟩)
theorem ef_dcS (m : MethodId) (x0 : Addr) : entryFrame m #[(.ref x0), (.ref x0)] 3 = mkF m 0 #[.val (.ref x0), .val (.ref x0), .unset] [] := by first | (simp [entryFrame, mkF, argsToLocals, Value.category]; done) | rfl
def Q_dcS (Z : State) (a1 : Addr) (v1 : Addr) (s1 : Addr) (h0 : Heap) (n0 : Nat) (v : Option Value) (h : Heap) (L : List Loc) : Prop := v = some (.int 1) ∧ Fr n0 L ∧ h = h0
theorem rm_dcS (l : Launch) (Z : State) (a0 : Array Value) (hw : HW a0 Z) (ws : List Jvm.Cond) (a1 : Addr) (v1 : Addr) (s1 : Addr) (h0 : Heap) (n0 : Nat) (Z0 : n0 ≤ h0.size) (E_a : ek22 Z h0 a1) (E_1 : ek21 Z h0 s1) (Fe1 : fk18 Z h0 a1 (.ref v1)) (Ft1 : fk19 Z h0 a1 (.ref s1)) :
    M11 l ws (rmk 1 0 0 14) Z #[(.ref a1), (.ref a1)] h0 (Q_dcS Z a1 v1 s1 h0 n0) := by
  refine own_go "com/example/cartouche/cartouche/crosswalks/DcValue" rfl (plainFor_of_name pn_12) (fun m => ef_dcS m a1) (fun p e s m below meth c s₁ hx hby hml hown hnm hlk hret hZ X0 e0 => ?_)
  have N0 := Fr.nil n0
  show gs s₁ m 0 #[vr a1, vr a1, .unset] []
  refine oaloadN X0 hx hby d12_0 rfl rfl ?_
  obtain ⟨T1, X1, e1, st1⟩ := instY X0 hx hZ hown (own_w hw 103 rfl) e0 (Ins.self E_a) (g := (mkF m 1 #[vr a1, vr a1, .unset] [(.ref a1)])) rfl rfl (hb hby d12_1)
  refine own_st st1 ?_
  show gs T1 m 4 #[vr a1, vr a1, .unset] [(.int 1)]
  refine own_st (fun _ kS => XS.ifNo X1.here hx rfl (hb hby d12_4) rfl ((if0 _ _).trans (feq (by decide : ¬ ((1 : Int32) = (0 : Int32)))).1) kS) ?_
  show gs T1 m 7 #[vr a1, vr a1, .unset] []
  refine oaloadN X1 hx hby d12_7 rfl rfl ?_
  obtain ⟨T2, X2, e2, st2⟩ := castY X1 hx hZ hown (own_w hw 103 rfl) e1 (Ins.self E_a) (g := (mkF m 8 #[vr a1, vr a1, .unset] [(.ref a1)])) rfl rfl (hb hby d12_8)
  refine own_st st2 ?_
  show gs T2 m 11 #[vr a1, vr a1, .unset] [(.ref a1)]
  refine own_st (fun _ kS => XS.astoreN X2.here hx rfl (hb hby d12_11) rfl rfl (l' := #[vr a1, vr a1, vr a1]) rfl kS) ?_
  refine oaloadN X2 hx hby d12_12 rfl rfl ?_
  obtain ⟨T3, X3, e3, st3⟩ := getF X2 hx hZ hown (host := "") (Or.inl (own_w hw 91 rfl)) Via.refl e2 Fe1 (g := (mkF m 13 #[vr a1, vr a1, vr a1] [(.ref a1)])) rfl rfl (hb hby d12_13)
  refine own_st st3 ?_
  show gs T3 m 16 #[vr a1, vr a1, vr a1] [(.ref v1)]
  refine oaloadN X3 hx hby d12_16 rfl rfl ?_
  obtain ⟨T4, X4, e4, st4⟩ := getF X3 hx hZ hown (host := "") (Or.inl (own_w hw 91 rfl)) Via.refl e3 Fe1 (g := (mkF m 17 #[vr a1, vr a1, vr a1] [(.ref a1), (.ref v1)])) rfl rfl (hb hby d12_17)
  refine own_st st4 ?_
  show gs T4 m 20 #[vr a1, vr a1, vr a1] [(.ref v1), (.ref v1)]
  refine own_st (fun _ kS => Jvm.RoadKit.acmp (g := (mkF m 20 #[vr a1, vr a1, vr a1] [(.ref v1), (.ref v1)])) X4 hx rfl rfl rfl (pc0 := 20) (pc' := 23) (same := true) rfl (hb hby d12_20) rfl (decide_eq_true rfl) (by decide) (by decide) kS) ?_
  show gs T4 m 23 #[vr a1, vr a1, vr a1] []
  refine oaloadN X4 hx hby d12_23 rfl rfl ?_
  obtain ⟨T5, X5, e5, st5⟩ := getF X4 hx hZ hown (host := "") (Or.inl (own_w hw 95 rfl)) Via.refl e4 Ft1 (g := (mkF m 24 #[vr a1, vr a1, vr a1] [(.ref a1)])) rfl rfl (hb hby d12_24)
  refine own_st st5 ?_
  show gs T5 m 27 #[vr a1, vr a1, vr a1] [(.ref s1)]
  refine oaloadN X5 hx hby d12_27 rfl rfl ?_
  obtain ⟨T6, X6, e6, st6⟩ := getF X5 hx hZ hown (host := "") (Or.inl (own_w hw 95 rfl)) Via.refl e5 Ft1 (g := (mkF m 28 #[vr a1, vr a1, vr a1] [(.ref a1), (.ref s1)])) rfl rfl (hb hby d12_28)
  refine own_st st6 ?_
  show gs T6 m 31 #[vr a1, vr a1, vr a1] [(.ref s1), (.ref s1)]
  refine oV 0 X6 hx hZ hby hml hown (own_w hw 105 rfl) (own_w hw 106 rfl) (own_w hw 108 rfl) (own_w hw 107 rfl) (rm_strS l Z a0 hw [] s1 h0 n0 Z0  ) (own_w hw 109 rfl) (own_w hw 47 rfl) e6 E_1 (by decide) own_pd8 d12_31 rfl rfl rfl (fun T7 L7 v7 X7 hQ7 => ?_)
  obtain ⟨rfl, Nq7, eq7⟩ := hQ7
  have N7 := Fr.app N0 Nq7
  show gs T7 m 34 #[vr a1, vr a1, vr a1] [(.int 1)]
  refine own_st (fun _ kS => XS.ifNo X7.here hx rfl (hb hby d12_34) rfl ((if0 _ _).trans (feq (by decide : ¬ ((1 : Int32) = (0 : Int32)))).1) kS) ?_
  show gs T7 m 37 #[vr a1, vr a1, vr a1] []
  refine oiconst X7 hx hby d12_37 ?_
  refine own_st (fun _ kS => XS.goto X7.here hx rfl (pc0 := 38) (pc' := 42) rfl (hb hby d12_38) (by decide) (by decide) kS) ?_
  show gs T7 m 42 #[vr a1, vr a1, vr a1] [(.int 1)]
  exact own_retN X7 hx hlk (t := .boolean) hret (by simp) (hb hby d12_42) (by decide) (by decide) (v' := (1 : Int32)) rfl (by rw [eq7]; exact ⟨rfl, N7, rfl⟩)
theorem d14_0 : dk B14 0 (.aload_n 0) 1 := by decide +kernel
theorem d14_1 : dk B14 1 (.getfield 26) 3 := by decide +kernel
theorem d14_4 : dk B14 4 (.areturn) 1 := by decide +kernel
theorem pn_14 : plainName "com/example/cartouche/cartouche/crosswalks/DcValue" = true := by first | (simp [plainName, overriddenIn]; done) | decide +kernel
theorem ef_dcText (m : MethodId) (x0 : Addr) : entryFrame m #[(.ref x0)] 1 = mkF m 0 #[.val (.ref x0)] [] := by first | (simp [entryFrame, mkF, argsToLocals, Value.category]; done) | rfl
def Q_dcText (Z : State) (a1 : Addr) (s1 : Addr) (h0 : Heap) (n0 : Nat) (v : Option Value) (h : Heap) (L : List Loc) : Prop := v = some (.ref s1) ∧ Fr n0 L ∧ h = h0
theorem rm_dcText (l : Launch) (Z : State) (a0 : Array Value) (hw : HW a0 Z) (ws : List Jvm.Cond) (a1 : Addr) (s1 : Addr) (h0 : Heap) (n0 : Nat) (Z0 : n0 ≤ h0.size) (Ft : fk19 Z h0 a1 (.ref s1)) :
    M13 l ws (rmk 0 0 0 0) Z #[(.ref a1)] h0 (Q_dcText Z a1 s1 h0 n0) := by
  refine own_go "com/example/cartouche/cartouche/crosswalks/DcValue" rfl (plainFor_of_name pn_14) (fun m => ef_dcText m a1) (fun p e s m below meth c s₁ hx hby hml hown hnm hlk hret hZ X0 e0 => ?_)
  have N0 := Fr.nil n0
  show gs s₁ m 0 #[vr a1] []
  refine oaloadN X0 hx hby d14_0 rfl rfl ?_
  obtain ⟨T1, X1, e1, st1⟩ := getF X0 hx hZ hown (host := "") (Or.inl (own_w hw 95 rfl)) Via.refl e0 Ft (g := (mkF m 1 #[vr a1] [(.ref a1)])) rfl rfl (hb hby d14_1)
  refine own_st st1 ?_
  show gs T1 m 4 #[vr a1] [(.ref s1)]
  exact own_retA X1 hx hlk hret rfl rfl (hb hby d14_4) (by decide) (by decide) (by rw [e1]; exact ⟨rfl, N0, rfl⟩)
theorem ef_dcNu (m : MethodId) (x0 : Addr) : entryFrame m #[(.ref x0), .null] 3 = mkF m 0 #[.val (.ref x0), .val .null, .unset] [] := by first | (simp [entryFrame, mkF, argsToLocals, Value.category]; done) | rfl
def Q_dcNu (Z : State) (a1 : Addr) (h0 : Heap) (n0 : Nat) (v : Option Value) (h : Heap) (L : List Loc) : Prop := v = some (.int 0) ∧ Fr n0 L ∧ h = h0
theorem rm_dcNu (l : Launch) (Z : State) (a0 : Array Value) (hw : HW a0 Z) (ws : List Jvm.Cond) (a1 : Addr) (h0 : Heap) (n0 : Nat) (Z0 : n0 ≤ h0.size)  :
    M11 l ws (rmk 0 0 0 0) Z #[(.ref a1), .null] h0 (Q_dcNu Z a1 h0 n0) := by
  refine own_go "com/example/cartouche/cartouche/crosswalks/DcValue" rfl (plainFor_of_name pn_12) (fun m => ef_dcNu m a1) (fun p e s m below meth c s₁ hx hby hml hown hnm hlk hret hZ X0 e0 => ?_)
  have N0 := Fr.nil n0
  show gs s₁ m 0 #[vr a1, .val .null, .unset] []
  refine oaloadN X0 hx hby d12_0 rfl rfl ?_
  show gs s₁ m 1 #[vr a1, .val .null, .unset] [.null]
  refine own_st (fun _ kS => X0.instanceofNull hx (g := (mkF m 1 #[vr a1, .val .null, .unset] [.null])) rfl rfl (hb hby d12_1) _ kS) ?_
  show gs s₁ m 4 #[vr a1, .val .null, .unset] [(.int 0)]
  refine own_st (fun _ kS => XS.ifYes X0.here hx rfl (pc0 := 4) (pc' := 41) rfl (hb hby d12_4) rfl ((if0 _ _).trans (teq (by decide : (0 : Int32) = (0 : Int32))).1) (by decide) (by decide) kS) ?_
  show gs s₁ m 41 #[vr a1, .val .null, .unset] []
  refine oiconst X0 hx hby d12_41 ?_
  exact own_retN X0 hx hlk (t := .boolean) hret (by simp) (hb hby d12_42) (by decide) (by decide) (v' := (0 : Int32)) rfl (by rw [e0]; exact ⟨rfl, N0, rfl⟩)
theorem ef_dcTx (m : MethodId) (x0 : Addr) (x1 : Addr) : entryFrame m #[(.ref x0), (.ref x1)] 3 = mkF m 0 #[.val (.ref x0), .val (.ref x1), .unset] [] := by first | (simp [entryFrame, mkF, argsToLocals, Value.category]; done) | rfl
def Q_dcTx (Z : State) (a1 : Addr) (s1 : Addr) (h0 : Heap) (n0 : Nat) (v : Option Value) (h : Heap) (L : List Loc) : Prop := v = some (.int 0) ∧ Fr n0 L ∧ h = h0
theorem rm_dcTx (l : Launch) (Z : State) (a0 : Array Value) (hw : HW a0 Z) (ws : List Jvm.Cond) (a1 : Addr) (s1 : Addr) (h0 : Heap) (n0 : Nat) (Z0 : n0 ≤ h0.size) (E_1 : ek21 Z h0 s1) :
    M11 l ws (rmk 0 0 0 0) Z #[(.ref a1), (.ref s1)] h0 (Q_dcTx Z a1 s1 h0 n0) := by
  refine own_go "com/example/cartouche/cartouche/crosswalks/DcValue" rfl (plainFor_of_name pn_12) (fun m => ef_dcTx m a1 s1) (fun p e s m below meth c s₁ hx hby hml hown hnm hlk hret hZ X0 e0 => ?_)
  have N0 := Fr.nil n0
  show gs s₁ m 0 #[vr a1, vr s1, .unset] []
  refine oaloadN X0 hx hby d12_0 rfl rfl ?_
  obtain ⟨T1, X1, e1, st1⟩ := instNo X0 hx hZ hown (own_w hw 103 rfl) e0 E_1 (own_noDc (own_w hw 115 rfl) (own_w hw 116 rfl) (own_w hw 2 rfl) (by decide) (by decide)) (g := (mkF m 1 #[vr a1, vr s1, .unset] [(.ref s1)])) rfl rfl (hb hby d12_1)
  refine own_st st1 ?_
  show gs T1 m 4 #[vr a1, vr s1, .unset] [(.int 0)]
  refine own_st (fun _ kS => XS.ifYes X1.here hx rfl (pc0 := 4) (pc' := 41) rfl (hb hby d12_4) rfl ((if0 _ _).trans (teq (by decide : (0 : Int32) = (0 : Int32))).1) (by decide) (by decide) kS) ?_
  show gs T1 m 41 #[vr a1, vr s1, .unset] []
  refine oiconst X1 hx hby d12_41 ?_
  exact own_retN X1 hx hlk (t := .boolean) hret (by simp) (hb hby d12_42) (by decide) (by decide) (v' := (0 : Int32)) rfl (by rw [e1]; exact ⟨rfl, N0, rfl⟩)
theorem pn_0 : plainName "com/example/cartouche/cartouche/crosswalks/DcValueEqualsPinLaw" = true := by first | (simp [plainName, overriddenIn]; done) | decide +kernel
def Q_law (n0 : Nat) (v : Option Value) (h : Heap) (L : List Loc) : Prop := v = some (.int 1) ∧ Fr n0 L
theorem own_pd9 : parseMethodDescriptor "(IJIJ)Z" = some ⟨[.int, .long, .int, .long], some .boolean⟩ := by decide +kernel
theorem own_pd10 : parseMethodDescriptor "()Ljava/lang/String;" = some ⟨[], some (.object "java/lang/String")⟩ := by decide +kernel
theorem sg_E0 {p : Program} {l : Launch} {e : Env} {s : State} {m : MethodId} {args : Array Value} {below : List Frame} {meth : Method} {c : Code} {T0 : State} {locs : List Loc} {Z : State} {a0 : Array Value} {h0 : Heap} {n0 : Nat} {vm0 : Vm} {kv0 : Nat} (hx : p.tables.exec = Jvm.exec) (hby : c.code = code) (hml : c.maxLocals = 19) (hown : (s.setVm vm0).vm.findClass "com/example/cartouche/cartouche/crosswalks/DcValueEqualsPinLaw" = some m.cls) (hlk : meth.locks = false) (hret : meth.sig.returnType = some .boolean) (hZ : Z.Warmed39 (s.setVm vm0).vm) (hw : HW a0 Z) (Z0 : n0 ≤ h0.size) (hS : s.Since vm0 kv0) (hk0 : kv0 ≤ h0.size)
    (X0 : Stand p l e room_1 (s.setVm vm0) m args below meth c T0 locs 30 200) (e0 : T0.heap = h0) (N0 : Fr n0 locs) (O0 : Old Z n0 h0) (p1 : Int32) (p2 : Int32) (p3 : Int32) (qa : Int64) (qb : Int64) (p6 : Int32) (i1 : Int32) (i2 : Int32) (cp : Int32) (q2 : Int64) (v1 : Addr) (v2 : Addr) (a1d : Addr) (a2d : Addr) (s1 : Addr) (s2 : Addr) (t1 : Addr) (t2 : Addr) (k1a : ClassId) (k2a : ClassId) (zCS : Int32) (E_a1 : ek22 Z h0 a1d) (Fe1 : fk18 Z h0 a1d (.ref v1)) (Ft1 : fk19 Z h0 a1d (.ref s1)) (E_s1 : ek21 Z h0 s1) (F1v : fk17 Z h0 s1 (.ref t1)) (F1c : fk16 Z h0 s1 (.int 0)) (E_a2 : ek22 Z h0 a2d) (Fe2 : fk18 Z h0 a2d (.ref v2)) (Ft2 : fk19 Z h0 a2d (.ref s2)) (E_s2 : ek21 Z h0 s2) (F2v : fk17 Z h0 s2 (.ref t2)) (F2c : fk16 Z h0 s2 (.int 0)) (ne12 : s1 ≠ s2) (R_1 : Arv Z h0 t1 k1a .byte (0 : Int32) [] (.int 0)) (R_2 : Arv Z h0 t2 k2a .byte (0 : Int32) [] (.int 0)) (hveq : i1 = i2 → v1 = v2) (hvne : ¬ (i1 = i2) → v1 ≠ v2) (S_CS : sk0 Z Z.heap (.int zCS)) (P_CS : ¬ zCS = 0) :
    own_G p.tables e below (own_EW s (Q_law n0) room_1.cells room_1.slots) (T0.setTop (mkF m 121 #[vi p1, vi p2, vi p3, .val (.long qa), .second, .val (.long qb), .second, vi p6, vi i1, vi i2, vi 0, vi cp, vi 0, .val (.long q2), .second, vr a1d, vr a2d, .unset, .unset] [])) := by
  show gs T0 m 121 #[vi p1, vi p2, vi p3, .val (.long qa), .second, .val (.long qb), .second, vi p6, vi i1, vi i2, vi 0, vi cp, vi 0, .val (.long q2), .second, vr a1d, vr a2d, .unset, .unset] []
  refine oiload X0 hx hby at_121 rfl ?_
  refine oiconst X0 hx hby at_123 ?_
  refine own_st (fun _ kS => XS.iand X0.here hx rfl (hb hby at_124) rfl kS) ?_
  show gs T0 m 125 #[vi p1, vi p2, vi p3, .val (.long qa), .second, .val (.long qb), .second, vi p6, vi i1, vi i2, vi 0, vi cp, vi 0, .val (.long q2), .second, vr a1d, vr a2d, .unset, .unset] [(.int (p6 &&& (3 : Int32)))]
  rcases own_and3 p6 with hk1 | hk1 | hk1 | hk1
  · rw [hk1]
    show gs T0 m 125 #[vi p1, vi p2, vi p3, .val (.long qa), .second, .val (.long qb), .second, vi p6, vi i1, vi i2, vi 0, vi cp, vi 0, .val (.long q2), .second, vr a1d, vr a2d, .unset, .unset] [(.int 0)]
    refine own_st (fun _ kS => XS.istore X0.here hx rfl (hb hby at_125) rfl (l' := #[vi p1, vi p2, vi p3, .val (.long qa), .second, .val (.long qb), .second, vi p6, vi i1, vi i2, vi 0, vi cp, vi 0, .val (.long q2), .second, vr a1d, vr a2d, vi 0, .unset]) rfl kS) ?_
    refine oiload X0 hx hby at_127 rfl ?_
    refine oiconst X0 hx hby at_129 ?_
    refine own_st (fun _ kS => XS.icmpYes X0.here hx rfl (pc0 := 130) (pc' := 148) rfl (hb hby at_130) rfl (feq (by decide : ¬ ((0 : Int32) = (1 : Int32)))).2 (by decide) (by decide) kS) ?_
    show gs T0 m 148 #[vi p1, vi p2, vi p3, .val (.long qa), .second, .val (.long qb), .second, vi p6, vi i1, vi i2, vi 0, vi cp, vi 0, .val (.long q2), .second, vr a1d, vr a2d, vi 0, .unset] []
    refine oiload X0 hx hby at_148 rfl ?_
    refine oiconst X0 hx hby at_150 ?_
    refine own_st (fun _ kS => XS.icmpYes X0.here hx rfl (pc0 := 151) (pc' := 173) rfl (hb hby at_151) rfl (feq (by decide : ¬ ((0 : Int32) = (2 : Int32)))).2 (by decide) (by decide) kS) ?_
    show gs T0 m 173 #[vi p1, vi p2, vi p3, .val (.long qa), .second, .val (.long qb), .second, vi p6, vi i1, vi i2, vi 0, vi cp, vi 0, .val (.long q2), .second, vr a1d, vr a2d, vi 0, .unset] []
    refine oiload X0 hx hby at_173 rfl ?_
    refine oiconst X0 hx hby at_175 ?_
    refine own_st (fun _ kS => XS.icmpYes X0.here hx rfl (pc0 := 176) (pc' := 187) rfl (hb hby at_176) rfl (feq (by decide : ¬ ((0 : Int32) = (3 : Int32)))).2 (by decide) (by decide) kS) ?_
    show gs T0 m 187 #[vi p1, vi p2, vi p3, .val (.long qa), .second, .val (.long qb), .second, vi p6, vi i1, vi i2, vi 0, vi cp, vi 0, .val (.long q2), .second, vr a1d, vr a2d, vi 0, .unset] []
    refine oiload X0 hx hby at_187 rfl ?_
    refine oiload X0 hx hby at_189 rfl ?_
    show gs T0 m 191 #[vi p1, vi p2, vi p3, .val (.long qa), .second, .val (.long qb), .second, vi p6, vi i1, vi i2, vi 0, vi cp, vi 0, .val (.long q2), .second, vr a1d, vr a2d, vi 0, .unset] [(.int i2), (.int i1)]
    by_cases hc191_2 : i1 = i2
    · skip
      refine own_st (fun _ kS => XS.icmpNo X0.here hx rfl (hb hby at_191) rfl (teq hc191_2).2 kS) ?_
      show gs T0 m 194 #[vi p1, vi p2, vi p3, .val (.long qa), .second, .val (.long qb), .second, vi p6, vi i1, vi i2, vi 0, vi cp, vi 0, .val (.long q2), .second, vr a1d, vr a2d, vi 0, .unset] []
      have Fe2' : fk18 Z h0 a2d (.ref v1) := by rw [hveq hc191_2]; exact Fe2
      refine oiload X0 hx hby at_194 rfl ?_
      refine own_st (fun _ kS => XT.lloadN X0.here hx rfl (hb hby at_196) rfl kS) ?_
      refine oiload X0 hx hby at_197 rfl ?_
      refine own_st (fun _ kS => XT.lload X0.here hx rfl (hb hby at_199) rfl kS) ?_
      show gs T0 m 201 #[vi p1, vi p2, vi p3, .val (.long qa), .second, .val (.long qb), .second, vi p6, vi i1, vi i2, vi 0, vi cp, vi 0, .val (.long q2), .second, vr a1d, vr a2d, vi 0, .unset] [(.long q2), (.int 0), (.long qa), (.int 0)]
      show gs T0 m 201 #[vi p1, vi p2, vi p3, .val (.long qa), .second, .val (.long qb), .second, vi p6, vi i1, vi i2, vi 0, vi cp, vi 0, .val (.long q2), .second, vr a1d, vr a2d, vi 0, .unset] [(.long q2), (.int 0), (.long qa), (.int 0)]
      refine oS 0 X0 hx hZ hby hml hown (own_w hw 117 rfl) (own_w hw 118 rfl) (own_w hw 6 rfl) (own_w hw 119 rfl) (rm_samT_0_T l Z a0 hw [] qa q2 h0 n0 Z0  ) e0 (by decide) own_pd9 at_201 rfl rfl rfl (fun T3 L3 v3 X3 hQ3 => ?_)
      obtain ⟨rfl, Nq3, eq3⟩ := hQ3
      have N3 := Fr.app N0 Nq3
      show gs T3 m 204 #[vi p1, vi p2, vi p3, .val (.long qa), .second, .val (.long qb), .second, vi p6, vi i1, vi i2, vi 0, vi cp, vi 0, .val (.long q2), .second, vr a1d, vr a2d, vi 0, .unset] [(.int 1)]
      refine own_st (fun _ kS => XS.ifNo X3.here hx rfl (hb hby at_204) rfl ((if0 _ _).trans (feq (by decide : ¬ ((1 : Int32) = (0 : Int32)))).1) kS) ?_
      show gs T3 m 207 #[vi p1, vi p2, vi p3, .val (.long qa), .second, .val (.long qb), .second, vi p6, vi i1, vi i2, vi 0, vi cp, vi 0, .val (.long q2), .second, vr a1d, vr a2d, vi 0, .unset] []
      refine oiconst X3 hx hby at_207 ?_
      refine own_st (fun _ kS => XS.goto X3.here hx rfl (pc0 := 208) (pc' := 212) rfl (hb hby at_208) (by decide) (by decide) kS) ?_
      refine own_st (fun _ kS => XS.istore X3.here hx rfl (hb hby at_212) rfl (l' := #[vi p1, vi p2, vi p3, .val (.long qa), .second, .val (.long qb), .second, vi p6, vi i1, vi i2, vi 0, vi cp, vi 0, .val (.long q2), .second, vr a1d, vr a2d, vi 0, vi 1]) rfl kS) ?_
      refine oaload X3 hx hby at_214 rfl rfl ?_
      refine oaload X3 hx hby at_216 rfl rfl ?_
      refine oV 0 X3 hx hZ hby hml hown (own_w hw 98 rfl) (own_w hw 99 rfl) (own_w hw 101 rfl) (own_w hw 100 rfl) (rm_dcE_0_T l Z a0 hw [] a1d a2d v1 s1 s2 t1 t2 k1a k2a zCS h0 n0 Z0 O0 E_a1 E_a2 Fe1 Ft1 Fe2' Ft2 ne12 E_s1 E_s2 F1v F2v F1c F2c R_1 R_2 S_CS P_CS) (own_w hw 102 rfl) (own_w hw 3 rfl) eq3 E_a1 (by decide) own_pd8 at_218 rfl rfl rfl (fun T4 L4 v4 X4 hQ4 => ?_)
      obtain ⟨rfl, Nq4, eq4⟩ := hQ4
      have N4 := Fr.app N3 Nq4
      show gs T4 m 221 #[vi p1, vi p2, vi p3, .val (.long qa), .second, .val (.long qb), .second, vi p6, vi i1, vi i2, vi 0, vi cp, vi 0, .val (.long q2), .second, vr a1d, vr a2d, vi 0, vi 1] [(.int 1)]
      refine oiload X4 hx hby at_221 rfl ?_
      refine own_st (fun _ kS => XS.icmpNo X4.here hx rfl (hb hby at_223) rfl (teq (by decide : (1 : Int32) = (1 : Int32))).2 kS) ?_
      show gs T4 m 226 #[vi p1, vi p2, vi p3, .val (.long qa), .second, .val (.long qb), .second, vi p6, vi i1, vi i2, vi 0, vi cp, vi 0, .val (.long q2), .second, vr a1d, vr a2d, vi 0, vi 1] []
      refine oaload X4 hx hby at_226 rfl rfl ?_
      refine oaload X4 hx hby at_228 rfl rfl ?_
      refine oV 0 X4 hx hZ hby hml hown (own_w hw 98 rfl) (own_w hw 99 rfl) (own_w hw 101 rfl) (own_w hw 100 rfl) (rm_dcE_0_T l Z a0 hw [] a2d a1d v1 s2 s1 t2 t1 k2a k1a zCS h0 n0 Z0 O0 E_a2 E_a1 Fe2' Ft2 Fe1 Ft1 (Ne.symm ne12) E_s2 E_s1 F2v F1v F2c F1c R_2 R_1 S_CS P_CS) (own_w hw 102 rfl) (own_w hw 3 rfl) eq4 E_a2 (by decide) own_pd8 at_230 rfl rfl rfl (fun T5 L5 v5 X5 hQ5 => ?_)
      obtain ⟨rfl, Nq5, eq5⟩ := hQ5
      have N5 := Fr.app N4 Nq5
      show gs T5 m 233 #[vi p1, vi p2, vi p3, .val (.long qa), .second, .val (.long qb), .second, vi p6, vi i1, vi i2, vi 0, vi cp, vi 0, .val (.long q2), .second, vr a1d, vr a2d, vi 0, vi 1] [(.int 1)]
      refine oiload X5 hx hby at_233 rfl ?_
      refine own_st (fun _ kS => XS.icmpNo X5.here hx rfl (hb hby at_235) rfl (teq (by decide : (1 : Int32) = (1 : Int32))).2 kS) ?_
      show gs T5 m 238 #[vi p1, vi p2, vi p3, .val (.long qa), .second, .val (.long qb), .second, vi p6, vi i1, vi i2, vi 0, vi cp, vi 0, .val (.long q2), .second, vr a1d, vr a2d, vi 0, vi 1] []
      refine oiconst X5 hx hby at_238 ?_
      refine own_st (fun _ kS => XS.goto X5.here hx rfl (pc0 := 239) (pc' := 243) rfl (hb hby at_239) (by decide) (by decide) kS) ?_
      show gs T5 m 243 #[vi p1, vi p2, vi p3, .val (.long qa), .second, .val (.long qb), .second, vi p6, vi i1, vi i2, vi 0, vi cp, vi 0, .val (.long q2), .second, vr a1d, vr a2d, vi 0, vi 1] [(.int 1)]
      exact own_retNW hS (own_le eq5 hk0) X5 hx hlk (t := .boolean) hret (by simp) (hb hby at_243) (by decide) (by decide) (v' := (1 : Int32)) rfl (by rw [eq5]; exact ⟨rfl, N5⟩)
    · skip
      refine own_st (fun _ kS => XS.icmpYes X0.here hx rfl (pc0 := 191) (pc' := 211) rfl (hb hby at_191) rfl (feq hc191_2).2 (by decide) (by decide) kS) ?_
      show gs T0 m 211 #[vi p1, vi p2, vi p3, .val (.long qa), .second, .val (.long qb), .second, vi p6, vi i1, vi i2, vi 0, vi cp, vi 0, .val (.long q2), .second, vr a1d, vr a2d, vi 0, .unset] []
      refine oiconst X0 hx hby at_211 ?_
      refine own_st (fun _ kS => XS.istore X0.here hx rfl (hb hby at_212) rfl (l' := #[vi p1, vi p2, vi p3, .val (.long qa), .second, .val (.long qb), .second, vi p6, vi i1, vi i2, vi 0, vi cp, vi 0, .val (.long q2), .second, vr a1d, vr a2d, vi 0, vi 0]) rfl kS) ?_
      refine oaload X0 hx hby at_214 rfl rfl ?_
      refine oaload X0 hx hby at_216 rfl rfl ?_
      refine oV 0 X0 hx hZ hby hml hown (own_w hw 98 rfl) (own_w hw 99 rfl) (own_w hw 101 rfl) (own_w hw 100 rfl) (rm_dcEl l Z a0 hw [] a1d a2d v1 v2 h0 n0 Z0  E_a1 E_a2 Fe1 Fe2 (hvne hc191_2)) (own_w hw 102 rfl) (own_w hw 3 rfl) e0 E_a1 (by decide) own_pd8 at_218 rfl rfl rfl (fun T6 L6 v6 X6 hQ6 => ?_)
      obtain ⟨rfl, Nq6, eq6⟩ := hQ6
      have N6 := Fr.app N0 Nq6
      show gs T6 m 221 #[vi p1, vi p2, vi p3, .val (.long qa), .second, .val (.long qb), .second, vi p6, vi i1, vi i2, vi 0, vi cp, vi 0, .val (.long q2), .second, vr a1d, vr a2d, vi 0, vi 0] [(.int 0)]
      refine oiload X6 hx hby at_221 rfl ?_
      refine own_st (fun _ kS => XS.icmpNo X6.here hx rfl (hb hby at_223) rfl (teq (by decide : (0 : Int32) = (0 : Int32))).2 kS) ?_
      show gs T6 m 226 #[vi p1, vi p2, vi p3, .val (.long qa), .second, .val (.long qb), .second, vi p6, vi i1, vi i2, vi 0, vi cp, vi 0, .val (.long q2), .second, vr a1d, vr a2d, vi 0, vi 0] []
      refine oaload X6 hx hby at_226 rfl rfl ?_
      refine oaload X6 hx hby at_228 rfl rfl ?_
      refine oV 0 X6 hx hZ hby hml hown (own_w hw 98 rfl) (own_w hw 99 rfl) (own_w hw 101 rfl) (own_w hw 100 rfl) (rm_dcEl l Z a0 hw [] a2d a1d v2 v1 h0 n0 Z0  E_a2 E_a1 Fe2 Fe1 (Ne.symm (hvne hc191_2))) (own_w hw 102 rfl) (own_w hw 3 rfl) eq6 E_a2 (by decide) own_pd8 at_230 rfl rfl rfl (fun T7 L7 v7 X7 hQ7 => ?_)
      obtain ⟨rfl, Nq7, eq7⟩ := hQ7
      have N7 := Fr.app N6 Nq7
      show gs T7 m 233 #[vi p1, vi p2, vi p3, .val (.long qa), .second, .val (.long qb), .second, vi p6, vi i1, vi i2, vi 0, vi cp, vi 0, .val (.long q2), .second, vr a1d, vr a2d, vi 0, vi 0] [(.int 0)]
      refine oiload X7 hx hby at_233 rfl ?_
      refine own_st (fun _ kS => XS.icmpNo X7.here hx rfl (hb hby at_235) rfl (teq (by decide : (0 : Int32) = (0 : Int32))).2 kS) ?_
      show gs T7 m 238 #[vi p1, vi p2, vi p3, .val (.long qa), .second, .val (.long qb), .second, vi p6, vi i1, vi i2, vi 0, vi cp, vi 0, .val (.long q2), .second, vr a1d, vr a2d, vi 0, vi 0] []
      refine oiconst X7 hx hby at_238 ?_
      refine own_st (fun _ kS => XS.goto X7.here hx rfl (pc0 := 239) (pc' := 243) rfl (hb hby at_239) (by decide) (by decide) kS) ?_
      show gs T7 m 243 #[vi p1, vi p2, vi p3, .val (.long qa), .second, .val (.long qb), .second, vi p6, vi i1, vi i2, vi 0, vi cp, vi 0, .val (.long q2), .second, vr a1d, vr a2d, vi 0, vi 0] [(.int 1)]
      exact own_retNW hS (own_le eq7 hk0) X7 hx hlk (t := .boolean) hret (by simp) (hb hby at_243) (by decide) (by decide) (v' := (1 : Int32)) rfl (by rw [eq7]; exact ⟨rfl, N7⟩)
  · rw [hk1]
    show gs T0 m 125 #[vi p1, vi p2, vi p3, .val (.long qa), .second, .val (.long qb), .second, vi p6, vi i1, vi i2, vi 0, vi cp, vi 0, .val (.long q2), .second, vr a1d, vr a2d, .unset, .unset] [(.int 1)]
    refine own_st (fun _ kS => XS.istore X0.here hx rfl (hb hby at_125) rfl (l' := #[vi p1, vi p2, vi p3, .val (.long qa), .second, .val (.long qb), .second, vi p6, vi i1, vi i2, vi 0, vi cp, vi 0, .val (.long q2), .second, vr a1d, vr a2d, vi 1, .unset]) rfl kS) ?_
    refine oiload X0 hx hby at_127 rfl ?_
    refine oiconst X0 hx hby at_129 ?_
    refine own_st (fun _ kS => XS.icmpNo X0.here hx rfl (hb hby at_130) rfl (teq (by decide : (1 : Int32) = (1 : Int32))).2 kS) ?_
    show gs T0 m 133 #[vi p1, vi p2, vi p3, .val (.long qa), .second, .val (.long qb), .second, vi p6, vi i1, vi i2, vi 0, vi cp, vi 0, .val (.long q2), .second, vr a1d, vr a2d, vi 1, .unset] []
    refine oaload X0 hx hby at_133 rfl rfl ?_
    refine own_st (fun _ kS => XS.aconstNull X0.here hx rfl (hb hby at_135) kS) ?_
    show gs T0 m 136 #[vi p1, vi p2, vi p3, .val (.long qa), .second, .val (.long qb), .second, vi p6, vi i1, vi i2, vi 0, vi cp, vi 0, .val (.long q2), .second, vr a1d, vr a2d, vi 1, .unset] [.null, (.ref a1d)]
    refine oV 0 X0 hx hZ hby hml hown (own_w hw 98 rfl) (own_w hw 99 rfl) (own_w hw 101 rfl) (own_w hw 100 rfl) (rm_dcNu l Z a0 hw [] a1d h0 n0 Z0  ) (own_w hw 102 rfl) (own_w hw 3 rfl) e0 E_a1 (by decide) own_pd8 at_136 rfl rfl rfl (fun T8 L8 v8 X8 hQ8 => ?_)
    obtain ⟨rfl, Nq8, eq8⟩ := hQ8
    have N8 := Fr.app N0 Nq8
    show gs T8 m 139 #[vi p1, vi p2, vi p3, .val (.long qa), .second, .val (.long qb), .second, vi p6, vi i1, vi i2, vi 0, vi cp, vi 0, .val (.long q2), .second, vr a1d, vr a2d, vi 1, .unset] [(.int 0)]
    refine own_st (fun _ kS => XS.ifNo X8.here hx rfl (hb hby at_139) rfl ((if0 _ _).trans (teq (by decide : (0 : Int32) = (0 : Int32))).2) kS) ?_
    show gs T8 m 142 #[vi p1, vi p2, vi p3, .val (.long qa), .second, .val (.long qb), .second, vi p6, vi i1, vi i2, vi 0, vi cp, vi 0, .val (.long q2), .second, vr a1d, vr a2d, vi 1, .unset] []
    refine oiconst X8 hx hby at_142 ?_
    refine own_st (fun _ kS => XS.goto X8.here hx rfl (pc0 := 143) (pc' := 147) rfl (hb hby at_143) (by decide) (by decide) kS) ?_
    show gs T8 m 147 #[vi p1, vi p2, vi p3, .val (.long qa), .second, .val (.long qb), .second, vi p6, vi i1, vi i2, vi 0, vi cp, vi 0, .val (.long q2), .second, vr a1d, vr a2d, vi 1, .unset] [(.int 1)]
    exact own_retNW hS (own_le eq8 hk0) X8 hx hlk (t := .boolean) hret (by simp) (hb hby at_147) (by decide) (by decide) (v' := (1 : Int32)) rfl (by rw [eq8]; exact ⟨rfl, N8⟩)
  · rw [hk1]
    show gs T0 m 125 #[vi p1, vi p2, vi p3, .val (.long qa), .second, .val (.long qb), .second, vi p6, vi i1, vi i2, vi 0, vi cp, vi 0, .val (.long q2), .second, vr a1d, vr a2d, .unset, .unset] [(.int 2)]
    refine own_st (fun _ kS => XS.istore X0.here hx rfl (hb hby at_125) rfl (l' := #[vi p1, vi p2, vi p3, .val (.long qa), .second, .val (.long qb), .second, vi p6, vi i1, vi i2, vi 0, vi cp, vi 0, .val (.long q2), .second, vr a1d, vr a2d, vi 2, .unset]) rfl kS) ?_
    refine oiload X0 hx hby at_127 rfl ?_
    refine oiconst X0 hx hby at_129 ?_
    refine own_st (fun _ kS => XS.icmpYes X0.here hx rfl (pc0 := 130) (pc' := 148) rfl (hb hby at_130) rfl (feq (by decide : ¬ ((2 : Int32) = (1 : Int32)))).2 (by decide) (by decide) kS) ?_
    show gs T0 m 148 #[vi p1, vi p2, vi p3, .val (.long qa), .second, .val (.long qb), .second, vi p6, vi i1, vi i2, vi 0, vi cp, vi 0, .val (.long q2), .second, vr a1d, vr a2d, vi 2, .unset] []
    refine oiload X0 hx hby at_148 rfl ?_
    refine oiconst X0 hx hby at_150 ?_
    refine own_st (fun _ kS => XS.icmpNo X0.here hx rfl (hb hby at_151) rfl (teq (by decide : (2 : Int32) = (2 : Int32))).2 kS) ?_
    show gs T0 m 154 #[vi p1, vi p2, vi p3, .val (.long qa), .second, .val (.long qb), .second, vi p6, vi i1, vi i2, vi 0, vi cp, vi 0, .val (.long q2), .second, vr a1d, vr a2d, vi 2, .unset] []
    refine oaload X0 hx hby at_154 rfl rfl ?_
    refine oaload X0 hx hby at_156 rfl rfl ?_
    refine oV 1 X0 hx hZ hby hml hown (own_w hw 110 rfl) (own_w hw 111 rfl) (own_w hw 113 rfl) (own_w hw 112 rfl) (rm_dcText l Z a0 hw [] a1d s1 h0 n0 Z0  Ft1) (own_w hw 114 rfl) (own_w hw 3 rfl) e0 E_a1 (by decide) own_pd10 at_158 rfl rfl rfl (fun T9 L9 v9 X9 hQ9 => ?_)
    obtain ⟨rfl, Nq9, eq9⟩ := hQ9
    have N9 := Fr.app N0 Nq9
    show gs T9 m 161 #[vi p1, vi p2, vi p3, .val (.long qa), .second, .val (.long qb), .second, vi p6, vi i1, vi i2, vi 0, vi cp, vi 0, .val (.long q2), .second, vr a1d, vr a2d, vi 2, .unset] [(.ref s1), (.ref a1d)]
    refine oV 0 X9 hx hZ hby hml hown (own_w hw 98 rfl) (own_w hw 99 rfl) (own_w hw 101 rfl) (own_w hw 100 rfl) (rm_dcTx l Z a0 hw [] a1d s1 h0 n0 Z0  E_s1) (own_w hw 102 rfl) (own_w hw 3 rfl) eq9 E_a1 (by decide) own_pd8 at_161 rfl rfl rfl (fun T10 L10 v10 X10 hQ10 => ?_)
    obtain ⟨rfl, Nq10, eq10⟩ := hQ10
    have N10 := Fr.app N9 Nq10
    show gs T10 m 164 #[vi p1, vi p2, vi p3, .val (.long qa), .second, .val (.long qb), .second, vi p6, vi i1, vi i2, vi 0, vi cp, vi 0, .val (.long q2), .second, vr a1d, vr a2d, vi 2, .unset] [(.int 0)]
    refine own_st (fun _ kS => XS.ifNo X10.here hx rfl (hb hby at_164) rfl ((if0 _ _).trans (teq (by decide : (0 : Int32) = (0 : Int32))).2) kS) ?_
    show gs T10 m 167 #[vi p1, vi p2, vi p3, .val (.long qa), .second, .val (.long qb), .second, vi p6, vi i1, vi i2, vi 0, vi cp, vi 0, .val (.long q2), .second, vr a1d, vr a2d, vi 2, .unset] []
    refine oiconst X10 hx hby at_167 ?_
    refine own_st (fun _ kS => XS.goto X10.here hx rfl (pc0 := 168) (pc' := 172) rfl (hb hby at_168) (by decide) (by decide) kS) ?_
    show gs T10 m 172 #[vi p1, vi p2, vi p3, .val (.long qa), .second, .val (.long qb), .second, vi p6, vi i1, vi i2, vi 0, vi cp, vi 0, .val (.long q2), .second, vr a1d, vr a2d, vi 2, .unset] [(.int 1)]
    exact own_retNW hS (own_le eq10 hk0) X10 hx hlk (t := .boolean) hret (by simp) (hb hby at_172) (by decide) (by decide) (v' := (1 : Int32)) rfl (by rw [eq10]; exact ⟨rfl, N10⟩)
  · rw [hk1]
    show gs T0 m 125 #[vi p1, vi p2, vi p3, .val (.long qa), .second, .val (.long qb), .second, vi p6, vi i1, vi i2, vi 0, vi cp, vi 0, .val (.long q2), .second, vr a1d, vr a2d, .unset, .unset] [(.int 3)]
    refine own_st (fun _ kS => XS.istore X0.here hx rfl (hb hby at_125) rfl (l' := #[vi p1, vi p2, vi p3, .val (.long qa), .second, .val (.long qb), .second, vi p6, vi i1, vi i2, vi 0, vi cp, vi 0, .val (.long q2), .second, vr a1d, vr a2d, vi 3, .unset]) rfl kS) ?_
    refine oiload X0 hx hby at_127 rfl ?_
    refine oiconst X0 hx hby at_129 ?_
    refine own_st (fun _ kS => XS.icmpYes X0.here hx rfl (pc0 := 130) (pc' := 148) rfl (hb hby at_130) rfl (feq (by decide : ¬ ((3 : Int32) = (1 : Int32)))).2 (by decide) (by decide) kS) ?_
    show gs T0 m 148 #[vi p1, vi p2, vi p3, .val (.long qa), .second, .val (.long qb), .second, vi p6, vi i1, vi i2, vi 0, vi cp, vi 0, .val (.long q2), .second, vr a1d, vr a2d, vi 3, .unset] []
    refine oiload X0 hx hby at_148 rfl ?_
    refine oiconst X0 hx hby at_150 ?_
    refine own_st (fun _ kS => XS.icmpYes X0.here hx rfl (pc0 := 151) (pc' := 173) rfl (hb hby at_151) rfl (feq (by decide : ¬ ((3 : Int32) = (2 : Int32)))).2 (by decide) (by decide) kS) ?_
    show gs T0 m 173 #[vi p1, vi p2, vi p3, .val (.long qa), .second, .val (.long qb), .second, vi p6, vi i1, vi i2, vi 0, vi cp, vi 0, .val (.long q2), .second, vr a1d, vr a2d, vi 3, .unset] []
    refine oiload X0 hx hby at_173 rfl ?_
    refine oiconst X0 hx hby at_175 ?_
    refine own_st (fun _ kS => XS.icmpNo X0.here hx rfl (hb hby at_176) rfl (teq (by decide : (3 : Int32) = (3 : Int32))).2 kS) ?_
    show gs T0 m 179 #[vi p1, vi p2, vi p3, .val (.long qa), .second, .val (.long qb), .second, vi p6, vi i1, vi i2, vi 0, vi cp, vi 0, .val (.long q2), .second, vr a1d, vr a2d, vi 3, .unset] []
    refine oaload X0 hx hby at_179 rfl rfl ?_
    refine oaload X0 hx hby at_181 rfl rfl ?_
    refine oV 0 X0 hx hZ hby hml hown (own_w hw 98 rfl) (own_w hw 99 rfl) (own_w hw 101 rfl) (own_w hw 100 rfl) (rm_dcS l Z a0 hw [] a1d v1 s1 h0 n0 Z0  E_a1 E_s1 Fe1 Ft1) (own_w hw 102 rfl) (own_w hw 3 rfl) e0 E_a1 (by decide) own_pd8 at_183 rfl rfl rfl (fun T11 L11 v11 X11 hQ11 => ?_)
    obtain ⟨rfl, Nq11, eq11⟩ := hQ11
    have N11 := Fr.app N0 Nq11
    show gs T11 m 186 #[vi p1, vi p2, vi p3, .val (.long qa), .second, .val (.long qb), .second, vi p6, vi i1, vi i2, vi 0, vi cp, vi 0, .val (.long q2), .second, vr a1d, vr a2d, vi 3, .unset] [(.int 1)]
    exact own_retNW hS (own_le eq11 hk0) X11 hx hlk (t := .boolean) hret (by simp) (hb hby at_186) (by decide) (by decide) (v' := (1 : Int32)) rfl (by rw [eq11]; exact ⟨rfl, N11⟩)
theorem sg_E1 {p : Program} {l : Launch} {e : Env} {s : State} {m : MethodId} {args : Array Value} {below : List Frame} {meth : Method} {c : Code} {T0 : State} {locs : List Loc} {Z : State} {a0 : Array Value} {h0 : Heap} {n0 : Nat} {vm0 : Vm} {kv0 : Nat} (hx : p.tables.exec = Jvm.exec) (hby : c.code = code) (hml : c.maxLocals = 19) (hown : (s.setVm vm0).vm.findClass "com/example/cartouche/cartouche/crosswalks/DcValueEqualsPinLaw" = some m.cls) (hlk : meth.locks = false) (hret : meth.sig.returnType = some .boolean) (hZ : Z.Warmed39 (s.setVm vm0).vm) (hw : HW a0 Z) (Z0 : n0 ≤ h0.size) (hS : s.Since vm0 kv0) (hk0 : kv0 ≤ h0.size)
    (X0 : Stand p l e room_1 (s.setVm vm0) m args below meth c T0 locs 30 200) (e0 : T0.heap = h0) (N0 : Fr n0 locs) (O0 : Old Z n0 h0) (p1 : Int32) (p2 : Int32) (p3 : Int32) (qa : Int64) (qb : Int64) (p6 : Int32) (i1 : Int32) (i2 : Int32) (cp : Int32) (q2 : Int64) (v1 : Addr) (v2 : Addr) (a1d : Addr) (a2d : Addr) (s1 : Addr) (s2 : Addr) (t1 : Addr) (t2 : Addr) (k1a : ClassId) (k2a : ClassId) (zCS : Int32) (E_a1 : ek22 Z h0 a1d) (Fe1 : fk18 Z h0 a1d (.ref v1)) (Ft1 : fk19 Z h0 a1d (.ref s1)) (E_s1 : ek21 Z h0 s1) (F1v : fk17 Z h0 s1 (.ref t1)) (F1c : fk16 Z h0 s1 (.int 0)) (E_a2 : ek22 Z h0 a2d) (Fe2 : fk18 Z h0 a2d (.ref v2)) (Ft2 : fk19 Z h0 a2d (.ref s2)) (E_s2 : ek21 Z h0 s2) (F2v : fk17 Z h0 s2 (.ref t2)) (F2c : fk16 Z h0 s2 (.int 0)) (ne12 : s1 ≠ s2) (R_1 : Arv Z h0 t1 k1a .byte (1 : Int32) [(.int (nar .byte ((own_ch qa (0 : Int32)).toInt8.toInt32)))] (.int 0)) (R_2 : Arv Z h0 t2 k2a .byte (1 : Int32) [(.int (nar .byte ((own_ch q2 (0 : Int32)).toInt8.toInt32)))] (.int 0)) (hveq : i1 = i2 → v1 = v2) (hvne : ¬ (i1 = i2) → v1 ≠ v2) (S_CS : sk0 Z Z.heap (.int zCS)) (P_CS : ¬ zCS = 0) :
    own_G p.tables e below (own_EW s (Q_law n0) room_1.cells room_1.slots) (T0.setTop (mkF m 121 #[vi p1, vi p2, vi p3, .val (.long qa), .second, .val (.long qb), .second, vi p6, vi i1, vi i2, vi 1, vi cp, vi 1, .val (.long q2), .second, vr a1d, vr a2d, .unset, .unset] [])) := by
  show gs T0 m 121 #[vi p1, vi p2, vi p3, .val (.long qa), .second, .val (.long qb), .second, vi p6, vi i1, vi i2, vi 1, vi cp, vi 1, .val (.long q2), .second, vr a1d, vr a2d, .unset, .unset] []
  refine oiload X0 hx hby at_121 rfl ?_
  refine oiconst X0 hx hby at_123 ?_
  refine own_st (fun _ kS => XS.iand X0.here hx rfl (hb hby at_124) rfl kS) ?_
  show gs T0 m 125 #[vi p1, vi p2, vi p3, .val (.long qa), .second, .val (.long qb), .second, vi p6, vi i1, vi i2, vi 1, vi cp, vi 1, .val (.long q2), .second, vr a1d, vr a2d, .unset, .unset] [(.int (p6 &&& (3 : Int32)))]
  rcases own_and3 p6 with hk1 | hk1 | hk1 | hk1
  · rw [hk1]
    show gs T0 m 125 #[vi p1, vi p2, vi p3, .val (.long qa), .second, .val (.long qb), .second, vi p6, vi i1, vi i2, vi 1, vi cp, vi 1, .val (.long q2), .second, vr a1d, vr a2d, .unset, .unset] [(.int 0)]
    refine own_st (fun _ kS => XS.istore X0.here hx rfl (hb hby at_125) rfl (l' := #[vi p1, vi p2, vi p3, .val (.long qa), .second, .val (.long qb), .second, vi p6, vi i1, vi i2, vi 1, vi cp, vi 1, .val (.long q2), .second, vr a1d, vr a2d, vi 0, .unset]) rfl kS) ?_
    refine oiload X0 hx hby at_127 rfl ?_
    refine oiconst X0 hx hby at_129 ?_
    refine own_st (fun _ kS => XS.icmpYes X0.here hx rfl (pc0 := 130) (pc' := 148) rfl (hb hby at_130) rfl (feq (by decide : ¬ ((0 : Int32) = (1 : Int32)))).2 (by decide) (by decide) kS) ?_
    show gs T0 m 148 #[vi p1, vi p2, vi p3, .val (.long qa), .second, .val (.long qb), .second, vi p6, vi i1, vi i2, vi 1, vi cp, vi 1, .val (.long q2), .second, vr a1d, vr a2d, vi 0, .unset] []
    refine oiload X0 hx hby at_148 rfl ?_
    refine oiconst X0 hx hby at_150 ?_
    refine own_st (fun _ kS => XS.icmpYes X0.here hx rfl (pc0 := 151) (pc' := 173) rfl (hb hby at_151) rfl (feq (by decide : ¬ ((0 : Int32) = (2 : Int32)))).2 (by decide) (by decide) kS) ?_
    show gs T0 m 173 #[vi p1, vi p2, vi p3, .val (.long qa), .second, .val (.long qb), .second, vi p6, vi i1, vi i2, vi 1, vi cp, vi 1, .val (.long q2), .second, vr a1d, vr a2d, vi 0, .unset] []
    refine oiload X0 hx hby at_173 rfl ?_
    refine oiconst X0 hx hby at_175 ?_
    refine own_st (fun _ kS => XS.icmpYes X0.here hx rfl (pc0 := 176) (pc' := 187) rfl (hb hby at_176) rfl (feq (by decide : ¬ ((0 : Int32) = (3 : Int32)))).2 (by decide) (by decide) kS) ?_
    show gs T0 m 187 #[vi p1, vi p2, vi p3, .val (.long qa), .second, .val (.long qb), .second, vi p6, vi i1, vi i2, vi 1, vi cp, vi 1, .val (.long q2), .second, vr a1d, vr a2d, vi 0, .unset] []
    refine oiload X0 hx hby at_187 rfl ?_
    refine oiload X0 hx hby at_189 rfl ?_
    show gs T0 m 191 #[vi p1, vi p2, vi p3, .val (.long qa), .second, .val (.long qb), .second, vi p6, vi i1, vi i2, vi 1, vi cp, vi 1, .val (.long q2), .second, vr a1d, vr a2d, vi 0, .unset] [(.int i2), (.int i1)]
    by_cases hc191_2 : i1 = i2
    · skip
      refine own_st (fun _ kS => XS.icmpNo X0.here hx rfl (hb hby at_191) rfl (teq hc191_2).2 kS) ?_
      show gs T0 m 194 #[vi p1, vi p2, vi p3, .val (.long qa), .second, .val (.long qb), .second, vi p6, vi i1, vi i2, vi 1, vi cp, vi 1, .val (.long q2), .second, vr a1d, vr a2d, vi 0, .unset] []
      have Fe2' : fk18 Z h0 a2d (.ref v1) := by rw [hveq hc191_2]; exact Fe2
      refine oiload X0 hx hby at_194 rfl ?_
      refine own_st (fun _ kS => XT.lloadN X0.here hx rfl (hb hby at_196) rfl kS) ?_
      refine oiload X0 hx hby at_197 rfl ?_
      refine own_st (fun _ kS => XT.lload X0.here hx rfl (hb hby at_199) rfl kS) ?_
      show gs T0 m 201 #[vi p1, vi p2, vi p3, .val (.long qa), .second, .val (.long qb), .second, vi p6, vi i1, vi i2, vi 1, vi cp, vi 1, .val (.long q2), .second, vr a1d, vr a2d, vi 0, .unset] [(.long q2), (.int 1), (.long qa), (.int 1)]
      by_cases hq0 : (own_ch qa (0 : Int32)) = (own_ch q2 (0 : Int32))
      · skip
        show gs T0 m 201 #[vi p1, vi p2, vi p3, .val (.long qa), .second, .val (.long qb), .second, vi p6, vi i1, vi i2, vi 1, vi cp, vi 1, .val (.long q2), .second, vr a1d, vr a2d, vi 0, .unset] [(.long q2), (.int 1), (.long qa), (.int 1)]
        refine oS 0 X0 hx hZ hby hml hown (own_w hw 117 rfl) (own_w hw 118 rfl) (own_w hw 6 rfl) (own_w hw 119 rfl) (rm_samT_1_T l Z a0 hw [] qa q2 h0 n0 Z0  hq0) e0 (by decide) own_pd9 at_201 rfl rfl rfl (fun T3 L3 v3 X3 hQ3 => ?_)
        obtain ⟨rfl, Nq3, eq3⟩ := hQ3
        have N3 := Fr.app N0 Nq3
        show gs T3 m 204 #[vi p1, vi p2, vi p3, .val (.long qa), .second, .val (.long qb), .second, vi p6, vi i1, vi i2, vi 1, vi cp, vi 1, .val (.long q2), .second, vr a1d, vr a2d, vi 0, .unset] [(.int 1)]
        refine own_st (fun _ kS => XS.ifNo X3.here hx rfl (hb hby at_204) rfl ((if0 _ _).trans (feq (by decide : ¬ ((1 : Int32) = (0 : Int32)))).1) kS) ?_
        show gs T3 m 207 #[vi p1, vi p2, vi p3, .val (.long qa), .second, .val (.long qb), .second, vi p6, vi i1, vi i2, vi 1, vi cp, vi 1, .val (.long q2), .second, vr a1d, vr a2d, vi 0, .unset] []
        refine oiconst X3 hx hby at_207 ?_
        refine own_st (fun _ kS => XS.goto X3.here hx rfl (pc0 := 208) (pc' := 212) rfl (hb hby at_208) (by decide) (by decide) kS) ?_
        refine own_st (fun _ kS => XS.istore X3.here hx rfl (hb hby at_212) rfl (l' := #[vi p1, vi p2, vi p3, .val (.long qa), .second, .val (.long qb), .second, vi p6, vi i1, vi i2, vi 1, vi cp, vi 1, .val (.long q2), .second, vr a1d, vr a2d, vi 0, vi 1]) rfl kS) ?_
        refine oaload X3 hx hby at_214 rfl rfl ?_
        refine oaload X3 hx hby at_216 rfl rfl ?_
        refine oV 0 X3 hx hZ hby hml hown (own_w hw 98 rfl) (own_w hw 99 rfl) (own_w hw 101 rfl) (own_w hw 100 rfl) (rm_dcE_1_T l Z a0 hw [] a1d a2d v1 s1 s2 t1 t2 k1a k2a (nar .byte ((own_ch qa (0 : Int32)).toInt8.toInt32)) (nar .byte ((own_ch q2 (0 : Int32)).toInt8.toInt32)) zCS h0 n0 Z0 O0 E_a1 E_a2 Fe1 Ft1 Fe2' Ft2 ne12 E_s1 E_s2 F1v F2v F1c F2c R_1 R_2 (own_beq hq0) S_CS P_CS) (own_w hw 102 rfl) (own_w hw 3 rfl) eq3 E_a1 (by decide) own_pd8 at_218 rfl rfl rfl (fun T4 L4 v4 X4 hQ4 => ?_)
        obtain ⟨rfl, Nq4, eq4⟩ := hQ4
        have N4 := Fr.app N3 Nq4
        show gs T4 m 221 #[vi p1, vi p2, vi p3, .val (.long qa), .second, .val (.long qb), .second, vi p6, vi i1, vi i2, vi 1, vi cp, vi 1, .val (.long q2), .second, vr a1d, vr a2d, vi 0, vi 1] [(.int 1)]
        refine oiload X4 hx hby at_221 rfl ?_
        refine own_st (fun _ kS => XS.icmpNo X4.here hx rfl (hb hby at_223) rfl (teq (by decide : (1 : Int32) = (1 : Int32))).2 kS) ?_
        show gs T4 m 226 #[vi p1, vi p2, vi p3, .val (.long qa), .second, .val (.long qb), .second, vi p6, vi i1, vi i2, vi 1, vi cp, vi 1, .val (.long q2), .second, vr a1d, vr a2d, vi 0, vi 1] []
        refine oaload X4 hx hby at_226 rfl rfl ?_
        refine oaload X4 hx hby at_228 rfl rfl ?_
        refine oV 0 X4 hx hZ hby hml hown (own_w hw 98 rfl) (own_w hw 99 rfl) (own_w hw 101 rfl) (own_w hw 100 rfl) (rm_dcE_1_T l Z a0 hw [] a2d a1d v1 s2 s1 t2 t1 k2a k1a (nar .byte ((own_ch q2 (0 : Int32)).toInt8.toInt32)) (nar .byte ((own_ch qa (0 : Int32)).toInt8.toInt32)) zCS h0 n0 Z0 O0 E_a2 E_a1 Fe2' Ft2 Fe1 Ft1 (Ne.symm ne12) E_s2 E_s1 F2v F1v F2c F1c R_2 R_1 (own_beq hq0.symm) S_CS P_CS) (own_w hw 102 rfl) (own_w hw 3 rfl) eq4 E_a2 (by decide) own_pd8 at_230 rfl rfl rfl (fun T5 L5 v5 X5 hQ5 => ?_)
        obtain ⟨rfl, Nq5, eq5⟩ := hQ5
        have N5 := Fr.app N4 Nq5
        show gs T5 m 233 #[vi p1, vi p2, vi p3, .val (.long qa), .second, .val (.long qb), .second, vi p6, vi i1, vi i2, vi 1, vi cp, vi 1, .val (.long q2), .second, vr a1d, vr a2d, vi 0, vi 1] [(.int 1)]
        refine oiload X5 hx hby at_233 rfl ?_
        refine own_st (fun _ kS => XS.icmpNo X5.here hx rfl (hb hby at_235) rfl (teq (by decide : (1 : Int32) = (1 : Int32))).2 kS) ?_
        show gs T5 m 238 #[vi p1, vi p2, vi p3, .val (.long qa), .second, .val (.long qb), .second, vi p6, vi i1, vi i2, vi 1, vi cp, vi 1, .val (.long q2), .second, vr a1d, vr a2d, vi 0, vi 1] []
        refine oiconst X5 hx hby at_238 ?_
        refine own_st (fun _ kS => XS.goto X5.here hx rfl (pc0 := 239) (pc' := 243) rfl (hb hby at_239) (by decide) (by decide) kS) ?_
        show gs T5 m 243 #[vi p1, vi p2, vi p3, .val (.long qa), .second, .val (.long qb), .second, vi p6, vi i1, vi i2, vi 1, vi cp, vi 1, .val (.long q2), .second, vr a1d, vr a2d, vi 0, vi 1] [(.int 1)]
        exact own_retNW hS (own_le eq5 hk0) X5 hx hlk (t := .boolean) hret (by simp) (hb hby at_243) (by decide) (by decide) (v' := (1 : Int32)) rfl (by rw [eq5]; exact ⟨rfl, N5⟩)
      · skip
        show gs T0 m 201 #[vi p1, vi p2, vi p3, .val (.long qa), .second, .val (.long qb), .second, vi p6, vi i1, vi i2, vi 1, vi cp, vi 1, .val (.long q2), .second, vr a1d, vr a2d, vi 0, .unset] [(.long q2), (.int 1), (.long qa), (.int 1)]
        refine oS 0 X0 hx hZ hby hml hown (own_w hw 117 rfl) (own_w hw 118 rfl) (own_w hw 6 rfl) (own_w hw 119 rfl) (rm_samT_1_0 l Z a0 hw [] qa q2 h0 n0 Z0  hq0) e0 (by decide) own_pd9 at_201 rfl rfl rfl (fun T6 L6 v6 X6 hQ6 => ?_)
        obtain ⟨rfl, Nq6, eq6⟩ := hQ6
        have N6 := Fr.app N0 Nq6
        show gs T6 m 204 #[vi p1, vi p2, vi p3, .val (.long qa), .second, .val (.long qb), .second, vi p6, vi i1, vi i2, vi 1, vi cp, vi 1, .val (.long q2), .second, vr a1d, vr a2d, vi 0, .unset] [(.int 0)]
        refine own_st (fun _ kS => XS.ifYes X6.here hx rfl (pc0 := 204) (pc' := 211) rfl (hb hby at_204) rfl ((if0 _ _).trans (teq (by decide : (0 : Int32) = (0 : Int32))).1) (by decide) (by decide) kS) ?_
        show gs T6 m 211 #[vi p1, vi p2, vi p3, .val (.long qa), .second, .val (.long qb), .second, vi p6, vi i1, vi i2, vi 1, vi cp, vi 1, .val (.long q2), .second, vr a1d, vr a2d, vi 0, .unset] []
        refine oiconst X6 hx hby at_211 ?_
        refine own_st (fun _ kS => XS.istore X6.here hx rfl (hb hby at_212) rfl (l' := #[vi p1, vi p2, vi p3, .val (.long qa), .second, .val (.long qb), .second, vi p6, vi i1, vi i2, vi 1, vi cp, vi 1, .val (.long q2), .second, vr a1d, vr a2d, vi 0, vi 0]) rfl kS) ?_
        refine oaload X6 hx hby at_214 rfl rfl ?_
        refine oaload X6 hx hby at_216 rfl rfl ?_
        refine oV 0 X6 hx hZ hby hml hown (own_w hw 98 rfl) (own_w hw 99 rfl) (own_w hw 101 rfl) (own_w hw 100 rfl) (rm_dcE_1_0 l Z a0 hw [] a1d a2d v1 s1 s2 t1 t2 k1a k2a (nar .byte ((own_ch qa (0 : Int32)).toInt8.toInt32)) (nar .byte ((own_ch q2 (0 : Int32)).toInt8.toInt32)) zCS h0 n0 Z0 O0 E_a1 E_a2 Fe1 Ft1 Fe2' Ft2 ne12 E_s1 E_s2 F1v F2v F1c F2c R_1 R_2 (own_bne hq0) S_CS P_CS) (own_w hw 102 rfl) (own_w hw 3 rfl) eq6 E_a1 (by decide) own_pd8 at_218 rfl rfl rfl (fun T7 L7 v7 X7 hQ7 => ?_)
        obtain ⟨rfl, Nq7, eq7⟩ := hQ7
        have N7 := Fr.app N6 Nq7
        show gs T7 m 221 #[vi p1, vi p2, vi p3, .val (.long qa), .second, .val (.long qb), .second, vi p6, vi i1, vi i2, vi 1, vi cp, vi 1, .val (.long q2), .second, vr a1d, vr a2d, vi 0, vi 0] [(.int 0)]
        refine oiload X7 hx hby at_221 rfl ?_
        refine own_st (fun _ kS => XS.icmpNo X7.here hx rfl (hb hby at_223) rfl (teq (by decide : (0 : Int32) = (0 : Int32))).2 kS) ?_
        show gs T7 m 226 #[vi p1, vi p2, vi p3, .val (.long qa), .second, .val (.long qb), .second, vi p6, vi i1, vi i2, vi 1, vi cp, vi 1, .val (.long q2), .second, vr a1d, vr a2d, vi 0, vi 0] []
        refine oaload X7 hx hby at_226 rfl rfl ?_
        refine oaload X7 hx hby at_228 rfl rfl ?_
        refine oV 0 X7 hx hZ hby hml hown (own_w hw 98 rfl) (own_w hw 99 rfl) (own_w hw 101 rfl) (own_w hw 100 rfl) (rm_dcE_1_0 l Z a0 hw [] a2d a1d v1 s2 s1 t2 t1 k2a k1a (nar .byte ((own_ch q2 (0 : Int32)).toInt8.toInt32)) (nar .byte ((own_ch qa (0 : Int32)).toInt8.toInt32)) zCS h0 n0 Z0 O0 E_a2 E_a1 Fe2' Ft2 Fe1 Ft1 (Ne.symm ne12) E_s2 E_s1 F2v F1v F2c F1c R_2 R_1 (own_bne (fun e => hq0 e.symm)) S_CS P_CS) (own_w hw 102 rfl) (own_w hw 3 rfl) eq7 E_a2 (by decide) own_pd8 at_230 rfl rfl rfl (fun T8 L8 v8 X8 hQ8 => ?_)
        obtain ⟨rfl, Nq8, eq8⟩ := hQ8
        have N8 := Fr.app N7 Nq8
        show gs T8 m 233 #[vi p1, vi p2, vi p3, .val (.long qa), .second, .val (.long qb), .second, vi p6, vi i1, vi i2, vi 1, vi cp, vi 1, .val (.long q2), .second, vr a1d, vr a2d, vi 0, vi 0] [(.int 0)]
        refine oiload X8 hx hby at_233 rfl ?_
        refine own_st (fun _ kS => XS.icmpNo X8.here hx rfl (hb hby at_235) rfl (teq (by decide : (0 : Int32) = (0 : Int32))).2 kS) ?_
        show gs T8 m 238 #[vi p1, vi p2, vi p3, .val (.long qa), .second, .val (.long qb), .second, vi p6, vi i1, vi i2, vi 1, vi cp, vi 1, .val (.long q2), .second, vr a1d, vr a2d, vi 0, vi 0] []
        refine oiconst X8 hx hby at_238 ?_
        refine own_st (fun _ kS => XS.goto X8.here hx rfl (pc0 := 239) (pc' := 243) rfl (hb hby at_239) (by decide) (by decide) kS) ?_
        show gs T8 m 243 #[vi p1, vi p2, vi p3, .val (.long qa), .second, .val (.long qb), .second, vi p6, vi i1, vi i2, vi 1, vi cp, vi 1, .val (.long q2), .second, vr a1d, vr a2d, vi 0, vi 0] [(.int 1)]
        exact own_retNW hS (own_le eq8 hk0) X8 hx hlk (t := .boolean) hret (by simp) (hb hby at_243) (by decide) (by decide) (v' := (1 : Int32)) rfl (by rw [eq8]; exact ⟨rfl, N8⟩)
    · skip
      refine own_st (fun _ kS => XS.icmpYes X0.here hx rfl (pc0 := 191) (pc' := 211) rfl (hb hby at_191) rfl (feq hc191_2).2 (by decide) (by decide) kS) ?_
      show gs T0 m 211 #[vi p1, vi p2, vi p3, .val (.long qa), .second, .val (.long qb), .second, vi p6, vi i1, vi i2, vi 1, vi cp, vi 1, .val (.long q2), .second, vr a1d, vr a2d, vi 0, .unset] []
      refine oiconst X0 hx hby at_211 ?_
      refine own_st (fun _ kS => XS.istore X0.here hx rfl (hb hby at_212) rfl (l' := #[vi p1, vi p2, vi p3, .val (.long qa), .second, .val (.long qb), .second, vi p6, vi i1, vi i2, vi 1, vi cp, vi 1, .val (.long q2), .second, vr a1d, vr a2d, vi 0, vi 0]) rfl kS) ?_
      refine oaload X0 hx hby at_214 rfl rfl ?_
      refine oaload X0 hx hby at_216 rfl rfl ?_
      refine oV 0 X0 hx hZ hby hml hown (own_w hw 98 rfl) (own_w hw 99 rfl) (own_w hw 101 rfl) (own_w hw 100 rfl) (rm_dcEl l Z a0 hw [] a1d a2d v1 v2 h0 n0 Z0  E_a1 E_a2 Fe1 Fe2 (hvne hc191_2)) (own_w hw 102 rfl) (own_w hw 3 rfl) e0 E_a1 (by decide) own_pd8 at_218 rfl rfl rfl (fun T9 L9 v9 X9 hQ9 => ?_)
      obtain ⟨rfl, Nq9, eq9⟩ := hQ9
      have N9 := Fr.app N0 Nq9
      show gs T9 m 221 #[vi p1, vi p2, vi p3, .val (.long qa), .second, .val (.long qb), .second, vi p6, vi i1, vi i2, vi 1, vi cp, vi 1, .val (.long q2), .second, vr a1d, vr a2d, vi 0, vi 0] [(.int 0)]
      refine oiload X9 hx hby at_221 rfl ?_
      refine own_st (fun _ kS => XS.icmpNo X9.here hx rfl (hb hby at_223) rfl (teq (by decide : (0 : Int32) = (0 : Int32))).2 kS) ?_
      show gs T9 m 226 #[vi p1, vi p2, vi p3, .val (.long qa), .second, .val (.long qb), .second, vi p6, vi i1, vi i2, vi 1, vi cp, vi 1, .val (.long q2), .second, vr a1d, vr a2d, vi 0, vi 0] []
      refine oaload X9 hx hby at_226 rfl rfl ?_
      refine oaload X9 hx hby at_228 rfl rfl ?_
      refine oV 0 X9 hx hZ hby hml hown (own_w hw 98 rfl) (own_w hw 99 rfl) (own_w hw 101 rfl) (own_w hw 100 rfl) (rm_dcEl l Z a0 hw [] a2d a1d v2 v1 h0 n0 Z0  E_a2 E_a1 Fe2 Fe1 (Ne.symm (hvne hc191_2))) (own_w hw 102 rfl) (own_w hw 3 rfl) eq9 E_a2 (by decide) own_pd8 at_230 rfl rfl rfl (fun T10 L10 v10 X10 hQ10 => ?_)
      obtain ⟨rfl, Nq10, eq10⟩ := hQ10
      have N10 := Fr.app N9 Nq10
      show gs T10 m 233 #[vi p1, vi p2, vi p3, .val (.long qa), .second, .val (.long qb), .second, vi p6, vi i1, vi i2, vi 1, vi cp, vi 1, .val (.long q2), .second, vr a1d, vr a2d, vi 0, vi 0] [(.int 0)]
      refine oiload X10 hx hby at_233 rfl ?_
      refine own_st (fun _ kS => XS.icmpNo X10.here hx rfl (hb hby at_235) rfl (teq (by decide : (0 : Int32) = (0 : Int32))).2 kS) ?_
      show gs T10 m 238 #[vi p1, vi p2, vi p3, .val (.long qa), .second, .val (.long qb), .second, vi p6, vi i1, vi i2, vi 1, vi cp, vi 1, .val (.long q2), .second, vr a1d, vr a2d, vi 0, vi 0] []
      refine oiconst X10 hx hby at_238 ?_
      refine own_st (fun _ kS => XS.goto X10.here hx rfl (pc0 := 239) (pc' := 243) rfl (hb hby at_239) (by decide) (by decide) kS) ?_
      show gs T10 m 243 #[vi p1, vi p2, vi p3, .val (.long qa), .second, .val (.long qb), .second, vi p6, vi i1, vi i2, vi 1, vi cp, vi 1, .val (.long q2), .second, vr a1d, vr a2d, vi 0, vi 0] [(.int 1)]
      exact own_retNW hS (own_le eq10 hk0) X10 hx hlk (t := .boolean) hret (by simp) (hb hby at_243) (by decide) (by decide) (v' := (1 : Int32)) rfl (by rw [eq10]; exact ⟨rfl, N10⟩)
  · rw [hk1]
    show gs T0 m 125 #[vi p1, vi p2, vi p3, .val (.long qa), .second, .val (.long qb), .second, vi p6, vi i1, vi i2, vi 1, vi cp, vi 1, .val (.long q2), .second, vr a1d, vr a2d, .unset, .unset] [(.int 1)]
    refine own_st (fun _ kS => XS.istore X0.here hx rfl (hb hby at_125) rfl (l' := #[vi p1, vi p2, vi p3, .val (.long qa), .second, .val (.long qb), .second, vi p6, vi i1, vi i2, vi 1, vi cp, vi 1, .val (.long q2), .second, vr a1d, vr a2d, vi 1, .unset]) rfl kS) ?_
    refine oiload X0 hx hby at_127 rfl ?_
    refine oiconst X0 hx hby at_129 ?_
    refine own_st (fun _ kS => XS.icmpNo X0.here hx rfl (hb hby at_130) rfl (teq (by decide : (1 : Int32) = (1 : Int32))).2 kS) ?_
    show gs T0 m 133 #[vi p1, vi p2, vi p3, .val (.long qa), .second, .val (.long qb), .second, vi p6, vi i1, vi i2, vi 1, vi cp, vi 1, .val (.long q2), .second, vr a1d, vr a2d, vi 1, .unset] []
    refine oaload X0 hx hby at_133 rfl rfl ?_
    refine own_st (fun _ kS => XS.aconstNull X0.here hx rfl (hb hby at_135) kS) ?_
    show gs T0 m 136 #[vi p1, vi p2, vi p3, .val (.long qa), .second, .val (.long qb), .second, vi p6, vi i1, vi i2, vi 1, vi cp, vi 1, .val (.long q2), .second, vr a1d, vr a2d, vi 1, .unset] [.null, (.ref a1d)]
    refine oV 0 X0 hx hZ hby hml hown (own_w hw 98 rfl) (own_w hw 99 rfl) (own_w hw 101 rfl) (own_w hw 100 rfl) (rm_dcNu l Z a0 hw [] a1d h0 n0 Z0  ) (own_w hw 102 rfl) (own_w hw 3 rfl) e0 E_a1 (by decide) own_pd8 at_136 rfl rfl rfl (fun T11 L11 v11 X11 hQ11 => ?_)
    obtain ⟨rfl, Nq11, eq11⟩ := hQ11
    have N11 := Fr.app N0 Nq11
    show gs T11 m 139 #[vi p1, vi p2, vi p3, .val (.long qa), .second, .val (.long qb), .second, vi p6, vi i1, vi i2, vi 1, vi cp, vi 1, .val (.long q2), .second, vr a1d, vr a2d, vi 1, .unset] [(.int 0)]
    refine own_st (fun _ kS => XS.ifNo X11.here hx rfl (hb hby at_139) rfl ((if0 _ _).trans (teq (by decide : (0 : Int32) = (0 : Int32))).2) kS) ?_
    show gs T11 m 142 #[vi p1, vi p2, vi p3, .val (.long qa), .second, .val (.long qb), .second, vi p6, vi i1, vi i2, vi 1, vi cp, vi 1, .val (.long q2), .second, vr a1d, vr a2d, vi 1, .unset] []
    refine oiconst X11 hx hby at_142 ?_
    refine own_st (fun _ kS => XS.goto X11.here hx rfl (pc0 := 143) (pc' := 147) rfl (hb hby at_143) (by decide) (by decide) kS) ?_
    show gs T11 m 147 #[vi p1, vi p2, vi p3, .val (.long qa), .second, .val (.long qb), .second, vi p6, vi i1, vi i2, vi 1, vi cp, vi 1, .val (.long q2), .second, vr a1d, vr a2d, vi 1, .unset] [(.int 1)]
    exact own_retNW hS (own_le eq11 hk0) X11 hx hlk (t := .boolean) hret (by simp) (hb hby at_147) (by decide) (by decide) (v' := (1 : Int32)) rfl (by rw [eq11]; exact ⟨rfl, N11⟩)
  · rw [hk1]
    show gs T0 m 125 #[vi p1, vi p2, vi p3, .val (.long qa), .second, .val (.long qb), .second, vi p6, vi i1, vi i2, vi 1, vi cp, vi 1, .val (.long q2), .second, vr a1d, vr a2d, .unset, .unset] [(.int 2)]
    refine own_st (fun _ kS => XS.istore X0.here hx rfl (hb hby at_125) rfl (l' := #[vi p1, vi p2, vi p3, .val (.long qa), .second, .val (.long qb), .second, vi p6, vi i1, vi i2, vi 1, vi cp, vi 1, .val (.long q2), .second, vr a1d, vr a2d, vi 2, .unset]) rfl kS) ?_
    refine oiload X0 hx hby at_127 rfl ?_
    refine oiconst X0 hx hby at_129 ?_
    refine own_st (fun _ kS => XS.icmpYes X0.here hx rfl (pc0 := 130) (pc' := 148) rfl (hb hby at_130) rfl (feq (by decide : ¬ ((2 : Int32) = (1 : Int32)))).2 (by decide) (by decide) kS) ?_
    show gs T0 m 148 #[vi p1, vi p2, vi p3, .val (.long qa), .second, .val (.long qb), .second, vi p6, vi i1, vi i2, vi 1, vi cp, vi 1, .val (.long q2), .second, vr a1d, vr a2d, vi 2, .unset] []
    refine oiload X0 hx hby at_148 rfl ?_
    refine oiconst X0 hx hby at_150 ?_
    refine own_st (fun _ kS => XS.icmpNo X0.here hx rfl (hb hby at_151) rfl (teq (by decide : (2 : Int32) = (2 : Int32))).2 kS) ?_
    show gs T0 m 154 #[vi p1, vi p2, vi p3, .val (.long qa), .second, .val (.long qb), .second, vi p6, vi i1, vi i2, vi 1, vi cp, vi 1, .val (.long q2), .second, vr a1d, vr a2d, vi 2, .unset] []
    refine oaload X0 hx hby at_154 rfl rfl ?_
    refine oaload X0 hx hby at_156 rfl rfl ?_
    refine oV 1 X0 hx hZ hby hml hown (own_w hw 110 rfl) (own_w hw 111 rfl) (own_w hw 113 rfl) (own_w hw 112 rfl) (rm_dcText l Z a0 hw [] a1d s1 h0 n0 Z0  Ft1) (own_w hw 114 rfl) (own_w hw 3 rfl) e0 E_a1 (by decide) own_pd10 at_158 rfl rfl rfl (fun T12 L12 v12 X12 hQ12 => ?_)
    obtain ⟨rfl, Nq12, eq12⟩ := hQ12
    have N12 := Fr.app N0 Nq12
    show gs T12 m 161 #[vi p1, vi p2, vi p3, .val (.long qa), .second, .val (.long qb), .second, vi p6, vi i1, vi i2, vi 1, vi cp, vi 1, .val (.long q2), .second, vr a1d, vr a2d, vi 2, .unset] [(.ref s1), (.ref a1d)]
    refine oV 0 X12 hx hZ hby hml hown (own_w hw 98 rfl) (own_w hw 99 rfl) (own_w hw 101 rfl) (own_w hw 100 rfl) (rm_dcTx l Z a0 hw [] a1d s1 h0 n0 Z0  E_s1) (own_w hw 102 rfl) (own_w hw 3 rfl) eq12 E_a1 (by decide) own_pd8 at_161 rfl rfl rfl (fun T13 L13 v13 X13 hQ13 => ?_)
    obtain ⟨rfl, Nq13, eq13⟩ := hQ13
    have N13 := Fr.app N12 Nq13
    show gs T13 m 164 #[vi p1, vi p2, vi p3, .val (.long qa), .second, .val (.long qb), .second, vi p6, vi i1, vi i2, vi 1, vi cp, vi 1, .val (.long q2), .second, vr a1d, vr a2d, vi 2, .unset] [(.int 0)]
    refine own_st (fun _ kS => XS.ifNo X13.here hx rfl (hb hby at_164) rfl ((if0 _ _).trans (teq (by decide : (0 : Int32) = (0 : Int32))).2) kS) ?_
    show gs T13 m 167 #[vi p1, vi p2, vi p3, .val (.long qa), .second, .val (.long qb), .second, vi p6, vi i1, vi i2, vi 1, vi cp, vi 1, .val (.long q2), .second, vr a1d, vr a2d, vi 2, .unset] []
    refine oiconst X13 hx hby at_167 ?_
    refine own_st (fun _ kS => XS.goto X13.here hx rfl (pc0 := 168) (pc' := 172) rfl (hb hby at_168) (by decide) (by decide) kS) ?_
    show gs T13 m 172 #[vi p1, vi p2, vi p3, .val (.long qa), .second, .val (.long qb), .second, vi p6, vi i1, vi i2, vi 1, vi cp, vi 1, .val (.long q2), .second, vr a1d, vr a2d, vi 2, .unset] [(.int 1)]
    exact own_retNW hS (own_le eq13 hk0) X13 hx hlk (t := .boolean) hret (by simp) (hb hby at_172) (by decide) (by decide) (v' := (1 : Int32)) rfl (by rw [eq13]; exact ⟨rfl, N13⟩)
  · rw [hk1]
    show gs T0 m 125 #[vi p1, vi p2, vi p3, .val (.long qa), .second, .val (.long qb), .second, vi p6, vi i1, vi i2, vi 1, vi cp, vi 1, .val (.long q2), .second, vr a1d, vr a2d, .unset, .unset] [(.int 3)]
    refine own_st (fun _ kS => XS.istore X0.here hx rfl (hb hby at_125) rfl (l' := #[vi p1, vi p2, vi p3, .val (.long qa), .second, .val (.long qb), .second, vi p6, vi i1, vi i2, vi 1, vi cp, vi 1, .val (.long q2), .second, vr a1d, vr a2d, vi 3, .unset]) rfl kS) ?_
    refine oiload X0 hx hby at_127 rfl ?_
    refine oiconst X0 hx hby at_129 ?_
    refine own_st (fun _ kS => XS.icmpYes X0.here hx rfl (pc0 := 130) (pc' := 148) rfl (hb hby at_130) rfl (feq (by decide : ¬ ((3 : Int32) = (1 : Int32)))).2 (by decide) (by decide) kS) ?_
    show gs T0 m 148 #[vi p1, vi p2, vi p3, .val (.long qa), .second, .val (.long qb), .second, vi p6, vi i1, vi i2, vi 1, vi cp, vi 1, .val (.long q2), .second, vr a1d, vr a2d, vi 3, .unset] []
    refine oiload X0 hx hby at_148 rfl ?_
    refine oiconst X0 hx hby at_150 ?_
    refine own_st (fun _ kS => XS.icmpYes X0.here hx rfl (pc0 := 151) (pc' := 173) rfl (hb hby at_151) rfl (feq (by decide : ¬ ((3 : Int32) = (2 : Int32)))).2 (by decide) (by decide) kS) ?_
    show gs T0 m 173 #[vi p1, vi p2, vi p3, .val (.long qa), .second, .val (.long qb), .second, vi p6, vi i1, vi i2, vi 1, vi cp, vi 1, .val (.long q2), .second, vr a1d, vr a2d, vi 3, .unset] []
    refine oiload X0 hx hby at_173 rfl ?_
    refine oiconst X0 hx hby at_175 ?_
    refine own_st (fun _ kS => XS.icmpNo X0.here hx rfl (hb hby at_176) rfl (teq (by decide : (3 : Int32) = (3 : Int32))).2 kS) ?_
    show gs T0 m 179 #[vi p1, vi p2, vi p3, .val (.long qa), .second, .val (.long qb), .second, vi p6, vi i1, vi i2, vi 1, vi cp, vi 1, .val (.long q2), .second, vr a1d, vr a2d, vi 3, .unset] []
    refine oaload X0 hx hby at_179 rfl rfl ?_
    refine oaload X0 hx hby at_181 rfl rfl ?_
    refine oV 0 X0 hx hZ hby hml hown (own_w hw 98 rfl) (own_w hw 99 rfl) (own_w hw 101 rfl) (own_w hw 100 rfl) (rm_dcS l Z a0 hw [] a1d v1 s1 h0 n0 Z0  E_a1 E_s1 Fe1 Ft1) (own_w hw 102 rfl) (own_w hw 3 rfl) e0 E_a1 (by decide) own_pd8 at_183 rfl rfl rfl (fun T14 L14 v14 X14 hQ14 => ?_)
    obtain ⟨rfl, Nq14, eq14⟩ := hQ14
    have N14 := Fr.app N0 Nq14
    show gs T14 m 186 #[vi p1, vi p2, vi p3, .val (.long qa), .second, .val (.long qb), .second, vi p6, vi i1, vi i2, vi 1, vi cp, vi 1, .val (.long q2), .second, vr a1d, vr a2d, vi 3, .unset] [(.int 1)]
    exact own_retNW hS (own_le eq14 hk0) X14 hx hlk (t := .boolean) hret (by simp) (hb hby at_186) (by decide) (by decide) (v' := (1 : Int32)) rfl (by rw [eq14]; exact ⟨rfl, N14⟩)
theorem sg_E2 {p : Program} {l : Launch} {e : Env} {s : State} {m : MethodId} {args : Array Value} {below : List Frame} {meth : Method} {c : Code} {T0 : State} {locs : List Loc} {Z : State} {a0 : Array Value} {h0 : Heap} {n0 : Nat} {vm0 : Vm} {kv0 : Nat} (hx : p.tables.exec = Jvm.exec) (hby : c.code = code) (hml : c.maxLocals = 19) (hown : (s.setVm vm0).vm.findClass "com/example/cartouche/cartouche/crosswalks/DcValueEqualsPinLaw" = some m.cls) (hlk : meth.locks = false) (hret : meth.sig.returnType = some .boolean) (hZ : Z.Warmed39 (s.setVm vm0).vm) (hw : HW a0 Z) (Z0 : n0 ≤ h0.size) (hS : s.Since vm0 kv0) (hk0 : kv0 ≤ h0.size)
    (X0 : Stand p l e room_1 (s.setVm vm0) m args below meth c T0 locs 30 200) (e0 : T0.heap = h0) (N0 : Fr n0 locs) (O0 : Old Z n0 h0) (p1 : Int32) (p2 : Int32) (p3 : Int32) (qa : Int64) (qb : Int64) (p6 : Int32) (i1 : Int32) (i2 : Int32) (cp : Int32) (q2 : Int64) (v1 : Addr) (v2 : Addr) (a1d : Addr) (a2d : Addr) (s1 : Addr) (s2 : Addr) (t1 : Addr) (t2 : Addr) (k1a : ClassId) (k2a : ClassId) (zCS : Int32) (E_a1 : ek22 Z h0 a1d) (Fe1 : fk18 Z h0 a1d (.ref v1)) (Ft1 : fk19 Z h0 a1d (.ref s1)) (E_s1 : ek21 Z h0 s1) (F1v : fk17 Z h0 s1 (.ref t1)) (F1c : fk16 Z h0 s1 (.int 0)) (E_a2 : ek22 Z h0 a2d) (Fe2 : fk18 Z h0 a2d (.ref v2)) (Ft2 : fk19 Z h0 a2d (.ref s2)) (E_s2 : ek21 Z h0 s2) (F2v : fk17 Z h0 s2 (.ref t2)) (F2c : fk16 Z h0 s2 (.int 0)) (ne12 : s1 ≠ s2) (R_1 : Arv Z h0 t1 k1a .byte (2 : Int32) [(.int (nar .byte ((own_ch qa (0 : Int32)).toInt8.toInt32))), (.int (nar .byte ((own_ch qa (1 : Int32)).toInt8.toInt32)))] (.int 0)) (R_2 : Arv Z h0 t2 k2a .byte (2 : Int32) [(.int (nar .byte ((own_ch q2 (0 : Int32)).toInt8.toInt32))), (.int (nar .byte ((own_ch q2 (1 : Int32)).toInt8.toInt32)))] (.int 0)) (hveq : i1 = i2 → v1 = v2) (hvne : ¬ (i1 = i2) → v1 ≠ v2) (S_CS : sk0 Z Z.heap (.int zCS)) (P_CS : ¬ zCS = 0) :
    own_G p.tables e below (own_EW s (Q_law n0) room_1.cells room_1.slots) (T0.setTop (mkF m 121 #[vi p1, vi p2, vi p3, .val (.long qa), .second, .val (.long qb), .second, vi p6, vi i1, vi i2, vi 2, vi cp, vi 2, .val (.long q2), .second, vr a1d, vr a2d, .unset, .unset] [])) := by
  show gs T0 m 121 #[vi p1, vi p2, vi p3, .val (.long qa), .second, .val (.long qb), .second, vi p6, vi i1, vi i2, vi 2, vi cp, vi 2, .val (.long q2), .second, vr a1d, vr a2d, .unset, .unset] []
  refine oiload X0 hx hby at_121 rfl ?_
  refine oiconst X0 hx hby at_123 ?_
  refine own_st (fun _ kS => XS.iand X0.here hx rfl (hb hby at_124) rfl kS) ?_
  show gs T0 m 125 #[vi p1, vi p2, vi p3, .val (.long qa), .second, .val (.long qb), .second, vi p6, vi i1, vi i2, vi 2, vi cp, vi 2, .val (.long q2), .second, vr a1d, vr a2d, .unset, .unset] [(.int (p6 &&& (3 : Int32)))]
  rcases own_and3 p6 with hk1 | hk1 | hk1 | hk1
  · rw [hk1]
    show gs T0 m 125 #[vi p1, vi p2, vi p3, .val (.long qa), .second, .val (.long qb), .second, vi p6, vi i1, vi i2, vi 2, vi cp, vi 2, .val (.long q2), .second, vr a1d, vr a2d, .unset, .unset] [(.int 0)]
    refine own_st (fun _ kS => XS.istore X0.here hx rfl (hb hby at_125) rfl (l' := #[vi p1, vi p2, vi p3, .val (.long qa), .second, .val (.long qb), .second, vi p6, vi i1, vi i2, vi 2, vi cp, vi 2, .val (.long q2), .second, vr a1d, vr a2d, vi 0, .unset]) rfl kS) ?_
    refine oiload X0 hx hby at_127 rfl ?_
    refine oiconst X0 hx hby at_129 ?_
    refine own_st (fun _ kS => XS.icmpYes X0.here hx rfl (pc0 := 130) (pc' := 148) rfl (hb hby at_130) rfl (feq (by decide : ¬ ((0 : Int32) = (1 : Int32)))).2 (by decide) (by decide) kS) ?_
    show gs T0 m 148 #[vi p1, vi p2, vi p3, .val (.long qa), .second, .val (.long qb), .second, vi p6, vi i1, vi i2, vi 2, vi cp, vi 2, .val (.long q2), .second, vr a1d, vr a2d, vi 0, .unset] []
    refine oiload X0 hx hby at_148 rfl ?_
    refine oiconst X0 hx hby at_150 ?_
    refine own_st (fun _ kS => XS.icmpYes X0.here hx rfl (pc0 := 151) (pc' := 173) rfl (hb hby at_151) rfl (feq (by decide : ¬ ((0 : Int32) = (2 : Int32)))).2 (by decide) (by decide) kS) ?_
    show gs T0 m 173 #[vi p1, vi p2, vi p3, .val (.long qa), .second, .val (.long qb), .second, vi p6, vi i1, vi i2, vi 2, vi cp, vi 2, .val (.long q2), .second, vr a1d, vr a2d, vi 0, .unset] []
    refine oiload X0 hx hby at_173 rfl ?_
    refine oiconst X0 hx hby at_175 ?_
    refine own_st (fun _ kS => XS.icmpYes X0.here hx rfl (pc0 := 176) (pc' := 187) rfl (hb hby at_176) rfl (feq (by decide : ¬ ((0 : Int32) = (3 : Int32)))).2 (by decide) (by decide) kS) ?_
    show gs T0 m 187 #[vi p1, vi p2, vi p3, .val (.long qa), .second, .val (.long qb), .second, vi p6, vi i1, vi i2, vi 2, vi cp, vi 2, .val (.long q2), .second, vr a1d, vr a2d, vi 0, .unset] []
    refine oiload X0 hx hby at_187 rfl ?_
    refine oiload X0 hx hby at_189 rfl ?_
    show gs T0 m 191 #[vi p1, vi p2, vi p3, .val (.long qa), .second, .val (.long qb), .second, vi p6, vi i1, vi i2, vi 2, vi cp, vi 2, .val (.long q2), .second, vr a1d, vr a2d, vi 0, .unset] [(.int i2), (.int i1)]
    by_cases hc191_2 : i1 = i2
    · skip
      refine own_st (fun _ kS => XS.icmpNo X0.here hx rfl (hb hby at_191) rfl (teq hc191_2).2 kS) ?_
      show gs T0 m 194 #[vi p1, vi p2, vi p3, .val (.long qa), .second, .val (.long qb), .second, vi p6, vi i1, vi i2, vi 2, vi cp, vi 2, .val (.long q2), .second, vr a1d, vr a2d, vi 0, .unset] []
      have Fe2' : fk18 Z h0 a2d (.ref v1) := by rw [hveq hc191_2]; exact Fe2
      refine oiload X0 hx hby at_194 rfl ?_
      refine own_st (fun _ kS => XT.lloadN X0.here hx rfl (hb hby at_196) rfl kS) ?_
      refine oiload X0 hx hby at_197 rfl ?_
      refine own_st (fun _ kS => XT.lload X0.here hx rfl (hb hby at_199) rfl kS) ?_
      show gs T0 m 201 #[vi p1, vi p2, vi p3, .val (.long qa), .second, .val (.long qb), .second, vi p6, vi i1, vi i2, vi 2, vi cp, vi 2, .val (.long q2), .second, vr a1d, vr a2d, vi 0, .unset] [(.long q2), (.int 2), (.long qa), (.int 2)]
      by_cases hq0 : (own_ch qa (0 : Int32)) = (own_ch q2 (0 : Int32))
      · skip
        by_cases hq1 : (own_ch qa (1 : Int32)) = (own_ch q2 (1 : Int32))
        · skip
          show gs T0 m 201 #[vi p1, vi p2, vi p3, .val (.long qa), .second, .val (.long qb), .second, vi p6, vi i1, vi i2, vi 2, vi cp, vi 2, .val (.long q2), .second, vr a1d, vr a2d, vi 0, .unset] [(.long q2), (.int 2), (.long qa), (.int 2)]
          refine oS 0 X0 hx hZ hby hml hown (own_w hw 117 rfl) (own_w hw 118 rfl) (own_w hw 6 rfl) (own_w hw 119 rfl) (rm_samT_2_T l Z a0 hw [] qa q2 h0 n0 Z0  hq0 hq1) e0 (by decide) own_pd9 at_201 rfl rfl rfl (fun T3 L3 v3 X3 hQ3 => ?_)
          obtain ⟨rfl, Nq3, eq3⟩ := hQ3
          have N3 := Fr.app N0 Nq3
          show gs T3 m 204 #[vi p1, vi p2, vi p3, .val (.long qa), .second, .val (.long qb), .second, vi p6, vi i1, vi i2, vi 2, vi cp, vi 2, .val (.long q2), .second, vr a1d, vr a2d, vi 0, .unset] [(.int 1)]
          refine own_st (fun _ kS => XS.ifNo X3.here hx rfl (hb hby at_204) rfl ((if0 _ _).trans (feq (by decide : ¬ ((1 : Int32) = (0 : Int32)))).1) kS) ?_
          show gs T3 m 207 #[vi p1, vi p2, vi p3, .val (.long qa), .second, .val (.long qb), .second, vi p6, vi i1, vi i2, vi 2, vi cp, vi 2, .val (.long q2), .second, vr a1d, vr a2d, vi 0, .unset] []
          refine oiconst X3 hx hby at_207 ?_
          refine own_st (fun _ kS => XS.goto X3.here hx rfl (pc0 := 208) (pc' := 212) rfl (hb hby at_208) (by decide) (by decide) kS) ?_
          refine own_st (fun _ kS => XS.istore X3.here hx rfl (hb hby at_212) rfl (l' := #[vi p1, vi p2, vi p3, .val (.long qa), .second, .val (.long qb), .second, vi p6, vi i1, vi i2, vi 2, vi cp, vi 2, .val (.long q2), .second, vr a1d, vr a2d, vi 0, vi 1]) rfl kS) ?_
          refine oaload X3 hx hby at_214 rfl rfl ?_
          refine oaload X3 hx hby at_216 rfl rfl ?_
          refine oV 0 X3 hx hZ hby hml hown (own_w hw 98 rfl) (own_w hw 99 rfl) (own_w hw 101 rfl) (own_w hw 100 rfl) (rm_dcE_2_T l Z a0 hw [] a1d a2d v1 s1 s2 t1 t2 k1a k2a (nar .byte ((own_ch qa (0 : Int32)).toInt8.toInt32)) (nar .byte ((own_ch qa (1 : Int32)).toInt8.toInt32)) (nar .byte ((own_ch q2 (0 : Int32)).toInt8.toInt32)) (nar .byte ((own_ch q2 (1 : Int32)).toInt8.toInt32)) zCS h0 n0 Z0 O0 E_a1 E_a2 Fe1 Ft1 Fe2' Ft2 ne12 E_s1 E_s2 F1v F2v F1c F2c R_1 R_2 (own_beq hq0) (own_beq hq1) S_CS P_CS) (own_w hw 102 rfl) (own_w hw 3 rfl) eq3 E_a1 (by decide) own_pd8 at_218 rfl rfl rfl (fun T4 L4 v4 X4 hQ4 => ?_)
          obtain ⟨rfl, Nq4, eq4⟩ := hQ4
          have N4 := Fr.app N3 Nq4
          show gs T4 m 221 #[vi p1, vi p2, vi p3, .val (.long qa), .second, .val (.long qb), .second, vi p6, vi i1, vi i2, vi 2, vi cp, vi 2, .val (.long q2), .second, vr a1d, vr a2d, vi 0, vi 1] [(.int 1)]
          refine oiload X4 hx hby at_221 rfl ?_
          refine own_st (fun _ kS => XS.icmpNo X4.here hx rfl (hb hby at_223) rfl (teq (by decide : (1 : Int32) = (1 : Int32))).2 kS) ?_
          show gs T4 m 226 #[vi p1, vi p2, vi p3, .val (.long qa), .second, .val (.long qb), .second, vi p6, vi i1, vi i2, vi 2, vi cp, vi 2, .val (.long q2), .second, vr a1d, vr a2d, vi 0, vi 1] []
          refine oaload X4 hx hby at_226 rfl rfl ?_
          refine oaload X4 hx hby at_228 rfl rfl ?_
          refine oV 0 X4 hx hZ hby hml hown (own_w hw 98 rfl) (own_w hw 99 rfl) (own_w hw 101 rfl) (own_w hw 100 rfl) (rm_dcE_2_T l Z a0 hw [] a2d a1d v1 s2 s1 t2 t1 k2a k1a (nar .byte ((own_ch q2 (0 : Int32)).toInt8.toInt32)) (nar .byte ((own_ch q2 (1 : Int32)).toInt8.toInt32)) (nar .byte ((own_ch qa (0 : Int32)).toInt8.toInt32)) (nar .byte ((own_ch qa (1 : Int32)).toInt8.toInt32)) zCS h0 n0 Z0 O0 E_a2 E_a1 Fe2' Ft2 Fe1 Ft1 (Ne.symm ne12) E_s2 E_s1 F2v F1v F2c F1c R_2 R_1 (own_beq hq0.symm) (own_beq hq1.symm) S_CS P_CS) (own_w hw 102 rfl) (own_w hw 3 rfl) eq4 E_a2 (by decide) own_pd8 at_230 rfl rfl rfl (fun T5 L5 v5 X5 hQ5 => ?_)
          obtain ⟨rfl, Nq5, eq5⟩ := hQ5
          have N5 := Fr.app N4 Nq5
          show gs T5 m 233 #[vi p1, vi p2, vi p3, .val (.long qa), .second, .val (.long qb), .second, vi p6, vi i1, vi i2, vi 2, vi cp, vi 2, .val (.long q2), .second, vr a1d, vr a2d, vi 0, vi 1] [(.int 1)]
          refine oiload X5 hx hby at_233 rfl ?_
          refine own_st (fun _ kS => XS.icmpNo X5.here hx rfl (hb hby at_235) rfl (teq (by decide : (1 : Int32) = (1 : Int32))).2 kS) ?_
          show gs T5 m 238 #[vi p1, vi p2, vi p3, .val (.long qa), .second, .val (.long qb), .second, vi p6, vi i1, vi i2, vi 2, vi cp, vi 2, .val (.long q2), .second, vr a1d, vr a2d, vi 0, vi 1] []
          refine oiconst X5 hx hby at_238 ?_
          refine own_st (fun _ kS => XS.goto X5.here hx rfl (pc0 := 239) (pc' := 243) rfl (hb hby at_239) (by decide) (by decide) kS) ?_
          show gs T5 m 243 #[vi p1, vi p2, vi p3, .val (.long qa), .second, .val (.long qb), .second, vi p6, vi i1, vi i2, vi 2, vi cp, vi 2, .val (.long q2), .second, vr a1d, vr a2d, vi 0, vi 1] [(.int 1)]
          exact own_retNW hS (own_le eq5 hk0) X5 hx hlk (t := .boolean) hret (by simp) (hb hby at_243) (by decide) (by decide) (v' := (1 : Int32)) rfl (by rw [eq5]; exact ⟨rfl, N5⟩)
        · skip
          show gs T0 m 201 #[vi p1, vi p2, vi p3, .val (.long qa), .second, .val (.long qb), .second, vi p6, vi i1, vi i2, vi 2, vi cp, vi 2, .val (.long q2), .second, vr a1d, vr a2d, vi 0, .unset] [(.long q2), (.int 2), (.long qa), (.int 2)]
          refine oS 0 X0 hx hZ hby hml hown (own_w hw 117 rfl) (own_w hw 118 rfl) (own_w hw 6 rfl) (own_w hw 119 rfl) (rm_samT_2_1 l Z a0 hw [] qa q2 h0 n0 Z0  hq0 hq1) e0 (by decide) own_pd9 at_201 rfl rfl rfl (fun T6 L6 v6 X6 hQ6 => ?_)
          obtain ⟨rfl, Nq6, eq6⟩ := hQ6
          have N6 := Fr.app N0 Nq6
          show gs T6 m 204 #[vi p1, vi p2, vi p3, .val (.long qa), .second, .val (.long qb), .second, vi p6, vi i1, vi i2, vi 2, vi cp, vi 2, .val (.long q2), .second, vr a1d, vr a2d, vi 0, .unset] [(.int 0)]
          refine own_st (fun _ kS => XS.ifYes X6.here hx rfl (pc0 := 204) (pc' := 211) rfl (hb hby at_204) rfl ((if0 _ _).trans (teq (by decide : (0 : Int32) = (0 : Int32))).1) (by decide) (by decide) kS) ?_
          show gs T6 m 211 #[vi p1, vi p2, vi p3, .val (.long qa), .second, .val (.long qb), .second, vi p6, vi i1, vi i2, vi 2, vi cp, vi 2, .val (.long q2), .second, vr a1d, vr a2d, vi 0, .unset] []
          refine oiconst X6 hx hby at_211 ?_
          refine own_st (fun _ kS => XS.istore X6.here hx rfl (hb hby at_212) rfl (l' := #[vi p1, vi p2, vi p3, .val (.long qa), .second, .val (.long qb), .second, vi p6, vi i1, vi i2, vi 2, vi cp, vi 2, .val (.long q2), .second, vr a1d, vr a2d, vi 0, vi 0]) rfl kS) ?_
          refine oaload X6 hx hby at_214 rfl rfl ?_
          refine oaload X6 hx hby at_216 rfl rfl ?_
          refine oV 0 X6 hx hZ hby hml hown (own_w hw 98 rfl) (own_w hw 99 rfl) (own_w hw 101 rfl) (own_w hw 100 rfl) (rm_dcE_2_1 l Z a0 hw [] a1d a2d v1 s1 s2 t1 t2 k1a k2a (nar .byte ((own_ch qa (0 : Int32)).toInt8.toInt32)) (nar .byte ((own_ch qa (1 : Int32)).toInt8.toInt32)) (nar .byte ((own_ch q2 (0 : Int32)).toInt8.toInt32)) (nar .byte ((own_ch q2 (1 : Int32)).toInt8.toInt32)) zCS h0 n0 Z0 O0 E_a1 E_a2 Fe1 Ft1 Fe2' Ft2 ne12 E_s1 E_s2 F1v F2v F1c F2c R_1 R_2 (own_beq hq0) (own_bne hq1) S_CS P_CS) (own_w hw 102 rfl) (own_w hw 3 rfl) eq6 E_a1 (by decide) own_pd8 at_218 rfl rfl rfl (fun T7 L7 v7 X7 hQ7 => ?_)
          obtain ⟨rfl, Nq7, eq7⟩ := hQ7
          have N7 := Fr.app N6 Nq7
          show gs T7 m 221 #[vi p1, vi p2, vi p3, .val (.long qa), .second, .val (.long qb), .second, vi p6, vi i1, vi i2, vi 2, vi cp, vi 2, .val (.long q2), .second, vr a1d, vr a2d, vi 0, vi 0] [(.int 0)]
          refine oiload X7 hx hby at_221 rfl ?_
          refine own_st (fun _ kS => XS.icmpNo X7.here hx rfl (hb hby at_223) rfl (teq (by decide : (0 : Int32) = (0 : Int32))).2 kS) ?_
          show gs T7 m 226 #[vi p1, vi p2, vi p3, .val (.long qa), .second, .val (.long qb), .second, vi p6, vi i1, vi i2, vi 2, vi cp, vi 2, .val (.long q2), .second, vr a1d, vr a2d, vi 0, vi 0] []
          refine oaload X7 hx hby at_226 rfl rfl ?_
          refine oaload X7 hx hby at_228 rfl rfl ?_
          refine oV 0 X7 hx hZ hby hml hown (own_w hw 98 rfl) (own_w hw 99 rfl) (own_w hw 101 rfl) (own_w hw 100 rfl) (rm_dcE_2_1 l Z a0 hw [] a2d a1d v1 s2 s1 t2 t1 k2a k1a (nar .byte ((own_ch q2 (0 : Int32)).toInt8.toInt32)) (nar .byte ((own_ch q2 (1 : Int32)).toInt8.toInt32)) (nar .byte ((own_ch qa (0 : Int32)).toInt8.toInt32)) (nar .byte ((own_ch qa (1 : Int32)).toInt8.toInt32)) zCS h0 n0 Z0 O0 E_a2 E_a1 Fe2' Ft2 Fe1 Ft1 (Ne.symm ne12) E_s2 E_s1 F2v F1v F2c F1c R_2 R_1 (own_beq hq0.symm) (own_bne (fun e => hq1 e.symm)) S_CS P_CS) (own_w hw 102 rfl) (own_w hw 3 rfl) eq7 E_a2 (by decide) own_pd8 at_230 rfl rfl rfl (fun T8 L8 v8 X8 hQ8 => ?_)
          obtain ⟨rfl, Nq8, eq8⟩ := hQ8
          have N8 := Fr.app N7 Nq8
          show gs T8 m 233 #[vi p1, vi p2, vi p3, .val (.long qa), .second, .val (.long qb), .second, vi p6, vi i1, vi i2, vi 2, vi cp, vi 2, .val (.long q2), .second, vr a1d, vr a2d, vi 0, vi 0] [(.int 0)]
          refine oiload X8 hx hby at_233 rfl ?_
          refine own_st (fun _ kS => XS.icmpNo X8.here hx rfl (hb hby at_235) rfl (teq (by decide : (0 : Int32) = (0 : Int32))).2 kS) ?_
          show gs T8 m 238 #[vi p1, vi p2, vi p3, .val (.long qa), .second, .val (.long qb), .second, vi p6, vi i1, vi i2, vi 2, vi cp, vi 2, .val (.long q2), .second, vr a1d, vr a2d, vi 0, vi 0] []
          refine oiconst X8 hx hby at_238 ?_
          refine own_st (fun _ kS => XS.goto X8.here hx rfl (pc0 := 239) (pc' := 243) rfl (hb hby at_239) (by decide) (by decide) kS) ?_
          show gs T8 m 243 #[vi p1, vi p2, vi p3, .val (.long qa), .second, .val (.long qb), .second, vi p6, vi i1, vi i2, vi 2, vi cp, vi 2, .val (.long q2), .second, vr a1d, vr a2d, vi 0, vi 0] [(.int 1)]
          exact own_retNW hS (own_le eq8 hk0) X8 hx hlk (t := .boolean) hret (by simp) (hb hby at_243) (by decide) (by decide) (v' := (1 : Int32)) rfl (by rw [eq8]; exact ⟨rfl, N8⟩)
      · skip
        show gs T0 m 201 #[vi p1, vi p2, vi p3, .val (.long qa), .second, .val (.long qb), .second, vi p6, vi i1, vi i2, vi 2, vi cp, vi 2, .val (.long q2), .second, vr a1d, vr a2d, vi 0, .unset] [(.long q2), (.int 2), (.long qa), (.int 2)]
        refine oS 0 X0 hx hZ hby hml hown (own_w hw 117 rfl) (own_w hw 118 rfl) (own_w hw 6 rfl) (own_w hw 119 rfl) (rm_samT_2_0 l Z a0 hw [] qa q2 h0 n0 Z0  hq0) e0 (by decide) own_pd9 at_201 rfl rfl rfl (fun T9 L9 v9 X9 hQ9 => ?_)
        obtain ⟨rfl, Nq9, eq9⟩ := hQ9
        have N9 := Fr.app N0 Nq9
        show gs T9 m 204 #[vi p1, vi p2, vi p3, .val (.long qa), .second, .val (.long qb), .second, vi p6, vi i1, vi i2, vi 2, vi cp, vi 2, .val (.long q2), .second, vr a1d, vr a2d, vi 0, .unset] [(.int 0)]
        refine own_st (fun _ kS => XS.ifYes X9.here hx rfl (pc0 := 204) (pc' := 211) rfl (hb hby at_204) rfl ((if0 _ _).trans (teq (by decide : (0 : Int32) = (0 : Int32))).1) (by decide) (by decide) kS) ?_
        show gs T9 m 211 #[vi p1, vi p2, vi p3, .val (.long qa), .second, .val (.long qb), .second, vi p6, vi i1, vi i2, vi 2, vi cp, vi 2, .val (.long q2), .second, vr a1d, vr a2d, vi 0, .unset] []
        refine oiconst X9 hx hby at_211 ?_
        refine own_st (fun _ kS => XS.istore X9.here hx rfl (hb hby at_212) rfl (l' := #[vi p1, vi p2, vi p3, .val (.long qa), .second, .val (.long qb), .second, vi p6, vi i1, vi i2, vi 2, vi cp, vi 2, .val (.long q2), .second, vr a1d, vr a2d, vi 0, vi 0]) rfl kS) ?_
        refine oaload X9 hx hby at_214 rfl rfl ?_
        refine oaload X9 hx hby at_216 rfl rfl ?_
        refine oV 0 X9 hx hZ hby hml hown (own_w hw 98 rfl) (own_w hw 99 rfl) (own_w hw 101 rfl) (own_w hw 100 rfl) (rm_dcE_2_0 l Z a0 hw [] a1d a2d v1 s1 s2 t1 t2 k1a k2a (nar .byte ((own_ch qa (0 : Int32)).toInt8.toInt32)) (nar .byte ((own_ch qa (1 : Int32)).toInt8.toInt32)) (nar .byte ((own_ch q2 (0 : Int32)).toInt8.toInt32)) (nar .byte ((own_ch q2 (1 : Int32)).toInt8.toInt32)) zCS h0 n0 Z0 O0 E_a1 E_a2 Fe1 Ft1 Fe2' Ft2 ne12 E_s1 E_s2 F1v F2v F1c F2c R_1 R_2 (own_bne hq0) S_CS P_CS) (own_w hw 102 rfl) (own_w hw 3 rfl) eq9 E_a1 (by decide) own_pd8 at_218 rfl rfl rfl (fun T10 L10 v10 X10 hQ10 => ?_)
        obtain ⟨rfl, Nq10, eq10⟩ := hQ10
        have N10 := Fr.app N9 Nq10
        show gs T10 m 221 #[vi p1, vi p2, vi p3, .val (.long qa), .second, .val (.long qb), .second, vi p6, vi i1, vi i2, vi 2, vi cp, vi 2, .val (.long q2), .second, vr a1d, vr a2d, vi 0, vi 0] [(.int 0)]
        refine oiload X10 hx hby at_221 rfl ?_
        refine own_st (fun _ kS => XS.icmpNo X10.here hx rfl (hb hby at_223) rfl (teq (by decide : (0 : Int32) = (0 : Int32))).2 kS) ?_
        show gs T10 m 226 #[vi p1, vi p2, vi p3, .val (.long qa), .second, .val (.long qb), .second, vi p6, vi i1, vi i2, vi 2, vi cp, vi 2, .val (.long q2), .second, vr a1d, vr a2d, vi 0, vi 0] []
        refine oaload X10 hx hby at_226 rfl rfl ?_
        refine oaload X10 hx hby at_228 rfl rfl ?_
        refine oV 0 X10 hx hZ hby hml hown (own_w hw 98 rfl) (own_w hw 99 rfl) (own_w hw 101 rfl) (own_w hw 100 rfl) (rm_dcE_2_0 l Z a0 hw [] a2d a1d v1 s2 s1 t2 t1 k2a k1a (nar .byte ((own_ch q2 (0 : Int32)).toInt8.toInt32)) (nar .byte ((own_ch q2 (1 : Int32)).toInt8.toInt32)) (nar .byte ((own_ch qa (0 : Int32)).toInt8.toInt32)) (nar .byte ((own_ch qa (1 : Int32)).toInt8.toInt32)) zCS h0 n0 Z0 O0 E_a2 E_a1 Fe2' Ft2 Fe1 Ft1 (Ne.symm ne12) E_s2 E_s1 F2v F1v F2c F1c R_2 R_1 (own_bne (fun e => hq0 e.symm)) S_CS P_CS) (own_w hw 102 rfl) (own_w hw 3 rfl) eq10 E_a2 (by decide) own_pd8 at_230 rfl rfl rfl (fun T11 L11 v11 X11 hQ11 => ?_)
        obtain ⟨rfl, Nq11, eq11⟩ := hQ11
        have N11 := Fr.app N10 Nq11
        show gs T11 m 233 #[vi p1, vi p2, vi p3, .val (.long qa), .second, .val (.long qb), .second, vi p6, vi i1, vi i2, vi 2, vi cp, vi 2, .val (.long q2), .second, vr a1d, vr a2d, vi 0, vi 0] [(.int 0)]
        refine oiload X11 hx hby at_233 rfl ?_
        refine own_st (fun _ kS => XS.icmpNo X11.here hx rfl (hb hby at_235) rfl (teq (by decide : (0 : Int32) = (0 : Int32))).2 kS) ?_
        show gs T11 m 238 #[vi p1, vi p2, vi p3, .val (.long qa), .second, .val (.long qb), .second, vi p6, vi i1, vi i2, vi 2, vi cp, vi 2, .val (.long q2), .second, vr a1d, vr a2d, vi 0, vi 0] []
        refine oiconst X11 hx hby at_238 ?_
        refine own_st (fun _ kS => XS.goto X11.here hx rfl (pc0 := 239) (pc' := 243) rfl (hb hby at_239) (by decide) (by decide) kS) ?_
        show gs T11 m 243 #[vi p1, vi p2, vi p3, .val (.long qa), .second, .val (.long qb), .second, vi p6, vi i1, vi i2, vi 2, vi cp, vi 2, .val (.long q2), .second, vr a1d, vr a2d, vi 0, vi 0] [(.int 1)]
        exact own_retNW hS (own_le eq11 hk0) X11 hx hlk (t := .boolean) hret (by simp) (hb hby at_243) (by decide) (by decide) (v' := (1 : Int32)) rfl (by rw [eq11]; exact ⟨rfl, N11⟩)
    · skip
      refine own_st (fun _ kS => XS.icmpYes X0.here hx rfl (pc0 := 191) (pc' := 211) rfl (hb hby at_191) rfl (feq hc191_2).2 (by decide) (by decide) kS) ?_
      show gs T0 m 211 #[vi p1, vi p2, vi p3, .val (.long qa), .second, .val (.long qb), .second, vi p6, vi i1, vi i2, vi 2, vi cp, vi 2, .val (.long q2), .second, vr a1d, vr a2d, vi 0, .unset] []
      refine oiconst X0 hx hby at_211 ?_
      refine own_st (fun _ kS => XS.istore X0.here hx rfl (hb hby at_212) rfl (l' := #[vi p1, vi p2, vi p3, .val (.long qa), .second, .val (.long qb), .second, vi p6, vi i1, vi i2, vi 2, vi cp, vi 2, .val (.long q2), .second, vr a1d, vr a2d, vi 0, vi 0]) rfl kS) ?_
      refine oaload X0 hx hby at_214 rfl rfl ?_
      refine oaload X0 hx hby at_216 rfl rfl ?_
      refine oV 0 X0 hx hZ hby hml hown (own_w hw 98 rfl) (own_w hw 99 rfl) (own_w hw 101 rfl) (own_w hw 100 rfl) (rm_dcEl l Z a0 hw [] a1d a2d v1 v2 h0 n0 Z0  E_a1 E_a2 Fe1 Fe2 (hvne hc191_2)) (own_w hw 102 rfl) (own_w hw 3 rfl) e0 E_a1 (by decide) own_pd8 at_218 rfl rfl rfl (fun T12 L12 v12 X12 hQ12 => ?_)
      obtain ⟨rfl, Nq12, eq12⟩ := hQ12
      have N12 := Fr.app N0 Nq12
      show gs T12 m 221 #[vi p1, vi p2, vi p3, .val (.long qa), .second, .val (.long qb), .second, vi p6, vi i1, vi i2, vi 2, vi cp, vi 2, .val (.long q2), .second, vr a1d, vr a2d, vi 0, vi 0] [(.int 0)]
      refine oiload X12 hx hby at_221 rfl ?_
      refine own_st (fun _ kS => XS.icmpNo X12.here hx rfl (hb hby at_223) rfl (teq (by decide : (0 : Int32) = (0 : Int32))).2 kS) ?_
      show gs T12 m 226 #[vi p1, vi p2, vi p3, .val (.long qa), .second, .val (.long qb), .second, vi p6, vi i1, vi i2, vi 2, vi cp, vi 2, .val (.long q2), .second, vr a1d, vr a2d, vi 0, vi 0] []
      refine oaload X12 hx hby at_226 rfl rfl ?_
      refine oaload X12 hx hby at_228 rfl rfl ?_
      refine oV 0 X12 hx hZ hby hml hown (own_w hw 98 rfl) (own_w hw 99 rfl) (own_w hw 101 rfl) (own_w hw 100 rfl) (rm_dcEl l Z a0 hw [] a2d a1d v2 v1 h0 n0 Z0  E_a2 E_a1 Fe2 Fe1 (Ne.symm (hvne hc191_2))) (own_w hw 102 rfl) (own_w hw 3 rfl) eq12 E_a2 (by decide) own_pd8 at_230 rfl rfl rfl (fun T13 L13 v13 X13 hQ13 => ?_)
      obtain ⟨rfl, Nq13, eq13⟩ := hQ13
      have N13 := Fr.app N12 Nq13
      show gs T13 m 233 #[vi p1, vi p2, vi p3, .val (.long qa), .second, .val (.long qb), .second, vi p6, vi i1, vi i2, vi 2, vi cp, vi 2, .val (.long q2), .second, vr a1d, vr a2d, vi 0, vi 0] [(.int 0)]
      refine oiload X13 hx hby at_233 rfl ?_
      refine own_st (fun _ kS => XS.icmpNo X13.here hx rfl (hb hby at_235) rfl (teq (by decide : (0 : Int32) = (0 : Int32))).2 kS) ?_
      show gs T13 m 238 #[vi p1, vi p2, vi p3, .val (.long qa), .second, .val (.long qb), .second, vi p6, vi i1, vi i2, vi 2, vi cp, vi 2, .val (.long q2), .second, vr a1d, vr a2d, vi 0, vi 0] []
      refine oiconst X13 hx hby at_238 ?_
      refine own_st (fun _ kS => XS.goto X13.here hx rfl (pc0 := 239) (pc' := 243) rfl (hb hby at_239) (by decide) (by decide) kS) ?_
      show gs T13 m 243 #[vi p1, vi p2, vi p3, .val (.long qa), .second, .val (.long qb), .second, vi p6, vi i1, vi i2, vi 2, vi cp, vi 2, .val (.long q2), .second, vr a1d, vr a2d, vi 0, vi 0] [(.int 1)]
      exact own_retNW hS (own_le eq13 hk0) X13 hx hlk (t := .boolean) hret (by simp) (hb hby at_243) (by decide) (by decide) (v' := (1 : Int32)) rfl (by rw [eq13]; exact ⟨rfl, N13⟩)
  · rw [hk1]
    show gs T0 m 125 #[vi p1, vi p2, vi p3, .val (.long qa), .second, .val (.long qb), .second, vi p6, vi i1, vi i2, vi 2, vi cp, vi 2, .val (.long q2), .second, vr a1d, vr a2d, .unset, .unset] [(.int 1)]
    refine own_st (fun _ kS => XS.istore X0.here hx rfl (hb hby at_125) rfl (l' := #[vi p1, vi p2, vi p3, .val (.long qa), .second, .val (.long qb), .second, vi p6, vi i1, vi i2, vi 2, vi cp, vi 2, .val (.long q2), .second, vr a1d, vr a2d, vi 1, .unset]) rfl kS) ?_
    refine oiload X0 hx hby at_127 rfl ?_
    refine oiconst X0 hx hby at_129 ?_
    refine own_st (fun _ kS => XS.icmpNo X0.here hx rfl (hb hby at_130) rfl (teq (by decide : (1 : Int32) = (1 : Int32))).2 kS) ?_
    show gs T0 m 133 #[vi p1, vi p2, vi p3, .val (.long qa), .second, .val (.long qb), .second, vi p6, vi i1, vi i2, vi 2, vi cp, vi 2, .val (.long q2), .second, vr a1d, vr a2d, vi 1, .unset] []
    refine oaload X0 hx hby at_133 rfl rfl ?_
    refine own_st (fun _ kS => XS.aconstNull X0.here hx rfl (hb hby at_135) kS) ?_
    show gs T0 m 136 #[vi p1, vi p2, vi p3, .val (.long qa), .second, .val (.long qb), .second, vi p6, vi i1, vi i2, vi 2, vi cp, vi 2, .val (.long q2), .second, vr a1d, vr a2d, vi 1, .unset] [.null, (.ref a1d)]
    refine oV 0 X0 hx hZ hby hml hown (own_w hw 98 rfl) (own_w hw 99 rfl) (own_w hw 101 rfl) (own_w hw 100 rfl) (rm_dcNu l Z a0 hw [] a1d h0 n0 Z0  ) (own_w hw 102 rfl) (own_w hw 3 rfl) e0 E_a1 (by decide) own_pd8 at_136 rfl rfl rfl (fun T14 L14 v14 X14 hQ14 => ?_)
    obtain ⟨rfl, Nq14, eq14⟩ := hQ14
    have N14 := Fr.app N0 Nq14
    show gs T14 m 139 #[vi p1, vi p2, vi p3, .val (.long qa), .second, .val (.long qb), .second, vi p6, vi i1, vi i2, vi 2, vi cp, vi 2, .val (.long q2), .second, vr a1d, vr a2d, vi 1, .unset] [(.int 0)]
    refine own_st (fun _ kS => XS.ifNo X14.here hx rfl (hb hby at_139) rfl ((if0 _ _).trans (teq (by decide : (0 : Int32) = (0 : Int32))).2) kS) ?_
    show gs T14 m 142 #[vi p1, vi p2, vi p3, .val (.long qa), .second, .val (.long qb), .second, vi p6, vi i1, vi i2, vi 2, vi cp, vi 2, .val (.long q2), .second, vr a1d, vr a2d, vi 1, .unset] []
    refine oiconst X14 hx hby at_142 ?_
    refine own_st (fun _ kS => XS.goto X14.here hx rfl (pc0 := 143) (pc' := 147) rfl (hb hby at_143) (by decide) (by decide) kS) ?_
    show gs T14 m 147 #[vi p1, vi p2, vi p3, .val (.long qa), .second, .val (.long qb), .second, vi p6, vi i1, vi i2, vi 2, vi cp, vi 2, .val (.long q2), .second, vr a1d, vr a2d, vi 1, .unset] [(.int 1)]
    exact own_retNW hS (own_le eq14 hk0) X14 hx hlk (t := .boolean) hret (by simp) (hb hby at_147) (by decide) (by decide) (v' := (1 : Int32)) rfl (by rw [eq14]; exact ⟨rfl, N14⟩)
  · rw [hk1]
    show gs T0 m 125 #[vi p1, vi p2, vi p3, .val (.long qa), .second, .val (.long qb), .second, vi p6, vi i1, vi i2, vi 2, vi cp, vi 2, .val (.long q2), .second, vr a1d, vr a2d, .unset, .unset] [(.int 2)]
    refine own_st (fun _ kS => XS.istore X0.here hx rfl (hb hby at_125) rfl (l' := #[vi p1, vi p2, vi p3, .val (.long qa), .second, .val (.long qb), .second, vi p6, vi i1, vi i2, vi 2, vi cp, vi 2, .val (.long q2), .second, vr a1d, vr a2d, vi 2, .unset]) rfl kS) ?_
    refine oiload X0 hx hby at_127 rfl ?_
    refine oiconst X0 hx hby at_129 ?_
    refine own_st (fun _ kS => XS.icmpYes X0.here hx rfl (pc0 := 130) (pc' := 148) rfl (hb hby at_130) rfl (feq (by decide : ¬ ((2 : Int32) = (1 : Int32)))).2 (by decide) (by decide) kS) ?_
    show gs T0 m 148 #[vi p1, vi p2, vi p3, .val (.long qa), .second, .val (.long qb), .second, vi p6, vi i1, vi i2, vi 2, vi cp, vi 2, .val (.long q2), .second, vr a1d, vr a2d, vi 2, .unset] []
    refine oiload X0 hx hby at_148 rfl ?_
    refine oiconst X0 hx hby at_150 ?_
    refine own_st (fun _ kS => XS.icmpNo X0.here hx rfl (hb hby at_151) rfl (teq (by decide : (2 : Int32) = (2 : Int32))).2 kS) ?_
    show gs T0 m 154 #[vi p1, vi p2, vi p3, .val (.long qa), .second, .val (.long qb), .second, vi p6, vi i1, vi i2, vi 2, vi cp, vi 2, .val (.long q2), .second, vr a1d, vr a2d, vi 2, .unset] []
    refine oaload X0 hx hby at_154 rfl rfl ?_
    refine oaload X0 hx hby at_156 rfl rfl ?_
    refine oV 1 X0 hx hZ hby hml hown (own_w hw 110 rfl) (own_w hw 111 rfl) (own_w hw 113 rfl) (own_w hw 112 rfl) (rm_dcText l Z a0 hw [] a1d s1 h0 n0 Z0  Ft1) (own_w hw 114 rfl) (own_w hw 3 rfl) e0 E_a1 (by decide) own_pd10 at_158 rfl rfl rfl (fun T15 L15 v15 X15 hQ15 => ?_)
    obtain ⟨rfl, Nq15, eq15⟩ := hQ15
    have N15 := Fr.app N0 Nq15
    show gs T15 m 161 #[vi p1, vi p2, vi p3, .val (.long qa), .second, .val (.long qb), .second, vi p6, vi i1, vi i2, vi 2, vi cp, vi 2, .val (.long q2), .second, vr a1d, vr a2d, vi 2, .unset] [(.ref s1), (.ref a1d)]
    refine oV 0 X15 hx hZ hby hml hown (own_w hw 98 rfl) (own_w hw 99 rfl) (own_w hw 101 rfl) (own_w hw 100 rfl) (rm_dcTx l Z a0 hw [] a1d s1 h0 n0 Z0  E_s1) (own_w hw 102 rfl) (own_w hw 3 rfl) eq15 E_a1 (by decide) own_pd8 at_161 rfl rfl rfl (fun T16 L16 v16 X16 hQ16 => ?_)
    obtain ⟨rfl, Nq16, eq16⟩ := hQ16
    have N16 := Fr.app N15 Nq16
    show gs T16 m 164 #[vi p1, vi p2, vi p3, .val (.long qa), .second, .val (.long qb), .second, vi p6, vi i1, vi i2, vi 2, vi cp, vi 2, .val (.long q2), .second, vr a1d, vr a2d, vi 2, .unset] [(.int 0)]
    refine own_st (fun _ kS => XS.ifNo X16.here hx rfl (hb hby at_164) rfl ((if0 _ _).trans (teq (by decide : (0 : Int32) = (0 : Int32))).2) kS) ?_
    show gs T16 m 167 #[vi p1, vi p2, vi p3, .val (.long qa), .second, .val (.long qb), .second, vi p6, vi i1, vi i2, vi 2, vi cp, vi 2, .val (.long q2), .second, vr a1d, vr a2d, vi 2, .unset] []
    refine oiconst X16 hx hby at_167 ?_
    refine own_st (fun _ kS => XS.goto X16.here hx rfl (pc0 := 168) (pc' := 172) rfl (hb hby at_168) (by decide) (by decide) kS) ?_
    show gs T16 m 172 #[vi p1, vi p2, vi p3, .val (.long qa), .second, .val (.long qb), .second, vi p6, vi i1, vi i2, vi 2, vi cp, vi 2, .val (.long q2), .second, vr a1d, vr a2d, vi 2, .unset] [(.int 1)]
    exact own_retNW hS (own_le eq16 hk0) X16 hx hlk (t := .boolean) hret (by simp) (hb hby at_172) (by decide) (by decide) (v' := (1 : Int32)) rfl (by rw [eq16]; exact ⟨rfl, N16⟩)
  · rw [hk1]
    show gs T0 m 125 #[vi p1, vi p2, vi p3, .val (.long qa), .second, .val (.long qb), .second, vi p6, vi i1, vi i2, vi 2, vi cp, vi 2, .val (.long q2), .second, vr a1d, vr a2d, .unset, .unset] [(.int 3)]
    refine own_st (fun _ kS => XS.istore X0.here hx rfl (hb hby at_125) rfl (l' := #[vi p1, vi p2, vi p3, .val (.long qa), .second, .val (.long qb), .second, vi p6, vi i1, vi i2, vi 2, vi cp, vi 2, .val (.long q2), .second, vr a1d, vr a2d, vi 3, .unset]) rfl kS) ?_
    refine oiload X0 hx hby at_127 rfl ?_
    refine oiconst X0 hx hby at_129 ?_
    refine own_st (fun _ kS => XS.icmpYes X0.here hx rfl (pc0 := 130) (pc' := 148) rfl (hb hby at_130) rfl (feq (by decide : ¬ ((3 : Int32) = (1 : Int32)))).2 (by decide) (by decide) kS) ?_
    show gs T0 m 148 #[vi p1, vi p2, vi p3, .val (.long qa), .second, .val (.long qb), .second, vi p6, vi i1, vi i2, vi 2, vi cp, vi 2, .val (.long q2), .second, vr a1d, vr a2d, vi 3, .unset] []
    refine oiload X0 hx hby at_148 rfl ?_
    refine oiconst X0 hx hby at_150 ?_
    refine own_st (fun _ kS => XS.icmpYes X0.here hx rfl (pc0 := 151) (pc' := 173) rfl (hb hby at_151) rfl (feq (by decide : ¬ ((3 : Int32) = (2 : Int32)))).2 (by decide) (by decide) kS) ?_
    show gs T0 m 173 #[vi p1, vi p2, vi p3, .val (.long qa), .second, .val (.long qb), .second, vi p6, vi i1, vi i2, vi 2, vi cp, vi 2, .val (.long q2), .second, vr a1d, vr a2d, vi 3, .unset] []
    refine oiload X0 hx hby at_173 rfl ?_
    refine oiconst X0 hx hby at_175 ?_
    refine own_st (fun _ kS => XS.icmpNo X0.here hx rfl (hb hby at_176) rfl (teq (by decide : (3 : Int32) = (3 : Int32))).2 kS) ?_
    show gs T0 m 179 #[vi p1, vi p2, vi p3, .val (.long qa), .second, .val (.long qb), .second, vi p6, vi i1, vi i2, vi 2, vi cp, vi 2, .val (.long q2), .second, vr a1d, vr a2d, vi 3, .unset] []
    refine oaload X0 hx hby at_179 rfl rfl ?_
    refine oaload X0 hx hby at_181 rfl rfl ?_
    refine oV 0 X0 hx hZ hby hml hown (own_w hw 98 rfl) (own_w hw 99 rfl) (own_w hw 101 rfl) (own_w hw 100 rfl) (rm_dcS l Z a0 hw [] a1d v1 s1 h0 n0 Z0  E_a1 E_s1 Fe1 Ft1) (own_w hw 102 rfl) (own_w hw 3 rfl) e0 E_a1 (by decide) own_pd8 at_183 rfl rfl rfl (fun T17 L17 v17 X17 hQ17 => ?_)
    obtain ⟨rfl, Nq17, eq17⟩ := hQ17
    have N17 := Fr.app N0 Nq17
    show gs T17 m 186 #[vi p1, vi p2, vi p3, .val (.long qa), .second, .val (.long qb), .second, vi p6, vi i1, vi i2, vi 2, vi cp, vi 2, .val (.long q2), .second, vr a1d, vr a2d, vi 3, .unset] [(.int 1)]
    exact own_retNW hS (own_le eq17 hk0) X17 hx hlk (t := .boolean) hret (by simp) (hb hby at_186) (by decide) (by decide) (v' := (1 : Int32)) rfl (by rw [eq17]; exact ⟨rfl, N17⟩)
theorem sg_E3 {p : Program} {l : Launch} {e : Env} {s : State} {m : MethodId} {args : Array Value} {below : List Frame} {meth : Method} {c : Code} {T0 : State} {locs : List Loc} {Z : State} {a0 : Array Value} {h0 : Heap} {n0 : Nat} {vm0 : Vm} {kv0 : Nat} (hx : p.tables.exec = Jvm.exec) (hby : c.code = code) (hml : c.maxLocals = 19) (hown : (s.setVm vm0).vm.findClass "com/example/cartouche/cartouche/crosswalks/DcValueEqualsPinLaw" = some m.cls) (hlk : meth.locks = false) (hret : meth.sig.returnType = some .boolean) (hZ : Z.Warmed39 (s.setVm vm0).vm) (hw : HW a0 Z) (Z0 : n0 ≤ h0.size) (hS : s.Since vm0 kv0) (hk0 : kv0 ≤ h0.size)
    (X0 : Stand p l e room_1 (s.setVm vm0) m args below meth c T0 locs 30 200) (e0 : T0.heap = h0) (N0 : Fr n0 locs) (O0 : Old Z n0 h0) (p1 : Int32) (p2 : Int32) (p3 : Int32) (qa : Int64) (qb : Int64) (p6 : Int32) (i1 : Int32) (i2 : Int32) (cp : Int32) (q2 : Int64) (v1 : Addr) (v2 : Addr) (a1d : Addr) (a2d : Addr) (s1 : Addr) (s2 : Addr) (t1 : Addr) (t2 : Addr) (k1a : ClassId) (k2a : ClassId) (zCS : Int32) (E_a1 : ek22 Z h0 a1d) (Fe1 : fk18 Z h0 a1d (.ref v1)) (Ft1 : fk19 Z h0 a1d (.ref s1)) (E_s1 : ek21 Z h0 s1) (F1v : fk17 Z h0 s1 (.ref t1)) (F1c : fk16 Z h0 s1 (.int 0)) (E_a2 : ek22 Z h0 a2d) (Fe2 : fk18 Z h0 a2d (.ref v2)) (Ft2 : fk19 Z h0 a2d (.ref s2)) (E_s2 : ek21 Z h0 s2) (F2v : fk17 Z h0 s2 (.ref t2)) (F2c : fk16 Z h0 s2 (.int 0)) (ne12 : s1 ≠ s2) (R_1 : Arv Z h0 t1 k1a .byte (3 : Int32) [(.int (nar .byte ((own_ch qa (0 : Int32)).toInt8.toInt32))), (.int (nar .byte ((own_ch qa (1 : Int32)).toInt8.toInt32))), (.int (nar .byte ((own_ch qa (2 : Int32)).toInt8.toInt32)))] (.int 0)) (R_2 : Arv Z h0 t2 k2a .byte (3 : Int32) [(.int (nar .byte ((own_ch q2 (0 : Int32)).toInt8.toInt32))), (.int (nar .byte ((own_ch q2 (1 : Int32)).toInt8.toInt32))), (.int (nar .byte ((own_ch q2 (2 : Int32)).toInt8.toInt32)))] (.int 0)) (hveq : i1 = i2 → v1 = v2) (hvne : ¬ (i1 = i2) → v1 ≠ v2) (S_CS : sk0 Z Z.heap (.int zCS)) (P_CS : ¬ zCS = 0) :
    own_G p.tables e below (own_EW s (Q_law n0) room_1.cells room_1.slots) (T0.setTop (mkF m 121 #[vi p1, vi p2, vi p3, .val (.long qa), .second, .val (.long qb), .second, vi p6, vi i1, vi i2, vi 3, vi cp, vi 3, .val (.long q2), .second, vr a1d, vr a2d, .unset, .unset] [])) := by
  show gs T0 m 121 #[vi p1, vi p2, vi p3, .val (.long qa), .second, .val (.long qb), .second, vi p6, vi i1, vi i2, vi 3, vi cp, vi 3, .val (.long q2), .second, vr a1d, vr a2d, .unset, .unset] []
  refine oiload X0 hx hby at_121 rfl ?_
  refine oiconst X0 hx hby at_123 ?_
  refine own_st (fun _ kS => XS.iand X0.here hx rfl (hb hby at_124) rfl kS) ?_
  show gs T0 m 125 #[vi p1, vi p2, vi p3, .val (.long qa), .second, .val (.long qb), .second, vi p6, vi i1, vi i2, vi 3, vi cp, vi 3, .val (.long q2), .second, vr a1d, vr a2d, .unset, .unset] [(.int (p6 &&& (3 : Int32)))]
  rcases own_and3 p6 with hk1 | hk1 | hk1 | hk1
  · rw [hk1]
    show gs T0 m 125 #[vi p1, vi p2, vi p3, .val (.long qa), .second, .val (.long qb), .second, vi p6, vi i1, vi i2, vi 3, vi cp, vi 3, .val (.long q2), .second, vr a1d, vr a2d, .unset, .unset] [(.int 0)]
    refine own_st (fun _ kS => XS.istore X0.here hx rfl (hb hby at_125) rfl (l' := #[vi p1, vi p2, vi p3, .val (.long qa), .second, .val (.long qb), .second, vi p6, vi i1, vi i2, vi 3, vi cp, vi 3, .val (.long q2), .second, vr a1d, vr a2d, vi 0, .unset]) rfl kS) ?_
    refine oiload X0 hx hby at_127 rfl ?_
    refine oiconst X0 hx hby at_129 ?_
    refine own_st (fun _ kS => XS.icmpYes X0.here hx rfl (pc0 := 130) (pc' := 148) rfl (hb hby at_130) rfl (feq (by decide : ¬ ((0 : Int32) = (1 : Int32)))).2 (by decide) (by decide) kS) ?_
    show gs T0 m 148 #[vi p1, vi p2, vi p3, .val (.long qa), .second, .val (.long qb), .second, vi p6, vi i1, vi i2, vi 3, vi cp, vi 3, .val (.long q2), .second, vr a1d, vr a2d, vi 0, .unset] []
    refine oiload X0 hx hby at_148 rfl ?_
    refine oiconst X0 hx hby at_150 ?_
    refine own_st (fun _ kS => XS.icmpYes X0.here hx rfl (pc0 := 151) (pc' := 173) rfl (hb hby at_151) rfl (feq (by decide : ¬ ((0 : Int32) = (2 : Int32)))).2 (by decide) (by decide) kS) ?_
    show gs T0 m 173 #[vi p1, vi p2, vi p3, .val (.long qa), .second, .val (.long qb), .second, vi p6, vi i1, vi i2, vi 3, vi cp, vi 3, .val (.long q2), .second, vr a1d, vr a2d, vi 0, .unset] []
    refine oiload X0 hx hby at_173 rfl ?_
    refine oiconst X0 hx hby at_175 ?_
    refine own_st (fun _ kS => XS.icmpYes X0.here hx rfl (pc0 := 176) (pc' := 187) rfl (hb hby at_176) rfl (feq (by decide : ¬ ((0 : Int32) = (3 : Int32)))).2 (by decide) (by decide) kS) ?_
    show gs T0 m 187 #[vi p1, vi p2, vi p3, .val (.long qa), .second, .val (.long qb), .second, vi p6, vi i1, vi i2, vi 3, vi cp, vi 3, .val (.long q2), .second, vr a1d, vr a2d, vi 0, .unset] []
    refine oiload X0 hx hby at_187 rfl ?_
    refine oiload X0 hx hby at_189 rfl ?_
    show gs T0 m 191 #[vi p1, vi p2, vi p3, .val (.long qa), .second, .val (.long qb), .second, vi p6, vi i1, vi i2, vi 3, vi cp, vi 3, .val (.long q2), .second, vr a1d, vr a2d, vi 0, .unset] [(.int i2), (.int i1)]
    by_cases hc191_2 : i1 = i2
    · skip
      refine own_st (fun _ kS => XS.icmpNo X0.here hx rfl (hb hby at_191) rfl (teq hc191_2).2 kS) ?_
      show gs T0 m 194 #[vi p1, vi p2, vi p3, .val (.long qa), .second, .val (.long qb), .second, vi p6, vi i1, vi i2, vi 3, vi cp, vi 3, .val (.long q2), .second, vr a1d, vr a2d, vi 0, .unset] []
      have Fe2' : fk18 Z h0 a2d (.ref v1) := by rw [hveq hc191_2]; exact Fe2
      refine oiload X0 hx hby at_194 rfl ?_
      refine own_st (fun _ kS => XT.lloadN X0.here hx rfl (hb hby at_196) rfl kS) ?_
      refine oiload X0 hx hby at_197 rfl ?_
      refine own_st (fun _ kS => XT.lload X0.here hx rfl (hb hby at_199) rfl kS) ?_
      show gs T0 m 201 #[vi p1, vi p2, vi p3, .val (.long qa), .second, .val (.long qb), .second, vi p6, vi i1, vi i2, vi 3, vi cp, vi 3, .val (.long q2), .second, vr a1d, vr a2d, vi 0, .unset] [(.long q2), (.int 3), (.long qa), (.int 3)]
      by_cases hq0 : (own_ch qa (0 : Int32)) = (own_ch q2 (0 : Int32))
      · skip
        by_cases hq1 : (own_ch qa (1 : Int32)) = (own_ch q2 (1 : Int32))
        · skip
          by_cases hq2 : (own_ch qa (2 : Int32)) = (own_ch q2 (2 : Int32))
          · skip
            show gs T0 m 201 #[vi p1, vi p2, vi p3, .val (.long qa), .second, .val (.long qb), .second, vi p6, vi i1, vi i2, vi 3, vi cp, vi 3, .val (.long q2), .second, vr a1d, vr a2d, vi 0, .unset] [(.long q2), (.int 3), (.long qa), (.int 3)]
            refine oS 0 X0 hx hZ hby hml hown (own_w hw 117 rfl) (own_w hw 118 rfl) (own_w hw 6 rfl) (own_w hw 119 rfl) (rm_samT_3_T l Z a0 hw [] qa q2 h0 n0 Z0  hq0 hq1 hq2) e0 (by decide) own_pd9 at_201 rfl rfl rfl (fun T3 L3 v3 X3 hQ3 => ?_)
            obtain ⟨rfl, Nq3, eq3⟩ := hQ3
            have N3 := Fr.app N0 Nq3
            show gs T3 m 204 #[vi p1, vi p2, vi p3, .val (.long qa), .second, .val (.long qb), .second, vi p6, vi i1, vi i2, vi 3, vi cp, vi 3, .val (.long q2), .second, vr a1d, vr a2d, vi 0, .unset] [(.int 1)]
            refine own_st (fun _ kS => XS.ifNo X3.here hx rfl (hb hby at_204) rfl ((if0 _ _).trans (feq (by decide : ¬ ((1 : Int32) = (0 : Int32)))).1) kS) ?_
            show gs T3 m 207 #[vi p1, vi p2, vi p3, .val (.long qa), .second, .val (.long qb), .second, vi p6, vi i1, vi i2, vi 3, vi cp, vi 3, .val (.long q2), .second, vr a1d, vr a2d, vi 0, .unset] []
            refine oiconst X3 hx hby at_207 ?_
            refine own_st (fun _ kS => XS.goto X3.here hx rfl (pc0 := 208) (pc' := 212) rfl (hb hby at_208) (by decide) (by decide) kS) ?_
            refine own_st (fun _ kS => XS.istore X3.here hx rfl (hb hby at_212) rfl (l' := #[vi p1, vi p2, vi p3, .val (.long qa), .second, .val (.long qb), .second, vi p6, vi i1, vi i2, vi 3, vi cp, vi 3, .val (.long q2), .second, vr a1d, vr a2d, vi 0, vi 1]) rfl kS) ?_
            refine oaload X3 hx hby at_214 rfl rfl ?_
            refine oaload X3 hx hby at_216 rfl rfl ?_
            refine oV 0 X3 hx hZ hby hml hown (own_w hw 98 rfl) (own_w hw 99 rfl) (own_w hw 101 rfl) (own_w hw 100 rfl) (rm_dcE_3_T l Z a0 hw [] a1d a2d v1 s1 s2 t1 t2 k1a k2a (nar .byte ((own_ch qa (0 : Int32)).toInt8.toInt32)) (nar .byte ((own_ch qa (1 : Int32)).toInt8.toInt32)) (nar .byte ((own_ch qa (2 : Int32)).toInt8.toInt32)) (nar .byte ((own_ch q2 (0 : Int32)).toInt8.toInt32)) (nar .byte ((own_ch q2 (1 : Int32)).toInt8.toInt32)) (nar .byte ((own_ch q2 (2 : Int32)).toInt8.toInt32)) zCS h0 n0 Z0 O0 E_a1 E_a2 Fe1 Ft1 Fe2' Ft2 ne12 E_s1 E_s2 F1v F2v F1c F2c R_1 R_2 (own_beq hq0) (own_beq hq1) (own_beq hq2) S_CS P_CS) (own_w hw 102 rfl) (own_w hw 3 rfl) eq3 E_a1 (by decide) own_pd8 at_218 rfl rfl rfl (fun T4 L4 v4 X4 hQ4 => ?_)
            obtain ⟨rfl, Nq4, eq4⟩ := hQ4
            have N4 := Fr.app N3 Nq4
            show gs T4 m 221 #[vi p1, vi p2, vi p3, .val (.long qa), .second, .val (.long qb), .second, vi p6, vi i1, vi i2, vi 3, vi cp, vi 3, .val (.long q2), .second, vr a1d, vr a2d, vi 0, vi 1] [(.int 1)]
            refine oiload X4 hx hby at_221 rfl ?_
            refine own_st (fun _ kS => XS.icmpNo X4.here hx rfl (hb hby at_223) rfl (teq (by decide : (1 : Int32) = (1 : Int32))).2 kS) ?_
            show gs T4 m 226 #[vi p1, vi p2, vi p3, .val (.long qa), .second, .val (.long qb), .second, vi p6, vi i1, vi i2, vi 3, vi cp, vi 3, .val (.long q2), .second, vr a1d, vr a2d, vi 0, vi 1] []
            refine oaload X4 hx hby at_226 rfl rfl ?_
            refine oaload X4 hx hby at_228 rfl rfl ?_
            refine oV 0 X4 hx hZ hby hml hown (own_w hw 98 rfl) (own_w hw 99 rfl) (own_w hw 101 rfl) (own_w hw 100 rfl) (rm_dcE_3_T l Z a0 hw [] a2d a1d v1 s2 s1 t2 t1 k2a k1a (nar .byte ((own_ch q2 (0 : Int32)).toInt8.toInt32)) (nar .byte ((own_ch q2 (1 : Int32)).toInt8.toInt32)) (nar .byte ((own_ch q2 (2 : Int32)).toInt8.toInt32)) (nar .byte ((own_ch qa (0 : Int32)).toInt8.toInt32)) (nar .byte ((own_ch qa (1 : Int32)).toInt8.toInt32)) (nar .byte ((own_ch qa (2 : Int32)).toInt8.toInt32)) zCS h0 n0 Z0 O0 E_a2 E_a1 Fe2' Ft2 Fe1 Ft1 (Ne.symm ne12) E_s2 E_s1 F2v F1v F2c F1c R_2 R_1 (own_beq hq0.symm) (own_beq hq1.symm) (own_beq hq2.symm) S_CS P_CS) (own_w hw 102 rfl) (own_w hw 3 rfl) eq4 E_a2 (by decide) own_pd8 at_230 rfl rfl rfl (fun T5 L5 v5 X5 hQ5 => ?_)
            obtain ⟨rfl, Nq5, eq5⟩ := hQ5
            have N5 := Fr.app N4 Nq5
            show gs T5 m 233 #[vi p1, vi p2, vi p3, .val (.long qa), .second, .val (.long qb), .second, vi p6, vi i1, vi i2, vi 3, vi cp, vi 3, .val (.long q2), .second, vr a1d, vr a2d, vi 0, vi 1] [(.int 1)]
            refine oiload X5 hx hby at_233 rfl ?_
            refine own_st (fun _ kS => XS.icmpNo X5.here hx rfl (hb hby at_235) rfl (teq (by decide : (1 : Int32) = (1 : Int32))).2 kS) ?_
            show gs T5 m 238 #[vi p1, vi p2, vi p3, .val (.long qa), .second, .val (.long qb), .second, vi p6, vi i1, vi i2, vi 3, vi cp, vi 3, .val (.long q2), .second, vr a1d, vr a2d, vi 0, vi 1] []
            refine oiconst X5 hx hby at_238 ?_
            refine own_st (fun _ kS => XS.goto X5.here hx rfl (pc0 := 239) (pc' := 243) rfl (hb hby at_239) (by decide) (by decide) kS) ?_
            show gs T5 m 243 #[vi p1, vi p2, vi p3, .val (.long qa), .second, .val (.long qb), .second, vi p6, vi i1, vi i2, vi 3, vi cp, vi 3, .val (.long q2), .second, vr a1d, vr a2d, vi 0, vi 1] [(.int 1)]
            exact own_retNW hS (own_le eq5 hk0) X5 hx hlk (t := .boolean) hret (by simp) (hb hby at_243) (by decide) (by decide) (v' := (1 : Int32)) rfl (by rw [eq5]; exact ⟨rfl, N5⟩)
          · skip
            show gs T0 m 201 #[vi p1, vi p2, vi p3, .val (.long qa), .second, .val (.long qb), .second, vi p6, vi i1, vi i2, vi 3, vi cp, vi 3, .val (.long q2), .second, vr a1d, vr a2d, vi 0, .unset] [(.long q2), (.int 3), (.long qa), (.int 3)]
            refine oS 0 X0 hx hZ hby hml hown (own_w hw 117 rfl) (own_w hw 118 rfl) (own_w hw 6 rfl) (own_w hw 119 rfl) (rm_samT_3_2 l Z a0 hw [] qa q2 h0 n0 Z0  hq0 hq1 hq2) e0 (by decide) own_pd9 at_201 rfl rfl rfl (fun T6 L6 v6 X6 hQ6 => ?_)
            obtain ⟨rfl, Nq6, eq6⟩ := hQ6
            have N6 := Fr.app N0 Nq6
            show gs T6 m 204 #[vi p1, vi p2, vi p3, .val (.long qa), .second, .val (.long qb), .second, vi p6, vi i1, vi i2, vi 3, vi cp, vi 3, .val (.long q2), .second, vr a1d, vr a2d, vi 0, .unset] [(.int 0)]
            refine own_st (fun _ kS => XS.ifYes X6.here hx rfl (pc0 := 204) (pc' := 211) rfl (hb hby at_204) rfl ((if0 _ _).trans (teq (by decide : (0 : Int32) = (0 : Int32))).1) (by decide) (by decide) kS) ?_
            show gs T6 m 211 #[vi p1, vi p2, vi p3, .val (.long qa), .second, .val (.long qb), .second, vi p6, vi i1, vi i2, vi 3, vi cp, vi 3, .val (.long q2), .second, vr a1d, vr a2d, vi 0, .unset] []
            refine oiconst X6 hx hby at_211 ?_
            refine own_st (fun _ kS => XS.istore X6.here hx rfl (hb hby at_212) rfl (l' := #[vi p1, vi p2, vi p3, .val (.long qa), .second, .val (.long qb), .second, vi p6, vi i1, vi i2, vi 3, vi cp, vi 3, .val (.long q2), .second, vr a1d, vr a2d, vi 0, vi 0]) rfl kS) ?_
            refine oaload X6 hx hby at_214 rfl rfl ?_
            refine oaload X6 hx hby at_216 rfl rfl ?_
            refine oV 0 X6 hx hZ hby hml hown (own_w hw 98 rfl) (own_w hw 99 rfl) (own_w hw 101 rfl) (own_w hw 100 rfl) (rm_dcE_3_2 l Z a0 hw [] a1d a2d v1 s1 s2 t1 t2 k1a k2a (nar .byte ((own_ch qa (0 : Int32)).toInt8.toInt32)) (nar .byte ((own_ch qa (1 : Int32)).toInt8.toInt32)) (nar .byte ((own_ch qa (2 : Int32)).toInt8.toInt32)) (nar .byte ((own_ch q2 (0 : Int32)).toInt8.toInt32)) (nar .byte ((own_ch q2 (1 : Int32)).toInt8.toInt32)) (nar .byte ((own_ch q2 (2 : Int32)).toInt8.toInt32)) zCS h0 n0 Z0 O0 E_a1 E_a2 Fe1 Ft1 Fe2' Ft2 ne12 E_s1 E_s2 F1v F2v F1c F2c R_1 R_2 (own_beq hq0) (own_beq hq1) (own_bne hq2) S_CS P_CS) (own_w hw 102 rfl) (own_w hw 3 rfl) eq6 E_a1 (by decide) own_pd8 at_218 rfl rfl rfl (fun T7 L7 v7 X7 hQ7 => ?_)
            obtain ⟨rfl, Nq7, eq7⟩ := hQ7
            have N7 := Fr.app N6 Nq7
            show gs T7 m 221 #[vi p1, vi p2, vi p3, .val (.long qa), .second, .val (.long qb), .second, vi p6, vi i1, vi i2, vi 3, vi cp, vi 3, .val (.long q2), .second, vr a1d, vr a2d, vi 0, vi 0] [(.int 0)]
            refine oiload X7 hx hby at_221 rfl ?_
            refine own_st (fun _ kS => XS.icmpNo X7.here hx rfl (hb hby at_223) rfl (teq (by decide : (0 : Int32) = (0 : Int32))).2 kS) ?_
            show gs T7 m 226 #[vi p1, vi p2, vi p3, .val (.long qa), .second, .val (.long qb), .second, vi p6, vi i1, vi i2, vi 3, vi cp, vi 3, .val (.long q2), .second, vr a1d, vr a2d, vi 0, vi 0] []
            refine oaload X7 hx hby at_226 rfl rfl ?_
            refine oaload X7 hx hby at_228 rfl rfl ?_
            refine oV 0 X7 hx hZ hby hml hown (own_w hw 98 rfl) (own_w hw 99 rfl) (own_w hw 101 rfl) (own_w hw 100 rfl) (rm_dcE_3_2 l Z a0 hw [] a2d a1d v1 s2 s1 t2 t1 k2a k1a (nar .byte ((own_ch q2 (0 : Int32)).toInt8.toInt32)) (nar .byte ((own_ch q2 (1 : Int32)).toInt8.toInt32)) (nar .byte ((own_ch q2 (2 : Int32)).toInt8.toInt32)) (nar .byte ((own_ch qa (0 : Int32)).toInt8.toInt32)) (nar .byte ((own_ch qa (1 : Int32)).toInt8.toInt32)) (nar .byte ((own_ch qa (2 : Int32)).toInt8.toInt32)) zCS h0 n0 Z0 O0 E_a2 E_a1 Fe2' Ft2 Fe1 Ft1 (Ne.symm ne12) E_s2 E_s1 F2v F1v F2c F1c R_2 R_1 (own_beq hq0.symm) (own_beq hq1.symm) (own_bne (fun e => hq2 e.symm)) S_CS P_CS) (own_w hw 102 rfl) (own_w hw 3 rfl) eq7 E_a2 (by decide) own_pd8 at_230 rfl rfl rfl (fun T8 L8 v8 X8 hQ8 => ?_)
            obtain ⟨rfl, Nq8, eq8⟩ := hQ8
            have N8 := Fr.app N7 Nq8
            show gs T8 m 233 #[vi p1, vi p2, vi p3, .val (.long qa), .second, .val (.long qb), .second, vi p6, vi i1, vi i2, vi 3, vi cp, vi 3, .val (.long q2), .second, vr a1d, vr a2d, vi 0, vi 0] [(.int 0)]
            refine oiload X8 hx hby at_233 rfl ?_
            refine own_st (fun _ kS => XS.icmpNo X8.here hx rfl (hb hby at_235) rfl (teq (by decide : (0 : Int32) = (0 : Int32))).2 kS) ?_
            show gs T8 m 238 #[vi p1, vi p2, vi p3, .val (.long qa), .second, .val (.long qb), .second, vi p6, vi i1, vi i2, vi 3, vi cp, vi 3, .val (.long q2), .second, vr a1d, vr a2d, vi 0, vi 0] []
            refine oiconst X8 hx hby at_238 ?_
            refine own_st (fun _ kS => XS.goto X8.here hx rfl (pc0 := 239) (pc' := 243) rfl (hb hby at_239) (by decide) (by decide) kS) ?_
            show gs T8 m 243 #[vi p1, vi p2, vi p3, .val (.long qa), .second, .val (.long qb), .second, vi p6, vi i1, vi i2, vi 3, vi cp, vi 3, .val (.long q2), .second, vr a1d, vr a2d, vi 0, vi 0] [(.int 1)]
            exact own_retNW hS (own_le eq8 hk0) X8 hx hlk (t := .boolean) hret (by simp) (hb hby at_243) (by decide) (by decide) (v' := (1 : Int32)) rfl (by rw [eq8]; exact ⟨rfl, N8⟩)
        · skip
          show gs T0 m 201 #[vi p1, vi p2, vi p3, .val (.long qa), .second, .val (.long qb), .second, vi p6, vi i1, vi i2, vi 3, vi cp, vi 3, .val (.long q2), .second, vr a1d, vr a2d, vi 0, .unset] [(.long q2), (.int 3), (.long qa), (.int 3)]
          refine oS 0 X0 hx hZ hby hml hown (own_w hw 117 rfl) (own_w hw 118 rfl) (own_w hw 6 rfl) (own_w hw 119 rfl) (rm_samT_3_1 l Z a0 hw [] qa q2 h0 n0 Z0  hq0 hq1) e0 (by decide) own_pd9 at_201 rfl rfl rfl (fun T9 L9 v9 X9 hQ9 => ?_)
          obtain ⟨rfl, Nq9, eq9⟩ := hQ9
          have N9 := Fr.app N0 Nq9
          show gs T9 m 204 #[vi p1, vi p2, vi p3, .val (.long qa), .second, .val (.long qb), .second, vi p6, vi i1, vi i2, vi 3, vi cp, vi 3, .val (.long q2), .second, vr a1d, vr a2d, vi 0, .unset] [(.int 0)]
          refine own_st (fun _ kS => XS.ifYes X9.here hx rfl (pc0 := 204) (pc' := 211) rfl (hb hby at_204) rfl ((if0 _ _).trans (teq (by decide : (0 : Int32) = (0 : Int32))).1) (by decide) (by decide) kS) ?_
          show gs T9 m 211 #[vi p1, vi p2, vi p3, .val (.long qa), .second, .val (.long qb), .second, vi p6, vi i1, vi i2, vi 3, vi cp, vi 3, .val (.long q2), .second, vr a1d, vr a2d, vi 0, .unset] []
          refine oiconst X9 hx hby at_211 ?_
          refine own_st (fun _ kS => XS.istore X9.here hx rfl (hb hby at_212) rfl (l' := #[vi p1, vi p2, vi p3, .val (.long qa), .second, .val (.long qb), .second, vi p6, vi i1, vi i2, vi 3, vi cp, vi 3, .val (.long q2), .second, vr a1d, vr a2d, vi 0, vi 0]) rfl kS) ?_
          refine oaload X9 hx hby at_214 rfl rfl ?_
          refine oaload X9 hx hby at_216 rfl rfl ?_
          refine oV 0 X9 hx hZ hby hml hown (own_w hw 98 rfl) (own_w hw 99 rfl) (own_w hw 101 rfl) (own_w hw 100 rfl) (rm_dcE_3_1 l Z a0 hw [] a1d a2d v1 s1 s2 t1 t2 k1a k2a (nar .byte ((own_ch qa (0 : Int32)).toInt8.toInt32)) (nar .byte ((own_ch qa (1 : Int32)).toInt8.toInt32)) (nar .byte ((own_ch qa (2 : Int32)).toInt8.toInt32)) (nar .byte ((own_ch q2 (0 : Int32)).toInt8.toInt32)) (nar .byte ((own_ch q2 (1 : Int32)).toInt8.toInt32)) (nar .byte ((own_ch q2 (2 : Int32)).toInt8.toInt32)) zCS h0 n0 Z0 O0 E_a1 E_a2 Fe1 Ft1 Fe2' Ft2 ne12 E_s1 E_s2 F1v F2v F1c F2c R_1 R_2 (own_beq hq0) (own_bne hq1) S_CS P_CS) (own_w hw 102 rfl) (own_w hw 3 rfl) eq9 E_a1 (by decide) own_pd8 at_218 rfl rfl rfl (fun T10 L10 v10 X10 hQ10 => ?_)
          obtain ⟨rfl, Nq10, eq10⟩ := hQ10
          have N10 := Fr.app N9 Nq10
          show gs T10 m 221 #[vi p1, vi p2, vi p3, .val (.long qa), .second, .val (.long qb), .second, vi p6, vi i1, vi i2, vi 3, vi cp, vi 3, .val (.long q2), .second, vr a1d, vr a2d, vi 0, vi 0] [(.int 0)]
          refine oiload X10 hx hby at_221 rfl ?_
          refine own_st (fun _ kS => XS.icmpNo X10.here hx rfl (hb hby at_223) rfl (teq (by decide : (0 : Int32) = (0 : Int32))).2 kS) ?_
          show gs T10 m 226 #[vi p1, vi p2, vi p3, .val (.long qa), .second, .val (.long qb), .second, vi p6, vi i1, vi i2, vi 3, vi cp, vi 3, .val (.long q2), .second, vr a1d, vr a2d, vi 0, vi 0] []
          refine oaload X10 hx hby at_226 rfl rfl ?_
          refine oaload X10 hx hby at_228 rfl rfl ?_
          refine oV 0 X10 hx hZ hby hml hown (own_w hw 98 rfl) (own_w hw 99 rfl) (own_w hw 101 rfl) (own_w hw 100 rfl) (rm_dcE_3_1 l Z a0 hw [] a2d a1d v1 s2 s1 t2 t1 k2a k1a (nar .byte ((own_ch q2 (0 : Int32)).toInt8.toInt32)) (nar .byte ((own_ch q2 (1 : Int32)).toInt8.toInt32)) (nar .byte ((own_ch q2 (2 : Int32)).toInt8.toInt32)) (nar .byte ((own_ch qa (0 : Int32)).toInt8.toInt32)) (nar .byte ((own_ch qa (1 : Int32)).toInt8.toInt32)) (nar .byte ((own_ch qa (2 : Int32)).toInt8.toInt32)) zCS h0 n0 Z0 O0 E_a2 E_a1 Fe2' Ft2 Fe1 Ft1 (Ne.symm ne12) E_s2 E_s1 F2v F1v F2c F1c R_2 R_1 (own_beq hq0.symm) (own_bne (fun e => hq1 e.symm)) S_CS P_CS) (own_w hw 102 rfl) (own_w hw 3 rfl) eq10 E_a2 (by decide) own_pd8 at_230 rfl rfl rfl (fun T11 L11 v11 X11 hQ11 => ?_)
          obtain ⟨rfl, Nq11, eq11⟩ := hQ11
          have N11 := Fr.app N10 Nq11
          show gs T11 m 233 #[vi p1, vi p2, vi p3, .val (.long qa), .second, .val (.long qb), .second, vi p6, vi i1, vi i2, vi 3, vi cp, vi 3, .val (.long q2), .second, vr a1d, vr a2d, vi 0, vi 0] [(.int 0)]
          refine oiload X11 hx hby at_233 rfl ?_
          refine own_st (fun _ kS => XS.icmpNo X11.here hx rfl (hb hby at_235) rfl (teq (by decide : (0 : Int32) = (0 : Int32))).2 kS) ?_
          show gs T11 m 238 #[vi p1, vi p2, vi p3, .val (.long qa), .second, .val (.long qb), .second, vi p6, vi i1, vi i2, vi 3, vi cp, vi 3, .val (.long q2), .second, vr a1d, vr a2d, vi 0, vi 0] []
          refine oiconst X11 hx hby at_238 ?_
          refine own_st (fun _ kS => XS.goto X11.here hx rfl (pc0 := 239) (pc' := 243) rfl (hb hby at_239) (by decide) (by decide) kS) ?_
          show gs T11 m 243 #[vi p1, vi p2, vi p3, .val (.long qa), .second, .val (.long qb), .second, vi p6, vi i1, vi i2, vi 3, vi cp, vi 3, .val (.long q2), .second, vr a1d, vr a2d, vi 0, vi 0] [(.int 1)]
          exact own_retNW hS (own_le eq11 hk0) X11 hx hlk (t := .boolean) hret (by simp) (hb hby at_243) (by decide) (by decide) (v' := (1 : Int32)) rfl (by rw [eq11]; exact ⟨rfl, N11⟩)
      · skip
        show gs T0 m 201 #[vi p1, vi p2, vi p3, .val (.long qa), .second, .val (.long qb), .second, vi p6, vi i1, vi i2, vi 3, vi cp, vi 3, .val (.long q2), .second, vr a1d, vr a2d, vi 0, .unset] [(.long q2), (.int 3), (.long qa), (.int 3)]
        refine oS 0 X0 hx hZ hby hml hown (own_w hw 117 rfl) (own_w hw 118 rfl) (own_w hw 6 rfl) (own_w hw 119 rfl) (rm_samT_3_0 l Z a0 hw [] qa q2 h0 n0 Z0  hq0) e0 (by decide) own_pd9 at_201 rfl rfl rfl (fun T12 L12 v12 X12 hQ12 => ?_)
        obtain ⟨rfl, Nq12, eq12⟩ := hQ12
        have N12 := Fr.app N0 Nq12
        show gs T12 m 204 #[vi p1, vi p2, vi p3, .val (.long qa), .second, .val (.long qb), .second, vi p6, vi i1, vi i2, vi 3, vi cp, vi 3, .val (.long q2), .second, vr a1d, vr a2d, vi 0, .unset] [(.int 0)]
        refine own_st (fun _ kS => XS.ifYes X12.here hx rfl (pc0 := 204) (pc' := 211) rfl (hb hby at_204) rfl ((if0 _ _).trans (teq (by decide : (0 : Int32) = (0 : Int32))).1) (by decide) (by decide) kS) ?_
        show gs T12 m 211 #[vi p1, vi p2, vi p3, .val (.long qa), .second, .val (.long qb), .second, vi p6, vi i1, vi i2, vi 3, vi cp, vi 3, .val (.long q2), .second, vr a1d, vr a2d, vi 0, .unset] []
        refine oiconst X12 hx hby at_211 ?_
        refine own_st (fun _ kS => XS.istore X12.here hx rfl (hb hby at_212) rfl (l' := #[vi p1, vi p2, vi p3, .val (.long qa), .second, .val (.long qb), .second, vi p6, vi i1, vi i2, vi 3, vi cp, vi 3, .val (.long q2), .second, vr a1d, vr a2d, vi 0, vi 0]) rfl kS) ?_
        refine oaload X12 hx hby at_214 rfl rfl ?_
        refine oaload X12 hx hby at_216 rfl rfl ?_
        refine oV 0 X12 hx hZ hby hml hown (own_w hw 98 rfl) (own_w hw 99 rfl) (own_w hw 101 rfl) (own_w hw 100 rfl) (rm_dcE_3_0 l Z a0 hw [] a1d a2d v1 s1 s2 t1 t2 k1a k2a (nar .byte ((own_ch qa (0 : Int32)).toInt8.toInt32)) (nar .byte ((own_ch qa (1 : Int32)).toInt8.toInt32)) (nar .byte ((own_ch qa (2 : Int32)).toInt8.toInt32)) (nar .byte ((own_ch q2 (0 : Int32)).toInt8.toInt32)) (nar .byte ((own_ch q2 (1 : Int32)).toInt8.toInt32)) (nar .byte ((own_ch q2 (2 : Int32)).toInt8.toInt32)) zCS h0 n0 Z0 O0 E_a1 E_a2 Fe1 Ft1 Fe2' Ft2 ne12 E_s1 E_s2 F1v F2v F1c F2c R_1 R_2 (own_bne hq0) S_CS P_CS) (own_w hw 102 rfl) (own_w hw 3 rfl) eq12 E_a1 (by decide) own_pd8 at_218 rfl rfl rfl (fun T13 L13 v13 X13 hQ13 => ?_)
        obtain ⟨rfl, Nq13, eq13⟩ := hQ13
        have N13 := Fr.app N12 Nq13
        show gs T13 m 221 #[vi p1, vi p2, vi p3, .val (.long qa), .second, .val (.long qb), .second, vi p6, vi i1, vi i2, vi 3, vi cp, vi 3, .val (.long q2), .second, vr a1d, vr a2d, vi 0, vi 0] [(.int 0)]
        refine oiload X13 hx hby at_221 rfl ?_
        refine own_st (fun _ kS => XS.icmpNo X13.here hx rfl (hb hby at_223) rfl (teq (by decide : (0 : Int32) = (0 : Int32))).2 kS) ?_
        show gs T13 m 226 #[vi p1, vi p2, vi p3, .val (.long qa), .second, .val (.long qb), .second, vi p6, vi i1, vi i2, vi 3, vi cp, vi 3, .val (.long q2), .second, vr a1d, vr a2d, vi 0, vi 0] []
        refine oaload X13 hx hby at_226 rfl rfl ?_
        refine oaload X13 hx hby at_228 rfl rfl ?_
        refine oV 0 X13 hx hZ hby hml hown (own_w hw 98 rfl) (own_w hw 99 rfl) (own_w hw 101 rfl) (own_w hw 100 rfl) (rm_dcE_3_0 l Z a0 hw [] a2d a1d v1 s2 s1 t2 t1 k2a k1a (nar .byte ((own_ch q2 (0 : Int32)).toInt8.toInt32)) (nar .byte ((own_ch q2 (1 : Int32)).toInt8.toInt32)) (nar .byte ((own_ch q2 (2 : Int32)).toInt8.toInt32)) (nar .byte ((own_ch qa (0 : Int32)).toInt8.toInt32)) (nar .byte ((own_ch qa (1 : Int32)).toInt8.toInt32)) (nar .byte ((own_ch qa (2 : Int32)).toInt8.toInt32)) zCS h0 n0 Z0 O0 E_a2 E_a1 Fe2' Ft2 Fe1 Ft1 (Ne.symm ne12) E_s2 E_s1 F2v F1v F2c F1c R_2 R_1 (own_bne (fun e => hq0 e.symm)) S_CS P_CS) (own_w hw 102 rfl) (own_w hw 3 rfl) eq13 E_a2 (by decide) own_pd8 at_230 rfl rfl rfl (fun T14 L14 v14 X14 hQ14 => ?_)
        obtain ⟨rfl, Nq14, eq14⟩ := hQ14
        have N14 := Fr.app N13 Nq14
        show gs T14 m 233 #[vi p1, vi p2, vi p3, .val (.long qa), .second, .val (.long qb), .second, vi p6, vi i1, vi i2, vi 3, vi cp, vi 3, .val (.long q2), .second, vr a1d, vr a2d, vi 0, vi 0] [(.int 0)]
        refine oiload X14 hx hby at_233 rfl ?_
        refine own_st (fun _ kS => XS.icmpNo X14.here hx rfl (hb hby at_235) rfl (teq (by decide : (0 : Int32) = (0 : Int32))).2 kS) ?_
        show gs T14 m 238 #[vi p1, vi p2, vi p3, .val (.long qa), .second, .val (.long qb), .second, vi p6, vi i1, vi i2, vi 3, vi cp, vi 3, .val (.long q2), .second, vr a1d, vr a2d, vi 0, vi 0] []
        refine oiconst X14 hx hby at_238 ?_
        refine own_st (fun _ kS => XS.goto X14.here hx rfl (pc0 := 239) (pc' := 243) rfl (hb hby at_239) (by decide) (by decide) kS) ?_
        show gs T14 m 243 #[vi p1, vi p2, vi p3, .val (.long qa), .second, .val (.long qb), .second, vi p6, vi i1, vi i2, vi 3, vi cp, vi 3, .val (.long q2), .second, vr a1d, vr a2d, vi 0, vi 0] [(.int 1)]
        exact own_retNW hS (own_le eq14 hk0) X14 hx hlk (t := .boolean) hret (by simp) (hb hby at_243) (by decide) (by decide) (v' := (1 : Int32)) rfl (by rw [eq14]; exact ⟨rfl, N14⟩)
    · skip
      refine own_st (fun _ kS => XS.icmpYes X0.here hx rfl (pc0 := 191) (pc' := 211) rfl (hb hby at_191) rfl (feq hc191_2).2 (by decide) (by decide) kS) ?_
      show gs T0 m 211 #[vi p1, vi p2, vi p3, .val (.long qa), .second, .val (.long qb), .second, vi p6, vi i1, vi i2, vi 3, vi cp, vi 3, .val (.long q2), .second, vr a1d, vr a2d, vi 0, .unset] []
      refine oiconst X0 hx hby at_211 ?_
      refine own_st (fun _ kS => XS.istore X0.here hx rfl (hb hby at_212) rfl (l' := #[vi p1, vi p2, vi p3, .val (.long qa), .second, .val (.long qb), .second, vi p6, vi i1, vi i2, vi 3, vi cp, vi 3, .val (.long q2), .second, vr a1d, vr a2d, vi 0, vi 0]) rfl kS) ?_
      refine oaload X0 hx hby at_214 rfl rfl ?_
      refine oaload X0 hx hby at_216 rfl rfl ?_
      refine oV 0 X0 hx hZ hby hml hown (own_w hw 98 rfl) (own_w hw 99 rfl) (own_w hw 101 rfl) (own_w hw 100 rfl) (rm_dcEl l Z a0 hw [] a1d a2d v1 v2 h0 n0 Z0  E_a1 E_a2 Fe1 Fe2 (hvne hc191_2)) (own_w hw 102 rfl) (own_w hw 3 rfl) e0 E_a1 (by decide) own_pd8 at_218 rfl rfl rfl (fun T15 L15 v15 X15 hQ15 => ?_)
      obtain ⟨rfl, Nq15, eq15⟩ := hQ15
      have N15 := Fr.app N0 Nq15
      show gs T15 m 221 #[vi p1, vi p2, vi p3, .val (.long qa), .second, .val (.long qb), .second, vi p6, vi i1, vi i2, vi 3, vi cp, vi 3, .val (.long q2), .second, vr a1d, vr a2d, vi 0, vi 0] [(.int 0)]
      refine oiload X15 hx hby at_221 rfl ?_
      refine own_st (fun _ kS => XS.icmpNo X15.here hx rfl (hb hby at_223) rfl (teq (by decide : (0 : Int32) = (0 : Int32))).2 kS) ?_
      show gs T15 m 226 #[vi p1, vi p2, vi p3, .val (.long qa), .second, .val (.long qb), .second, vi p6, vi i1, vi i2, vi 3, vi cp, vi 3, .val (.long q2), .second, vr a1d, vr a2d, vi 0, vi 0] []
      refine oaload X15 hx hby at_226 rfl rfl ?_
      refine oaload X15 hx hby at_228 rfl rfl ?_
      refine oV 0 X15 hx hZ hby hml hown (own_w hw 98 rfl) (own_w hw 99 rfl) (own_w hw 101 rfl) (own_w hw 100 rfl) (rm_dcEl l Z a0 hw [] a2d a1d v2 v1 h0 n0 Z0  E_a2 E_a1 Fe2 Fe1 (Ne.symm (hvne hc191_2))) (own_w hw 102 rfl) (own_w hw 3 rfl) eq15 E_a2 (by decide) own_pd8 at_230 rfl rfl rfl (fun T16 L16 v16 X16 hQ16 => ?_)
      obtain ⟨rfl, Nq16, eq16⟩ := hQ16
      have N16 := Fr.app N15 Nq16
      show gs T16 m 233 #[vi p1, vi p2, vi p3, .val (.long qa), .second, .val (.long qb), .second, vi p6, vi i1, vi i2, vi 3, vi cp, vi 3, .val (.long q2), .second, vr a1d, vr a2d, vi 0, vi 0] [(.int 0)]
      refine oiload X16 hx hby at_233 rfl ?_
      refine own_st (fun _ kS => XS.icmpNo X16.here hx rfl (hb hby at_235) rfl (teq (by decide : (0 : Int32) = (0 : Int32))).2 kS) ?_
      show gs T16 m 238 #[vi p1, vi p2, vi p3, .val (.long qa), .second, .val (.long qb), .second, vi p6, vi i1, vi i2, vi 3, vi cp, vi 3, .val (.long q2), .second, vr a1d, vr a2d, vi 0, vi 0] []
      refine oiconst X16 hx hby at_238 ?_
      refine own_st (fun _ kS => XS.goto X16.here hx rfl (pc0 := 239) (pc' := 243) rfl (hb hby at_239) (by decide) (by decide) kS) ?_
      show gs T16 m 243 #[vi p1, vi p2, vi p3, .val (.long qa), .second, .val (.long qb), .second, vi p6, vi i1, vi i2, vi 3, vi cp, vi 3, .val (.long q2), .second, vr a1d, vr a2d, vi 0, vi 0] [(.int 1)]
      exact own_retNW hS (own_le eq16 hk0) X16 hx hlk (t := .boolean) hret (by simp) (hb hby at_243) (by decide) (by decide) (v' := (1 : Int32)) rfl (by rw [eq16]; exact ⟨rfl, N16⟩)
  · rw [hk1]
    show gs T0 m 125 #[vi p1, vi p2, vi p3, .val (.long qa), .second, .val (.long qb), .second, vi p6, vi i1, vi i2, vi 3, vi cp, vi 3, .val (.long q2), .second, vr a1d, vr a2d, .unset, .unset] [(.int 1)]
    refine own_st (fun _ kS => XS.istore X0.here hx rfl (hb hby at_125) rfl (l' := #[vi p1, vi p2, vi p3, .val (.long qa), .second, .val (.long qb), .second, vi p6, vi i1, vi i2, vi 3, vi cp, vi 3, .val (.long q2), .second, vr a1d, vr a2d, vi 1, .unset]) rfl kS) ?_
    refine oiload X0 hx hby at_127 rfl ?_
    refine oiconst X0 hx hby at_129 ?_
    refine own_st (fun _ kS => XS.icmpNo X0.here hx rfl (hb hby at_130) rfl (teq (by decide : (1 : Int32) = (1 : Int32))).2 kS) ?_
    show gs T0 m 133 #[vi p1, vi p2, vi p3, .val (.long qa), .second, .val (.long qb), .second, vi p6, vi i1, vi i2, vi 3, vi cp, vi 3, .val (.long q2), .second, vr a1d, vr a2d, vi 1, .unset] []
    refine oaload X0 hx hby at_133 rfl rfl ?_
    refine own_st (fun _ kS => XS.aconstNull X0.here hx rfl (hb hby at_135) kS) ?_
    show gs T0 m 136 #[vi p1, vi p2, vi p3, .val (.long qa), .second, .val (.long qb), .second, vi p6, vi i1, vi i2, vi 3, vi cp, vi 3, .val (.long q2), .second, vr a1d, vr a2d, vi 1, .unset] [.null, (.ref a1d)]
    refine oV 0 X0 hx hZ hby hml hown (own_w hw 98 rfl) (own_w hw 99 rfl) (own_w hw 101 rfl) (own_w hw 100 rfl) (rm_dcNu l Z a0 hw [] a1d h0 n0 Z0  ) (own_w hw 102 rfl) (own_w hw 3 rfl) e0 E_a1 (by decide) own_pd8 at_136 rfl rfl rfl (fun T17 L17 v17 X17 hQ17 => ?_)
    obtain ⟨rfl, Nq17, eq17⟩ := hQ17
    have N17 := Fr.app N0 Nq17
    show gs T17 m 139 #[vi p1, vi p2, vi p3, .val (.long qa), .second, .val (.long qb), .second, vi p6, vi i1, vi i2, vi 3, vi cp, vi 3, .val (.long q2), .second, vr a1d, vr a2d, vi 1, .unset] [(.int 0)]
    refine own_st (fun _ kS => XS.ifNo X17.here hx rfl (hb hby at_139) rfl ((if0 _ _).trans (teq (by decide : (0 : Int32) = (0 : Int32))).2) kS) ?_
    show gs T17 m 142 #[vi p1, vi p2, vi p3, .val (.long qa), .second, .val (.long qb), .second, vi p6, vi i1, vi i2, vi 3, vi cp, vi 3, .val (.long q2), .second, vr a1d, vr a2d, vi 1, .unset] []
    refine oiconst X17 hx hby at_142 ?_
    refine own_st (fun _ kS => XS.goto X17.here hx rfl (pc0 := 143) (pc' := 147) rfl (hb hby at_143) (by decide) (by decide) kS) ?_
    show gs T17 m 147 #[vi p1, vi p2, vi p3, .val (.long qa), .second, .val (.long qb), .second, vi p6, vi i1, vi i2, vi 3, vi cp, vi 3, .val (.long q2), .second, vr a1d, vr a2d, vi 1, .unset] [(.int 1)]
    exact own_retNW hS (own_le eq17 hk0) X17 hx hlk (t := .boolean) hret (by simp) (hb hby at_147) (by decide) (by decide) (v' := (1 : Int32)) rfl (by rw [eq17]; exact ⟨rfl, N17⟩)
  · rw [hk1]
    show gs T0 m 125 #[vi p1, vi p2, vi p3, .val (.long qa), .second, .val (.long qb), .second, vi p6, vi i1, vi i2, vi 3, vi cp, vi 3, .val (.long q2), .second, vr a1d, vr a2d, .unset, .unset] [(.int 2)]
    refine own_st (fun _ kS => XS.istore X0.here hx rfl (hb hby at_125) rfl (l' := #[vi p1, vi p2, vi p3, .val (.long qa), .second, .val (.long qb), .second, vi p6, vi i1, vi i2, vi 3, vi cp, vi 3, .val (.long q2), .second, vr a1d, vr a2d, vi 2, .unset]) rfl kS) ?_
    refine oiload X0 hx hby at_127 rfl ?_
    refine oiconst X0 hx hby at_129 ?_
    refine own_st (fun _ kS => XS.icmpYes X0.here hx rfl (pc0 := 130) (pc' := 148) rfl (hb hby at_130) rfl (feq (by decide : ¬ ((2 : Int32) = (1 : Int32)))).2 (by decide) (by decide) kS) ?_
    show gs T0 m 148 #[vi p1, vi p2, vi p3, .val (.long qa), .second, .val (.long qb), .second, vi p6, vi i1, vi i2, vi 3, vi cp, vi 3, .val (.long q2), .second, vr a1d, vr a2d, vi 2, .unset] []
    refine oiload X0 hx hby at_148 rfl ?_
    refine oiconst X0 hx hby at_150 ?_
    refine own_st (fun _ kS => XS.icmpNo X0.here hx rfl (hb hby at_151) rfl (teq (by decide : (2 : Int32) = (2 : Int32))).2 kS) ?_
    show gs T0 m 154 #[vi p1, vi p2, vi p3, .val (.long qa), .second, .val (.long qb), .second, vi p6, vi i1, vi i2, vi 3, vi cp, vi 3, .val (.long q2), .second, vr a1d, vr a2d, vi 2, .unset] []
    refine oaload X0 hx hby at_154 rfl rfl ?_
    refine oaload X0 hx hby at_156 rfl rfl ?_
    refine oV 1 X0 hx hZ hby hml hown (own_w hw 110 rfl) (own_w hw 111 rfl) (own_w hw 113 rfl) (own_w hw 112 rfl) (rm_dcText l Z a0 hw [] a1d s1 h0 n0 Z0  Ft1) (own_w hw 114 rfl) (own_w hw 3 rfl) e0 E_a1 (by decide) own_pd10 at_158 rfl rfl rfl (fun T18 L18 v18 X18 hQ18 => ?_)
    obtain ⟨rfl, Nq18, eq18⟩ := hQ18
    have N18 := Fr.app N0 Nq18
    show gs T18 m 161 #[vi p1, vi p2, vi p3, .val (.long qa), .second, .val (.long qb), .second, vi p6, vi i1, vi i2, vi 3, vi cp, vi 3, .val (.long q2), .second, vr a1d, vr a2d, vi 2, .unset] [(.ref s1), (.ref a1d)]
    refine oV 0 X18 hx hZ hby hml hown (own_w hw 98 rfl) (own_w hw 99 rfl) (own_w hw 101 rfl) (own_w hw 100 rfl) (rm_dcTx l Z a0 hw [] a1d s1 h0 n0 Z0  E_s1) (own_w hw 102 rfl) (own_w hw 3 rfl) eq18 E_a1 (by decide) own_pd8 at_161 rfl rfl rfl (fun T19 L19 v19 X19 hQ19 => ?_)
    obtain ⟨rfl, Nq19, eq19⟩ := hQ19
    have N19 := Fr.app N18 Nq19
    show gs T19 m 164 #[vi p1, vi p2, vi p3, .val (.long qa), .second, .val (.long qb), .second, vi p6, vi i1, vi i2, vi 3, vi cp, vi 3, .val (.long q2), .second, vr a1d, vr a2d, vi 2, .unset] [(.int 0)]
    refine own_st (fun _ kS => XS.ifNo X19.here hx rfl (hb hby at_164) rfl ((if0 _ _).trans (teq (by decide : (0 : Int32) = (0 : Int32))).2) kS) ?_
    show gs T19 m 167 #[vi p1, vi p2, vi p3, .val (.long qa), .second, .val (.long qb), .second, vi p6, vi i1, vi i2, vi 3, vi cp, vi 3, .val (.long q2), .second, vr a1d, vr a2d, vi 2, .unset] []
    refine oiconst X19 hx hby at_167 ?_
    refine own_st (fun _ kS => XS.goto X19.here hx rfl (pc0 := 168) (pc' := 172) rfl (hb hby at_168) (by decide) (by decide) kS) ?_
    show gs T19 m 172 #[vi p1, vi p2, vi p3, .val (.long qa), .second, .val (.long qb), .second, vi p6, vi i1, vi i2, vi 3, vi cp, vi 3, .val (.long q2), .second, vr a1d, vr a2d, vi 2, .unset] [(.int 1)]
    exact own_retNW hS (own_le eq19 hk0) X19 hx hlk (t := .boolean) hret (by simp) (hb hby at_172) (by decide) (by decide) (v' := (1 : Int32)) rfl (by rw [eq19]; exact ⟨rfl, N19⟩)
  · rw [hk1]
    show gs T0 m 125 #[vi p1, vi p2, vi p3, .val (.long qa), .second, .val (.long qb), .second, vi p6, vi i1, vi i2, vi 3, vi cp, vi 3, .val (.long q2), .second, vr a1d, vr a2d, .unset, .unset] [(.int 3)]
    refine own_st (fun _ kS => XS.istore X0.here hx rfl (hb hby at_125) rfl (l' := #[vi p1, vi p2, vi p3, .val (.long qa), .second, .val (.long qb), .second, vi p6, vi i1, vi i2, vi 3, vi cp, vi 3, .val (.long q2), .second, vr a1d, vr a2d, vi 3, .unset]) rfl kS) ?_
    refine oiload X0 hx hby at_127 rfl ?_
    refine oiconst X0 hx hby at_129 ?_
    refine own_st (fun _ kS => XS.icmpYes X0.here hx rfl (pc0 := 130) (pc' := 148) rfl (hb hby at_130) rfl (feq (by decide : ¬ ((3 : Int32) = (1 : Int32)))).2 (by decide) (by decide) kS) ?_
    show gs T0 m 148 #[vi p1, vi p2, vi p3, .val (.long qa), .second, .val (.long qb), .second, vi p6, vi i1, vi i2, vi 3, vi cp, vi 3, .val (.long q2), .second, vr a1d, vr a2d, vi 3, .unset] []
    refine oiload X0 hx hby at_148 rfl ?_
    refine oiconst X0 hx hby at_150 ?_
    refine own_st (fun _ kS => XS.icmpYes X0.here hx rfl (pc0 := 151) (pc' := 173) rfl (hb hby at_151) rfl (feq (by decide : ¬ ((3 : Int32) = (2 : Int32)))).2 (by decide) (by decide) kS) ?_
    show gs T0 m 173 #[vi p1, vi p2, vi p3, .val (.long qa), .second, .val (.long qb), .second, vi p6, vi i1, vi i2, vi 3, vi cp, vi 3, .val (.long q2), .second, vr a1d, vr a2d, vi 3, .unset] []
    refine oiload X0 hx hby at_173 rfl ?_
    refine oiconst X0 hx hby at_175 ?_
    refine own_st (fun _ kS => XS.icmpNo X0.here hx rfl (hb hby at_176) rfl (teq (by decide : (3 : Int32) = (3 : Int32))).2 kS) ?_
    show gs T0 m 179 #[vi p1, vi p2, vi p3, .val (.long qa), .second, .val (.long qb), .second, vi p6, vi i1, vi i2, vi 3, vi cp, vi 3, .val (.long q2), .second, vr a1d, vr a2d, vi 3, .unset] []
    refine oaload X0 hx hby at_179 rfl rfl ?_
    refine oaload X0 hx hby at_181 rfl rfl ?_
    refine oV 0 X0 hx hZ hby hml hown (own_w hw 98 rfl) (own_w hw 99 rfl) (own_w hw 101 rfl) (own_w hw 100 rfl) (rm_dcS l Z a0 hw [] a1d v1 s1 h0 n0 Z0  E_a1 E_s1 Fe1 Ft1) (own_w hw 102 rfl) (own_w hw 3 rfl) e0 E_a1 (by decide) own_pd8 at_183 rfl rfl rfl (fun T20 L20 v20 X20 hQ20 => ?_)
    obtain ⟨rfl, Nq20, eq20⟩ := hQ20
    have N20 := Fr.app N0 Nq20
    show gs T20 m 186 #[vi p1, vi p2, vi p3, .val (.long qa), .second, .val (.long qb), .second, vi p6, vi i1, vi i2, vi 3, vi cp, vi 3, .val (.long q2), .second, vr a1d, vr a2d, vi 3, .unset] [(.int 1)]
    exact own_retNW hS (own_le eq20 hk0) X20 hx hlk (t := .boolean) hret (by simp) (hb hby at_186) (by decide) (by decide) (v' := (1 : Int32)) rfl (by rw [eq20]; exact ⟨rfl, N20⟩)
theorem sg_EN {p : Program} {l : Launch} {e : Env} {s : State} {m : MethodId} {args : Array Value} {below : List Frame} {meth : Method} {c : Code} {T0 : State} {locs : List Loc} {Z : State} {a0 : Array Value} {h0 : Heap} {n0 : Nat} {vm0 : Vm} {kv0 : Nat} (hx : p.tables.exec = Jvm.exec) (hby : c.code = code) (hml : c.maxLocals = 19) (hown : (s.setVm vm0).vm.findClass "com/example/cartouche/cartouche/crosswalks/DcValueEqualsPinLaw" = some m.cls) (hlk : meth.locks = false) (hret : meth.sig.returnType = some .boolean) (hZ : Z.Warmed39 (s.setVm vm0).vm) (hw : HW a0 Z) (Z0 : n0 ≤ h0.size) (hS : s.Since vm0 kv0) (hk0 : kv0 ≤ h0.size)
    (X0 : Stand p l e room_1 (s.setVm vm0) m args below meth c T0 locs 30 200) (e0 : T0.heap = h0) (N0 : Fr n0 locs) (O0 : Old Z n0 h0) (p1 : Int32) (p2 : Int32) (p3 : Int32) (qa : Int64) (qb : Int64) (p6 : Int32) (i1 : Int32) (i2 : Int32) (l1 : Int32) (cp : Int32) (l2 : Int32) (q2 : Int64) (v1 : Addr) (v2 : Addr) (a1d : Addr) (a2d : Addr) (s1 : Addr) (s2 : Addr) (t1 : Addr) (t2 : Addr) (k1a : ClassId) (k2a : ClassId) (vs1 : List Value) (vs2 : List Value) (zCS : Int32) (E_a1 : ek22 Z h0 a1d) (Fe1 : fk18 Z h0 a1d (.ref v1)) (Ft1 : fk19 Z h0 a1d (.ref s1)) (E_s1 : ek21 Z h0 s1) (F1v : fk17 Z h0 s1 (.ref t1)) (F1c : fk16 Z h0 s1 (.int 0)) (E_a2 : ek22 Z h0 a2d) (Fe2 : fk18 Z h0 a2d (.ref v2)) (Ft2 : fk19 Z h0 a2d (.ref s2)) (E_s2 : ek21 Z h0 s2) (F2v : fk17 Z h0 s2 (.ref t2)) (F2c : fk16 Z h0 s2 (.int 0)) (ne12 : s1 ≠ s2) (R_1 : Arv Z h0 t1 k1a .byte l1 vs1 (.int 0)) (R_2 : Arv Z h0 t2 k2a .byte l2 vs2 (.int 0)) (hne : ¬ (l1 = l2)) (hveq : i1 = i2 → v1 = v2) (hvne : ¬ (i1 = i2) → v1 ≠ v2) (S_CS : sk0 Z Z.heap (.int zCS)) (P_CS : ¬ zCS = 0) :
    own_G p.tables e below (own_EW s (Q_law n0) room_1.cells room_1.slots) (T0.setTop (mkF m 121 #[vi p1, vi p2, vi p3, .val (.long qa), .second, .val (.long qb), .second, vi p6, vi i1, vi i2, vi l1, vi cp, vi l2, .val (.long q2), .second, vr a1d, vr a2d, .unset, .unset] [])) := by
  show gs T0 m 121 #[vi p1, vi p2, vi p3, .val (.long qa), .second, .val (.long qb), .second, vi p6, vi i1, vi i2, vi l1, vi cp, vi l2, .val (.long q2), .second, vr a1d, vr a2d, .unset, .unset] []
  refine oiload X0 hx hby at_121 rfl ?_
  refine oiconst X0 hx hby at_123 ?_
  refine own_st (fun _ kS => XS.iand X0.here hx rfl (hb hby at_124) rfl kS) ?_
  show gs T0 m 125 #[vi p1, vi p2, vi p3, .val (.long qa), .second, .val (.long qb), .second, vi p6, vi i1, vi i2, vi l1, vi cp, vi l2, .val (.long q2), .second, vr a1d, vr a2d, .unset, .unset] [(.int (p6 &&& (3 : Int32)))]
  rcases own_and3 p6 with hk1 | hk1 | hk1 | hk1
  · rw [hk1]
    show gs T0 m 125 #[vi p1, vi p2, vi p3, .val (.long qa), .second, .val (.long qb), .second, vi p6, vi i1, vi i2, vi l1, vi cp, vi l2, .val (.long q2), .second, vr a1d, vr a2d, .unset, .unset] [(.int 0)]
    refine own_st (fun _ kS => XS.istore X0.here hx rfl (hb hby at_125) rfl (l' := #[vi p1, vi p2, vi p3, .val (.long qa), .second, .val (.long qb), .second, vi p6, vi i1, vi i2, vi l1, vi cp, vi l2, .val (.long q2), .second, vr a1d, vr a2d, vi 0, .unset]) rfl kS) ?_
    refine oiload X0 hx hby at_127 rfl ?_
    refine oiconst X0 hx hby at_129 ?_
    refine own_st (fun _ kS => XS.icmpYes X0.here hx rfl (pc0 := 130) (pc' := 148) rfl (hb hby at_130) rfl (feq (by decide : ¬ ((0 : Int32) = (1 : Int32)))).2 (by decide) (by decide) kS) ?_
    show gs T0 m 148 #[vi p1, vi p2, vi p3, .val (.long qa), .second, .val (.long qb), .second, vi p6, vi i1, vi i2, vi l1, vi cp, vi l2, .val (.long q2), .second, vr a1d, vr a2d, vi 0, .unset] []
    refine oiload X0 hx hby at_148 rfl ?_
    refine oiconst X0 hx hby at_150 ?_
    refine own_st (fun _ kS => XS.icmpYes X0.here hx rfl (pc0 := 151) (pc' := 173) rfl (hb hby at_151) rfl (feq (by decide : ¬ ((0 : Int32) = (2 : Int32)))).2 (by decide) (by decide) kS) ?_
    show gs T0 m 173 #[vi p1, vi p2, vi p3, .val (.long qa), .second, .val (.long qb), .second, vi p6, vi i1, vi i2, vi l1, vi cp, vi l2, .val (.long q2), .second, vr a1d, vr a2d, vi 0, .unset] []
    refine oiload X0 hx hby at_173 rfl ?_
    refine oiconst X0 hx hby at_175 ?_
    refine own_st (fun _ kS => XS.icmpYes X0.here hx rfl (pc0 := 176) (pc' := 187) rfl (hb hby at_176) rfl (feq (by decide : ¬ ((0 : Int32) = (3 : Int32)))).2 (by decide) (by decide) kS) ?_
    show gs T0 m 187 #[vi p1, vi p2, vi p3, .val (.long qa), .second, .val (.long qb), .second, vi p6, vi i1, vi i2, vi l1, vi cp, vi l2, .val (.long q2), .second, vr a1d, vr a2d, vi 0, .unset] []
    refine oiload X0 hx hby at_187 rfl ?_
    refine oiload X0 hx hby at_189 rfl ?_
    show gs T0 m 191 #[vi p1, vi p2, vi p3, .val (.long qa), .second, .val (.long qb), .second, vi p6, vi i1, vi i2, vi l1, vi cp, vi l2, .val (.long q2), .second, vr a1d, vr a2d, vi 0, .unset] [(.int i2), (.int i1)]
    by_cases hc191_2 : i1 = i2
    · skip
      refine own_st (fun _ kS => XS.icmpNo X0.here hx rfl (hb hby at_191) rfl (teq hc191_2).2 kS) ?_
      show gs T0 m 194 #[vi p1, vi p2, vi p3, .val (.long qa), .second, .val (.long qb), .second, vi p6, vi i1, vi i2, vi l1, vi cp, vi l2, .val (.long q2), .second, vr a1d, vr a2d, vi 0, .unset] []
      have Fe2' : fk18 Z h0 a2d (.ref v1) := by rw [hveq hc191_2]; exact Fe2
      refine oiload X0 hx hby at_194 rfl ?_
      refine own_st (fun _ kS => XT.lloadN X0.here hx rfl (hb hby at_196) rfl kS) ?_
      refine oiload X0 hx hby at_197 rfl ?_
      refine own_st (fun _ kS => XT.lload X0.here hx rfl (hb hby at_199) rfl kS) ?_
      show gs T0 m 201 #[vi p1, vi p2, vi p3, .val (.long qa), .second, .val (.long qb), .second, vi p6, vi i1, vi i2, vi l1, vi cp, vi l2, .val (.long q2), .second, vr a1d, vr a2d, vi 0, .unset] [(.long q2), (.int l2), (.long qa), (.int l1)]
      refine oS 0 X0 hx hZ hby hml hown (own_w hw 117 rfl) (own_w hw 118 rfl) (own_w hw 6 rfl) (own_w hw 119 rfl) (rm_samN l Z a0 hw [] l1 qa l2 q2 h0 n0 Z0  hne) e0 (by decide) own_pd9 at_201 rfl rfl rfl (fun T3 L3 v3 X3 hQ3 => ?_)
      obtain ⟨rfl, Nq3, eq3⟩ := hQ3
      have N3 := Fr.app N0 Nq3
      show gs T3 m 204 #[vi p1, vi p2, vi p3, .val (.long qa), .second, .val (.long qb), .second, vi p6, vi i1, vi i2, vi l1, vi cp, vi l2, .val (.long q2), .second, vr a1d, vr a2d, vi 0, .unset] [(.int 0)]
      refine own_st (fun _ kS => XS.ifYes X3.here hx rfl (pc0 := 204) (pc' := 211) rfl (hb hby at_204) rfl ((if0 _ _).trans (teq (by decide : (0 : Int32) = (0 : Int32))).1) (by decide) (by decide) kS) ?_
      show gs T3 m 211 #[vi p1, vi p2, vi p3, .val (.long qa), .second, .val (.long qb), .second, vi p6, vi i1, vi i2, vi l1, vi cp, vi l2, .val (.long q2), .second, vr a1d, vr a2d, vi 0, .unset] []
      refine oiconst X3 hx hby at_211 ?_
      refine own_st (fun _ kS => XS.istore X3.here hx rfl (hb hby at_212) rfl (l' := #[vi p1, vi p2, vi p3, .val (.long qa), .second, .val (.long qb), .second, vi p6, vi i1, vi i2, vi l1, vi cp, vi l2, .val (.long q2), .second, vr a1d, vr a2d, vi 0, vi 0]) rfl kS) ?_
      refine oaload X3 hx hby at_214 rfl rfl ?_
      refine oaload X3 hx hby at_216 rfl rfl ?_
      refine oV 0 X3 hx hZ hby hml hown (own_w hw 98 rfl) (own_w hw 99 rfl) (own_w hw 101 rfl) (own_w hw 100 rfl) (rm_dcN l Z a0 hw [] a1d a2d v1 s1 s2 t1 t2 k1a k2a l1 l2 vs1 vs2 zCS h0 n0 Z0 O0 E_a1 E_a2 Fe1 Ft1 Fe2' Ft2 ne12 E_s1 E_s2 F1v F2v F1c F2c R_1 R_2 hne S_CS P_CS) (own_w hw 102 rfl) (own_w hw 3 rfl) eq3 E_a1 (by decide) own_pd8 at_218 rfl rfl rfl (fun T4 L4 v4 X4 hQ4 => ?_)
      obtain ⟨rfl, Nq4, eq4⟩ := hQ4
      have N4 := Fr.app N3 Nq4
      show gs T4 m 221 #[vi p1, vi p2, vi p3, .val (.long qa), .second, .val (.long qb), .second, vi p6, vi i1, vi i2, vi l1, vi cp, vi l2, .val (.long q2), .second, vr a1d, vr a2d, vi 0, vi 0] [(.int 0)]
      refine oiload X4 hx hby at_221 rfl ?_
      refine own_st (fun _ kS => XS.icmpNo X4.here hx rfl (hb hby at_223) rfl (teq (by decide : (0 : Int32) = (0 : Int32))).2 kS) ?_
      show gs T4 m 226 #[vi p1, vi p2, vi p3, .val (.long qa), .second, .val (.long qb), .second, vi p6, vi i1, vi i2, vi l1, vi cp, vi l2, .val (.long q2), .second, vr a1d, vr a2d, vi 0, vi 0] []
      refine oaload X4 hx hby at_226 rfl rfl ?_
      refine oaload X4 hx hby at_228 rfl rfl ?_
      refine oV 0 X4 hx hZ hby hml hown (own_w hw 98 rfl) (own_w hw 99 rfl) (own_w hw 101 rfl) (own_w hw 100 rfl) (rm_dcN l Z a0 hw [] a2d a1d v1 s2 s1 t2 t1 k2a k1a l2 l1 vs2 vs1 zCS h0 n0 Z0 O0 E_a2 E_a1 Fe2' Ft2 Fe1 Ft1 (Ne.symm ne12) E_s2 E_s1 F2v F1v F2c F1c R_2 R_1 (fun e => hne e.symm) S_CS P_CS) (own_w hw 102 rfl) (own_w hw 3 rfl) eq4 E_a2 (by decide) own_pd8 at_230 rfl rfl rfl (fun T5 L5 v5 X5 hQ5 => ?_)
      obtain ⟨rfl, Nq5, eq5⟩ := hQ5
      have N5 := Fr.app N4 Nq5
      show gs T5 m 233 #[vi p1, vi p2, vi p3, .val (.long qa), .second, .val (.long qb), .second, vi p6, vi i1, vi i2, vi l1, vi cp, vi l2, .val (.long q2), .second, vr a1d, vr a2d, vi 0, vi 0] [(.int 0)]
      refine oiload X5 hx hby at_233 rfl ?_
      refine own_st (fun _ kS => XS.icmpNo X5.here hx rfl (hb hby at_235) rfl (teq (by decide : (0 : Int32) = (0 : Int32))).2 kS) ?_
      show gs T5 m 238 #[vi p1, vi p2, vi p3, .val (.long qa), .second, .val (.long qb), .second, vi p6, vi i1, vi i2, vi l1, vi cp, vi l2, .val (.long q2), .second, vr a1d, vr a2d, vi 0, vi 0] []
      refine oiconst X5 hx hby at_238 ?_
      refine own_st (fun _ kS => XS.goto X5.here hx rfl (pc0 := 239) (pc' := 243) rfl (hb hby at_239) (by decide) (by decide) kS) ?_
      show gs T5 m 243 #[vi p1, vi p2, vi p3, .val (.long qa), .second, .val (.long qb), .second, vi p6, vi i1, vi i2, vi l1, vi cp, vi l2, .val (.long q2), .second, vr a1d, vr a2d, vi 0, vi 0] [(.int 1)]
      exact own_retNW hS (own_le eq5 hk0) X5 hx hlk (t := .boolean) hret (by simp) (hb hby at_243) (by decide) (by decide) (v' := (1 : Int32)) rfl (by rw [eq5]; exact ⟨rfl, N5⟩)
    · skip
      refine own_st (fun _ kS => XS.icmpYes X0.here hx rfl (pc0 := 191) (pc' := 211) rfl (hb hby at_191) rfl (feq hc191_2).2 (by decide) (by decide) kS) ?_
      show gs T0 m 211 #[vi p1, vi p2, vi p3, .val (.long qa), .second, .val (.long qb), .second, vi p6, vi i1, vi i2, vi l1, vi cp, vi l2, .val (.long q2), .second, vr a1d, vr a2d, vi 0, .unset] []
      refine oiconst X0 hx hby at_211 ?_
      refine own_st (fun _ kS => XS.istore X0.here hx rfl (hb hby at_212) rfl (l' := #[vi p1, vi p2, vi p3, .val (.long qa), .second, .val (.long qb), .second, vi p6, vi i1, vi i2, vi l1, vi cp, vi l2, .val (.long q2), .second, vr a1d, vr a2d, vi 0, vi 0]) rfl kS) ?_
      refine oaload X0 hx hby at_214 rfl rfl ?_
      refine oaload X0 hx hby at_216 rfl rfl ?_
      refine oV 0 X0 hx hZ hby hml hown (own_w hw 98 rfl) (own_w hw 99 rfl) (own_w hw 101 rfl) (own_w hw 100 rfl) (rm_dcEl l Z a0 hw [] a1d a2d v1 v2 h0 n0 Z0  E_a1 E_a2 Fe1 Fe2 (hvne hc191_2)) (own_w hw 102 rfl) (own_w hw 3 rfl) e0 E_a1 (by decide) own_pd8 at_218 rfl rfl rfl (fun T6 L6 v6 X6 hQ6 => ?_)
      obtain ⟨rfl, Nq6, eq6⟩ := hQ6
      have N6 := Fr.app N0 Nq6
      show gs T6 m 221 #[vi p1, vi p2, vi p3, .val (.long qa), .second, .val (.long qb), .second, vi p6, vi i1, vi i2, vi l1, vi cp, vi l2, .val (.long q2), .second, vr a1d, vr a2d, vi 0, vi 0] [(.int 0)]
      refine oiload X6 hx hby at_221 rfl ?_
      refine own_st (fun _ kS => XS.icmpNo X6.here hx rfl (hb hby at_223) rfl (teq (by decide : (0 : Int32) = (0 : Int32))).2 kS) ?_
      show gs T6 m 226 #[vi p1, vi p2, vi p3, .val (.long qa), .second, .val (.long qb), .second, vi p6, vi i1, vi i2, vi l1, vi cp, vi l2, .val (.long q2), .second, vr a1d, vr a2d, vi 0, vi 0] []
      refine oaload X6 hx hby at_226 rfl rfl ?_
      refine oaload X6 hx hby at_228 rfl rfl ?_
      refine oV 0 X6 hx hZ hby hml hown (own_w hw 98 rfl) (own_w hw 99 rfl) (own_w hw 101 rfl) (own_w hw 100 rfl) (rm_dcEl l Z a0 hw [] a2d a1d v2 v1 h0 n0 Z0  E_a2 E_a1 Fe2 Fe1 (Ne.symm (hvne hc191_2))) (own_w hw 102 rfl) (own_w hw 3 rfl) eq6 E_a2 (by decide) own_pd8 at_230 rfl rfl rfl (fun T7 L7 v7 X7 hQ7 => ?_)
      obtain ⟨rfl, Nq7, eq7⟩ := hQ7
      have N7 := Fr.app N6 Nq7
      show gs T7 m 233 #[vi p1, vi p2, vi p3, .val (.long qa), .second, .val (.long qb), .second, vi p6, vi i1, vi i2, vi l1, vi cp, vi l2, .val (.long q2), .second, vr a1d, vr a2d, vi 0, vi 0] [(.int 0)]
      refine oiload X7 hx hby at_233 rfl ?_
      refine own_st (fun _ kS => XS.icmpNo X7.here hx rfl (hb hby at_235) rfl (teq (by decide : (0 : Int32) = (0 : Int32))).2 kS) ?_
      show gs T7 m 238 #[vi p1, vi p2, vi p3, .val (.long qa), .second, .val (.long qb), .second, vi p6, vi i1, vi i2, vi l1, vi cp, vi l2, .val (.long q2), .second, vr a1d, vr a2d, vi 0, vi 0] []
      refine oiconst X7 hx hby at_238 ?_
      refine own_st (fun _ kS => XS.goto X7.here hx rfl (pc0 := 239) (pc' := 243) rfl (hb hby at_239) (by decide) (by decide) kS) ?_
      show gs T7 m 243 #[vi p1, vi p2, vi p3, .val (.long qa), .second, .val (.long qb), .second, vi p6, vi i1, vi i2, vi l1, vi cp, vi l2, .val (.long q2), .second, vr a1d, vr a2d, vi 0, vi 0] [(.int 1)]
      exact own_retNW hS (own_le eq7 hk0) X7 hx hlk (t := .boolean) hret (by simp) (hb hby at_243) (by decide) (by decide) (v' := (1 : Int32)) rfl (by rw [eq7]; exact ⟨rfl, N7⟩)
  · rw [hk1]
    show gs T0 m 125 #[vi p1, vi p2, vi p3, .val (.long qa), .second, .val (.long qb), .second, vi p6, vi i1, vi i2, vi l1, vi cp, vi l2, .val (.long q2), .second, vr a1d, vr a2d, .unset, .unset] [(.int 1)]
    refine own_st (fun _ kS => XS.istore X0.here hx rfl (hb hby at_125) rfl (l' := #[vi p1, vi p2, vi p3, .val (.long qa), .second, .val (.long qb), .second, vi p6, vi i1, vi i2, vi l1, vi cp, vi l2, .val (.long q2), .second, vr a1d, vr a2d, vi 1, .unset]) rfl kS) ?_
    refine oiload X0 hx hby at_127 rfl ?_
    refine oiconst X0 hx hby at_129 ?_
    refine own_st (fun _ kS => XS.icmpNo X0.here hx rfl (hb hby at_130) rfl (teq (by decide : (1 : Int32) = (1 : Int32))).2 kS) ?_
    show gs T0 m 133 #[vi p1, vi p2, vi p3, .val (.long qa), .second, .val (.long qb), .second, vi p6, vi i1, vi i2, vi l1, vi cp, vi l2, .val (.long q2), .second, vr a1d, vr a2d, vi 1, .unset] []
    refine oaload X0 hx hby at_133 rfl rfl ?_
    refine own_st (fun _ kS => XS.aconstNull X0.here hx rfl (hb hby at_135) kS) ?_
    show gs T0 m 136 #[vi p1, vi p2, vi p3, .val (.long qa), .second, .val (.long qb), .second, vi p6, vi i1, vi i2, vi l1, vi cp, vi l2, .val (.long q2), .second, vr a1d, vr a2d, vi 1, .unset] [.null, (.ref a1d)]
    refine oV 0 X0 hx hZ hby hml hown (own_w hw 98 rfl) (own_w hw 99 rfl) (own_w hw 101 rfl) (own_w hw 100 rfl) (rm_dcNu l Z a0 hw [] a1d h0 n0 Z0  ) (own_w hw 102 rfl) (own_w hw 3 rfl) e0 E_a1 (by decide) own_pd8 at_136 rfl rfl rfl (fun T8 L8 v8 X8 hQ8 => ?_)
    obtain ⟨rfl, Nq8, eq8⟩ := hQ8
    have N8 := Fr.app N0 Nq8
    show gs T8 m 139 #[vi p1, vi p2, vi p3, .val (.long qa), .second, .val (.long qb), .second, vi p6, vi i1, vi i2, vi l1, vi cp, vi l2, .val (.long q2), .second, vr a1d, vr a2d, vi 1, .unset] [(.int 0)]
    refine own_st (fun _ kS => XS.ifNo X8.here hx rfl (hb hby at_139) rfl ((if0 _ _).trans (teq (by decide : (0 : Int32) = (0 : Int32))).2) kS) ?_
    show gs T8 m 142 #[vi p1, vi p2, vi p3, .val (.long qa), .second, .val (.long qb), .second, vi p6, vi i1, vi i2, vi l1, vi cp, vi l2, .val (.long q2), .second, vr a1d, vr a2d, vi 1, .unset] []
    refine oiconst X8 hx hby at_142 ?_
    refine own_st (fun _ kS => XS.goto X8.here hx rfl (pc0 := 143) (pc' := 147) rfl (hb hby at_143) (by decide) (by decide) kS) ?_
    show gs T8 m 147 #[vi p1, vi p2, vi p3, .val (.long qa), .second, .val (.long qb), .second, vi p6, vi i1, vi i2, vi l1, vi cp, vi l2, .val (.long q2), .second, vr a1d, vr a2d, vi 1, .unset] [(.int 1)]
    exact own_retNW hS (own_le eq8 hk0) X8 hx hlk (t := .boolean) hret (by simp) (hb hby at_147) (by decide) (by decide) (v' := (1 : Int32)) rfl (by rw [eq8]; exact ⟨rfl, N8⟩)
  · rw [hk1]
    show gs T0 m 125 #[vi p1, vi p2, vi p3, .val (.long qa), .second, .val (.long qb), .second, vi p6, vi i1, vi i2, vi l1, vi cp, vi l2, .val (.long q2), .second, vr a1d, vr a2d, .unset, .unset] [(.int 2)]
    refine own_st (fun _ kS => XS.istore X0.here hx rfl (hb hby at_125) rfl (l' := #[vi p1, vi p2, vi p3, .val (.long qa), .second, .val (.long qb), .second, vi p6, vi i1, vi i2, vi l1, vi cp, vi l2, .val (.long q2), .second, vr a1d, vr a2d, vi 2, .unset]) rfl kS) ?_
    refine oiload X0 hx hby at_127 rfl ?_
    refine oiconst X0 hx hby at_129 ?_
    refine own_st (fun _ kS => XS.icmpYes X0.here hx rfl (pc0 := 130) (pc' := 148) rfl (hb hby at_130) rfl (feq (by decide : ¬ ((2 : Int32) = (1 : Int32)))).2 (by decide) (by decide) kS) ?_
    show gs T0 m 148 #[vi p1, vi p2, vi p3, .val (.long qa), .second, .val (.long qb), .second, vi p6, vi i1, vi i2, vi l1, vi cp, vi l2, .val (.long q2), .second, vr a1d, vr a2d, vi 2, .unset] []
    refine oiload X0 hx hby at_148 rfl ?_
    refine oiconst X0 hx hby at_150 ?_
    refine own_st (fun _ kS => XS.icmpNo X0.here hx rfl (hb hby at_151) rfl (teq (by decide : (2 : Int32) = (2 : Int32))).2 kS) ?_
    show gs T0 m 154 #[vi p1, vi p2, vi p3, .val (.long qa), .second, .val (.long qb), .second, vi p6, vi i1, vi i2, vi l1, vi cp, vi l2, .val (.long q2), .second, vr a1d, vr a2d, vi 2, .unset] []
    refine oaload X0 hx hby at_154 rfl rfl ?_
    refine oaload X0 hx hby at_156 rfl rfl ?_
    refine oV 1 X0 hx hZ hby hml hown (own_w hw 110 rfl) (own_w hw 111 rfl) (own_w hw 113 rfl) (own_w hw 112 rfl) (rm_dcText l Z a0 hw [] a1d s1 h0 n0 Z0  Ft1) (own_w hw 114 rfl) (own_w hw 3 rfl) e0 E_a1 (by decide) own_pd10 at_158 rfl rfl rfl (fun T9 L9 v9 X9 hQ9 => ?_)
    obtain ⟨rfl, Nq9, eq9⟩ := hQ9
    have N9 := Fr.app N0 Nq9
    show gs T9 m 161 #[vi p1, vi p2, vi p3, .val (.long qa), .second, .val (.long qb), .second, vi p6, vi i1, vi i2, vi l1, vi cp, vi l2, .val (.long q2), .second, vr a1d, vr a2d, vi 2, .unset] [(.ref s1), (.ref a1d)]
    refine oV 0 X9 hx hZ hby hml hown (own_w hw 98 rfl) (own_w hw 99 rfl) (own_w hw 101 rfl) (own_w hw 100 rfl) (rm_dcTx l Z a0 hw [] a1d s1 h0 n0 Z0  E_s1) (own_w hw 102 rfl) (own_w hw 3 rfl) eq9 E_a1 (by decide) own_pd8 at_161 rfl rfl rfl (fun T10 L10 v10 X10 hQ10 => ?_)
    obtain ⟨rfl, Nq10, eq10⟩ := hQ10
    have N10 := Fr.app N9 Nq10
    show gs T10 m 164 #[vi p1, vi p2, vi p3, .val (.long qa), .second, .val (.long qb), .second, vi p6, vi i1, vi i2, vi l1, vi cp, vi l2, .val (.long q2), .second, vr a1d, vr a2d, vi 2, .unset] [(.int 0)]
    refine own_st (fun _ kS => XS.ifNo X10.here hx rfl (hb hby at_164) rfl ((if0 _ _).trans (teq (by decide : (0 : Int32) = (0 : Int32))).2) kS) ?_
    show gs T10 m 167 #[vi p1, vi p2, vi p3, .val (.long qa), .second, .val (.long qb), .second, vi p6, vi i1, vi i2, vi l1, vi cp, vi l2, .val (.long q2), .second, vr a1d, vr a2d, vi 2, .unset] []
    refine oiconst X10 hx hby at_167 ?_
    refine own_st (fun _ kS => XS.goto X10.here hx rfl (pc0 := 168) (pc' := 172) rfl (hb hby at_168) (by decide) (by decide) kS) ?_
    show gs T10 m 172 #[vi p1, vi p2, vi p3, .val (.long qa), .second, .val (.long qb), .second, vi p6, vi i1, vi i2, vi l1, vi cp, vi l2, .val (.long q2), .second, vr a1d, vr a2d, vi 2, .unset] [(.int 1)]
    exact own_retNW hS (own_le eq10 hk0) X10 hx hlk (t := .boolean) hret (by simp) (hb hby at_172) (by decide) (by decide) (v' := (1 : Int32)) rfl (by rw [eq10]; exact ⟨rfl, N10⟩)
  · rw [hk1]
    show gs T0 m 125 #[vi p1, vi p2, vi p3, .val (.long qa), .second, .val (.long qb), .second, vi p6, vi i1, vi i2, vi l1, vi cp, vi l2, .val (.long q2), .second, vr a1d, vr a2d, .unset, .unset] [(.int 3)]
    refine own_st (fun _ kS => XS.istore X0.here hx rfl (hb hby at_125) rfl (l' := #[vi p1, vi p2, vi p3, .val (.long qa), .second, .val (.long qb), .second, vi p6, vi i1, vi i2, vi l1, vi cp, vi l2, .val (.long q2), .second, vr a1d, vr a2d, vi 3, .unset]) rfl kS) ?_
    refine oiload X0 hx hby at_127 rfl ?_
    refine oiconst X0 hx hby at_129 ?_
    refine own_st (fun _ kS => XS.icmpYes X0.here hx rfl (pc0 := 130) (pc' := 148) rfl (hb hby at_130) rfl (feq (by decide : ¬ ((3 : Int32) = (1 : Int32)))).2 (by decide) (by decide) kS) ?_
    show gs T0 m 148 #[vi p1, vi p2, vi p3, .val (.long qa), .second, .val (.long qb), .second, vi p6, vi i1, vi i2, vi l1, vi cp, vi l2, .val (.long q2), .second, vr a1d, vr a2d, vi 3, .unset] []
    refine oiload X0 hx hby at_148 rfl ?_
    refine oiconst X0 hx hby at_150 ?_
    refine own_st (fun _ kS => XS.icmpYes X0.here hx rfl (pc0 := 151) (pc' := 173) rfl (hb hby at_151) rfl (feq (by decide : ¬ ((3 : Int32) = (2 : Int32)))).2 (by decide) (by decide) kS) ?_
    show gs T0 m 173 #[vi p1, vi p2, vi p3, .val (.long qa), .second, .val (.long qb), .second, vi p6, vi i1, vi i2, vi l1, vi cp, vi l2, .val (.long q2), .second, vr a1d, vr a2d, vi 3, .unset] []
    refine oiload X0 hx hby at_173 rfl ?_
    refine oiconst X0 hx hby at_175 ?_
    refine own_st (fun _ kS => XS.icmpNo X0.here hx rfl (hb hby at_176) rfl (teq (by decide : (3 : Int32) = (3 : Int32))).2 kS) ?_
    show gs T0 m 179 #[vi p1, vi p2, vi p3, .val (.long qa), .second, .val (.long qb), .second, vi p6, vi i1, vi i2, vi l1, vi cp, vi l2, .val (.long q2), .second, vr a1d, vr a2d, vi 3, .unset] []
    refine oaload X0 hx hby at_179 rfl rfl ?_
    refine oaload X0 hx hby at_181 rfl rfl ?_
    refine oV 0 X0 hx hZ hby hml hown (own_w hw 98 rfl) (own_w hw 99 rfl) (own_w hw 101 rfl) (own_w hw 100 rfl) (rm_dcS l Z a0 hw [] a1d v1 s1 h0 n0 Z0  E_a1 E_s1 Fe1 Ft1) (own_w hw 102 rfl) (own_w hw 3 rfl) e0 E_a1 (by decide) own_pd8 at_183 rfl rfl rfl (fun T11 L11 v11 X11 hQ11 => ?_)
    obtain ⟨rfl, Nq11, eq11⟩ := hQ11
    have N11 := Fr.app N0 Nq11
    show gs T11 m 186 #[vi p1, vi p2, vi p3, .val (.long qa), .second, .val (.long qb), .second, vi p6, vi i1, vi i2, vi l1, vi cp, vi l2, .val (.long q2), .second, vr a1d, vr a2d, vi 3, .unset] [(.int 1)]
    exact own_retNW hS (own_le eq11 hk0) X11 hx hlk (t := .boolean) hret (by simp) (hb hby at_186) (by decide) (by decide) (v' := (1 : Int32)) rfl (by rw [eq11]; exact ⟨rfl, N11⟩)
theorem own_pd11 : parseMethodDescriptor "(I)Lcom/example/cartouche/cartouche/crosswalks/DcElement;" = some ⟨[.int], some (.object "com/example/cartouche/cartouche/crosswalks/DcElement")⟩ := by decide +kernel
theorem own_pd12 : parseMethodDescriptor "(IJ)Ljava/lang/String;" = some ⟨[.int, .long], some (.object "java/lang/String")⟩ := by decide +kernel
theorem own_pd13 : parseMethodDescriptor "(Lcom/example/cartouche/cartouche/crosswalks/DcElement;Ljava/lang/String;)V" = some ⟨[(.object "com/example/cartouche/cartouche/crosswalks/DcElement"), (.object "java/lang/String")], none⟩ := by decide +kernel
theorem sg_B0 {p : Program} {l : Launch} {e : Env} {s : State} {m : MethodId} {args : Array Value} {below : List Frame} {meth : Method} {c : Code} {T0 : State} {locs : List Loc} {Z : State} {a0 : Array Value} {h0 : Heap} {n0 : Nat} {vm0 : Vm} {kv0 : Nat} (hx : p.tables.exec = Jvm.exec) (hby : c.code = code) (hml : c.maxLocals = 19) (hown : (s.setVm vm0).vm.findClass "com/example/cartouche/cartouche/crosswalks/DcValueEqualsPinLaw" = some m.cls) (hlk : meth.locks = false) (hret : meth.sig.returnType = some .boolean) (hZ : Z.Warmed39 (s.setVm vm0).vm) (hw : HW a0 Z) (Z0 : n0 ≤ h0.size) (hS : s.Since vm0 kv0) (hk0 : kv0 ≤ h0.size)
    (X0 : Stand p l e room_1 (s.setVm vm0) m args below meth c T0 locs 14 100) (e0 : T0.heap = h0) (N0 : Fr n0 locs) (O0 : Old Z n0 h0) (p1 : Int32) (p2 : Int32) (p3 : Int32) (qa : Int64) (qb : Int64) (p6 : Int32) (i1 : Int32) (i2 : Int32) (cp : Int32) (l2 : Int32) (q2 : Int64) (v1 : Addr) (v2 : Addr) (a1d : Addr) (s1 : Addr) (t1 : Addr) (k1a : ClassId) (w_TITLE : Addr) (w_CREATOR : Addr) (w_SUBJECT : Addr) (w_DESCRIPTION : Addr) (w_PUBLISHER : Addr) (w_CONTRIBUTOR : Addr) (w_DATE : Addr) (w_TYPE : Addr) (w_FORMAT : Addr) (w_IDENTIFIER : Addr) (w_SOURCE : Addr) (w_LANGUAGE : Addr) (w_RELATION : Addr) (w_COVERAGE : Addr) (w_RIGHTS : Addr) (zCS : Int32) (E_a1 : ek22 Z h0 a1d) (Fe1 : fk18 Z h0 a1d (.ref v1)) (Ft1 : fk19 Z h0 a1d (.ref s1)) (E_s1 : ek21 Z h0 s1) (F1v : fk17 Z h0 s1 (.ref t1)) (F1c : fk16 Z h0 s1 (.int 0)) (g_a1 : n0 ≤ a1d) (R_1 : Arv Z h0 t1 k1a .byte (0 : Int32) [] (.int 0)) (hveq : i1 = i2 → v1 = v2) (hvne : ¬ (i1 = i2) → v1 ≠ v2) (S_TITLE : sk1 Z Z.heap (.ref w_TITLE)) (S_CREATOR : sk2 Z Z.heap (.ref w_CREATOR)) (S_SUBJECT : sk3 Z Z.heap (.ref w_SUBJECT)) (S_DESCRIPTION : sk4 Z Z.heap (.ref w_DESCRIPTION)) (S_PUBLISHER : sk5 Z Z.heap (.ref w_PUBLISHER)) (S_CONTRIBUTOR : sk6 Z Z.heap (.ref w_CONTRIBUTOR)) (S_DATE : sk7 Z Z.heap (.ref w_DATE)) (S_TYPE : sk8 Z Z.heap (.ref w_TYPE)) (S_FORMAT : sk9 Z Z.heap (.ref w_FORMAT)) (S_IDENTIFIER : sk10 Z Z.heap (.ref w_IDENTIFIER)) (S_SOURCE : sk11 Z Z.heap (.ref w_SOURCE)) (S_LANGUAGE : sk12 Z Z.heap (.ref w_LANGUAGE)) (S_RELATION : sk13 Z Z.heap (.ref w_RELATION)) (S_COVERAGE : sk14 Z Z.heap (.ref w_COVERAGE)) (S_RIGHTS : sk15 Z Z.heap (.ref w_RIGHTS)) (E_TITLE : ek23 Z Z.heap w_TITLE) (E_CREATOR : ek23 Z Z.heap w_CREATOR) (E_SUBJECT : ek23 Z Z.heap w_SUBJECT) (E_DESCRIPTION : ek23 Z Z.heap w_DESCRIPTION) (E_PUBLISHER : ek23 Z Z.heap w_PUBLISHER) (E_CONTRIBUTOR : ek23 Z Z.heap w_CONTRIBUTOR) (E_DATE : ek23 Z Z.heap w_DATE) (E_TYPE : ek23 Z Z.heap w_TYPE) (E_FORMAT : ek23 Z Z.heap w_FORMAT) (E_IDENTIFIER : ek23 Z Z.heap w_IDENTIFIER) (E_SOURCE : ek23 Z Z.heap w_SOURCE) (E_LANGUAGE : ek23 Z Z.heap w_LANGUAGE) (E_RELATION : ek23 Z Z.heap w_RELATION) (E_COVERAGE : ek23 Z Z.heap w_COVERAGE) (E_RIGHTS : ek23 Z Z.heap w_RIGHTS) (hE2 : own_el i2 v2 w_TITLE w_CREATOR w_SUBJECT w_DESCRIPTION w_PUBLISHER w_CONTRIBUTOR w_DATE w_TYPE w_FORMAT w_IDENTIFIER w_SOURCE w_LANGUAGE w_RELATION w_COVERAGE w_RIGHTS) (E_v2 : ek23 Z Z.heap v2) (hL2 : l2 = (0 : Int32) ∨ l2 = (1 : Int32) ∨ l2 = (2 : Int32) ∨ l2 = (3 : Int32)) (S_CS : sk0 Z Z.heap (.int zCS)) (P_CS : ¬ zCS = 0) (hCH : CHv Z EL0 vm0 h0) :
    own_G p.tables e below (own_EW s (Q_law n0) room_1.cells room_1.slots) (T0.setTop (mkF m 100 #[vi p1, vi p2, vi p3, .val (.long qa), .second, .val (.long qb), .second, vi p6, vi i1, vi i2, vi 0, vi cp, vi l2, .val (.long q2), .second, vr a1d, .unset, .unset, .unset] [])) := by
  have hEL : EW Z a0 EL0 := own_ELw hw
  show gs T0 m 100 #[vi p1, vi p2, vi p3, .val (.long qa), .second, .val (.long qb), .second, vi p6, vi i1, vi i2, vi 0, vi cp, vi l2, .val (.long q2), .second, vr a1d, .unset, .unset, .unset] []
  obtain ⟨T1, h1, X1, e1, E1, A1, D1, -, st1⟩ := newO X0 hx hZ hown (own_w hw 1 rfl) (own_w hw 2 rfl) (own_w hw 3 rfl) e0 (g := (mkF m 100 #[vi p1, vi p2, vi p3, .val (.long qa), .second, .val (.long qb), .second, vi p6, vi i1, vi i2, vi 0, vi cp, vi l2, .val (.long q2), .second, vr a1d, .unset, .unset, .unset] [])) rfl (hb hby at_100) (by decide) (by decide)
  obtain ⟨b1, g1⟩ : ∃ z, z = h0.size := ⟨_, rfl⟩
  have ne_a1d_b1 : a1d ≠ b1 := Nat.ne_of_lt (Nat.lt_of_lt_of_eq E_a1.lt g1.symm)
  have ne_s1_b1 : s1 ≠ b1 := Nat.ne_of_lt (Nat.lt_of_lt_of_eq E_s1.lt g1.symm)
  have ne_t1_b1 : t1 ≠ b1 := Nat.ne_of_lt (Nat.lt_of_lt_of_eq R_1.lt g1.symm)
  have ge_b1 : n0 ≤ b1 := Nat.le_trans Z0 (Nat.le_of_eq g1.symm)
  rw [← g1] at A1 D1 st1
  have CH1 := CHv.ext E1 hCH
  have O1 := O0.ext E1
  have F1_element : fk18 Z h1 b1 .null := D1 (Or.inr (own_w hw 92 rfl)) (ty := (.object "com/example/cartouche/cartouche/crosswalks/DcElement")) (by decide)
  have F1_text : fk19 Z h1 b1 .null := D1 (Or.inr (own_w hw 96 rfl)) (ty := (.object "java/lang/String")) (by decide)
  refine own_st st1 ?_
  show gs T1 m 103 #[vi p1, vi p2, vi p3, .val (.long qa), .second, .val (.long qb), .second, vi p6, vi i1, vi i2, vi 0, vi cp, vi l2, .val (.long q2), .second, vr a1d, .unset, .unset, .unset] [(.ref b1)]
  refine own_st (fun _ kS => XS.dup X1.here hx rfl (hb hby at_103) rfl rfl kS) ?_
  refine oiload X1 hx hby at_104 rfl ?_
  refine oS 2 X1 hx hZ hby hml hown (own_w hw 4 rfl) (own_w hw 5 rfl) (own_w hw 6 rfl) (own_w hw 7 rfl) (rm_el l Z a0 hw [] i2 v2 w_TITLE w_CREATOR w_SUBJECT w_DESCRIPTION w_PUBLISHER w_CONTRIBUTOR w_DATE w_TYPE w_FORMAT w_IDENTIFIER w_SOURCE w_LANGUAGE w_RELATION w_COVERAGE w_RIGHTS h1 n0 (Nat.le_trans Z0 E1.1) O1 S_TITLE S_CREATOR S_SUBJECT S_DESCRIPTION S_PUBLISHER S_CONTRIBUTOR S_DATE S_TYPE S_FORMAT S_IDENTIFIER S_SOURCE S_LANGUAGE S_RELATION S_COVERAGE S_RIGHTS E_TITLE E_CREATOR E_SUBJECT E_DESCRIPTION E_PUBLISHER E_CONTRIBUTOR E_DATE E_TYPE E_FORMAT E_IDENTIFIER E_SOURCE E_LANGUAGE E_RELATION E_COVERAGE E_RIGHTS hE2) e1 (by decide) own_pd11 at_106 rfl rfl rfl (fun T2 L2 v2 X2 hQ2 => ?_)
  obtain ⟨rfl, Nq2, Kc2⟩ := hQ2
  have N2 := Fr.app N0 Nq2
  have O2 := O1.keep Kc2 all0
  have CH2 := CHv.keep Kc2 sf0 CH1
  show gs T2 m 109 #[vi p1, vi p2, vi p3, .val (.long qa), .second, .val (.long qb), .second, vi p6, vi i1, vi i2, vi 0, vi cp, vi l2, .val (.long q2), .second, vr a1d, .unset, .unset, .unset] [(.ref v2), (.ref b1), (.ref b1)]
  rcases hL2 with hk3 | hk3 | hk3 | hk3
  · rw [hk3]
    show gs T2 m 109 #[vi p1, vi p2, vi p3, .val (.long qa), .second, .val (.long qb), .second, vi p6, vi i1, vi i2, vi 0, vi cp, vi 0, .val (.long q2), .second, vr a1d, .unset, .unset, .unset] [(.ref v2), (.ref b1), (.ref b1)]
    refine oiload X2 hx hby at_109 rfl ?_
    refine own_st (fun _ kS => XT.lload X2.here hx rfl (hb hby at_111) rfl kS) ?_
    show gs T2 m 113 #[vi p1, vi p2, vi p3, .val (.long qa), .second, .val (.long qb), .second, vi p6, vi i1, vi i2, vi 0, vi cp, vi 0, .val (.long q2), .second, vr a1d, .unset, .unset, .unset] [(.long q2), (.int 0), (.ref v2), (.ref b1), (.ref b1)]
    obtain ⟨_, _, ⟨T4, L4, k4, n4⟩, -, X4, sv4, sg4, ⟨Lc4, hQ4, l4, y4, z4, cr4⟩, st4⟩ := callSS X2 hx (y := (⟨"com/example/cartouche/cartouche/crosswalks/DcValueEqualsPinLaw", "make", "(IJ)Ljava/lang/String;"⟩ : MethodName)) hown (mvT hZ (own_w hw 42 rfl)) (mvT hZ (own_w hw 43 rfl)) (mvT hZ (own_w hw 6 rfl)) (mvT hZ (own_w hw 44 rfl)) (by decide) (backOfSH (W := 3) (rm_make0 l Z a0 hw [] q2 T2.heap n0 (Nat.le_trans (Nat.le_trans Z0 E1.1) Kc2.1)  ) hZ (own_w hw 44 rfl) (own_w hw 6 rfl) (by decide) (by decide) hEL CH2) (g := (mkF m 113 #[vi p1, vi p2, vi p3, .val (.long qa), .second, .val (.long qb), .second, vi p6, vi i1, vi i2, vi 0, vi cp, vi 0, .val (.long q2), .second, vr a1d, .unset, .unset, .unset] [(.long q2), (.int 0), (.ref v2), (.ref b1), (.ref b1)])) rfl (by rw [hml]; rfl) (argsL := [(.int 0), (.long q2)]) (rest := [(.ref v2), (.ref b1), (.ref b1)]) (lenOf own_pd12 rfl) rfl (by show 2 * 0 + _ ≤ _; exact Nat.le_of_eq rfl) (hb hby at_113) (fun _ _ => ⟨rfl, rfl, (by decide : 16 + 4 ≤ _), (by decide : 117 + 8 ≤ _)⟩)
    dsimp only [Pt.U, Pt.locs, Pt.cells, Pt.slots] at X4 l4 y4 z4 st4 hQ4 sv4 sg4 cr4
    subst l4 y4 z4
    obtain ⟨X4, hS, hZ, hown⟩ := rebS hS (Nat.le_trans (Nat.le_trans hk0 E1.1) Kc2.1) X4 sv4 sg4 hZ hown
    obtain ⟨bS_4, tN_4, kN_4, rfl, Nq4, Kc4, P4_0, P4_1, P4_2, P4_3, P4_4⟩ := hQ4
    have N4 := Fr.app N2 Nq4
    have ne_a1d_bS_4 : a1d ≠ bS_4 := Nat.ne_of_lt (Nat.lt_of_lt_of_le ((Exa.ext E1 E_a1).keep Kc2).lt P4_0)
    have ne_s1_bS_4 : s1 ≠ bS_4 := Nat.ne_of_lt (Nat.lt_of_lt_of_le ((Exa.ext E1 E_s1).keep Kc2).lt P4_0)
    have ne_t1_bS_4 : t1 ≠ bS_4 := Nat.ne_of_lt (Nat.lt_of_lt_of_le ((Arv.ext R_1 E1).keep Kc2 nin0).lt P4_0)
    have ne_b1_bS_4 : b1 ≠ bS_4 := Nat.ne_of_lt (Nat.lt_of_lt_of_le (A1.keep Kc2).lt P4_0)
    have ge_bS_4 : n0 ≤ bS_4 := Nat.le_trans (Nat.le_trans (Nat.le_trans Z0 E1.1) Kc2.1) P4_0
    have O4 := O2.keep Kc4 all0
    have ne_tN_4_a1d : tN_4 ≠ a1d := own_arne P4_4 (((Exa.ext E1 E_a1).keep Kc2).keep Kc4) (own_w hw 2 rfl)
    have ne_tN_4_s1 : tN_4 ≠ s1 := own_arne P4_4 (((Exa.ext E1 E_s1).keep Kc2).keep Kc4) (own_w hw 46 rfl)
    have ne_tN_4_b1 : tN_4 ≠ b1 := own_arne P4_4 ((A1.keep Kc2).keep Kc4) (own_w hw 2 rfl)
    have ne_tN_4_bS_4 : tN_4 ≠ bS_4 := own_arne P4_4 P4_1 (own_w hw 46 rfl)
    have CH4 := cr4.1
    refine own_tr st4 ?_
    show gs T4 m 116 #[vi p1, vi p2, vi p3, .val (.long qa), .second, .val (.long qb), .second, vi p6, vi i1, vi i2, vi 0, vi cp, vi 0, .val (.long q2), .second, vr a1d, .unset, .unset, .unset] [(.ref bS_4), (.ref v2), (.ref b1), (.ref b1)]
    obtain ⟨_, _, ⟨T5, L5, k5, n5⟩, -, X5, sv5, sg5, ⟨Lc5, hQ5, l5, y5, z5, cr5⟩, st5⟩ := X4.specialBackS hx (y := (⟨"com/example/cartouche/cartouche/crosswalks/DcValue", "<init>", "(Lcom/example/cartouche/cartouche/crosswalks/DcElement;Ljava/lang/String;)V"⟩ : MethodName)) rfl hown (mvT hZ (own_w hw 79 rfl)) (mvT hZ (own_w hw 80 rfl)) (mvT hZ (own_w hw 81 rfl)) (by decide) (backOfSH (W := 1) (rm_dcInit l Z a0 hw [] b1 v2 bS_4 T4.heap n0 (Nat.le_trans (Nat.le_trans (Nat.le_trans Z0 E1.1) Kc2.1) Kc4.1)  ((A1.keep Kc2).keep Kc4) ge_b1 (Exa.ext O4.2 E_v2) P4_1 ((F1_element.keep Kc2 nin0).keep Kc4 nin0) ((F1_text.keep Kc2 nin0).keep Kc4 nin0)) hZ (own_w hw 81 rfl) (own_w hw 3 rfl) (by decide) (by decide) hEL CH4) (g := (mkF m 116 #[vi p1, vi p2, vi p3, .val (.long qa), .second, .val (.long qb), .second, vi p6, vi i1, vi i2, vi 0, vi cp, vi 0, .val (.long q2), .second, vr a1d, .unset, .unset, .unset] [(.ref bS_4), (.ref v2), (.ref b1), (.ref b1)])) rfl (by rw [hml]; rfl) (Steps.refl _) (a := b1) (argsL := [(.ref v2), (.ref bS_4)]) (rest := [(.ref b1)]) (lenOf own_pd13 rfl) rfl (by show 2 * 0 + _ ≤ _; exact Nat.le_of_eq rfl) (hb hby at_116) (fun _ _ => ⟨rfl, rfl, (by decide : 20 + 4 ≤ _), (by decide : 125 + 52 ≤ _)⟩)
    dsimp only [Pt.U, Pt.locs, Pt.cells, Pt.slots] at X5 l5 y5 z5 st5 hQ5 sv5 sg5 cr5
    subst l5 y5 z5
    obtain ⟨X5, hS, hZ, hown⟩ := rebS hS (Nat.le_refl _) X5 sv5 sg5 hZ hown
    obtain ⟨rfl, Nq5, Kc5, P5_0, P5_1, P5_2⟩ := hQ5
    have N5 := Fr.app N4 Nq5
    have O5 := O4.keep Kc5 (allS ge_b1 all0)
    have CH5 := cr5.1
    refine own_tr st5 ?_
    show gs T5 m 119 #[vi p1, vi p2, vi p3, .val (.long qa), .second, .val (.long qb), .second, vi p6, vi i1, vi i2, vi 0, vi cp, vi 0, .val (.long q2), .second, vr a1d, .unset, .unset, .unset] [(.ref b1)]
    refine own_st (fun _ kS => XS.astore X5.here hx rfl (hb hby at_119) rfl rfl (l' := #[vi p1, vi p2, vi p3, .val (.long qa), .second, .val (.long qb), .second, vi p6, vi i1, vi i2, vi 0, vi cp, vi 0, .val (.long q2), .second, vr a1d, vr b1, .unset, .unset]) rfl kS) ?_
    show gs T5 m 121 #[vi p1, vi p2, vi p3, .val (.long qa), .second, .val (.long qb), .second, vi p6, vi i1, vi i2, vi 0, vi cp, vi 0, .val (.long q2), .second, vr a1d, vr b1, .unset, .unset] []
    exact sg_E0 hx hby hml hown hlk hret hZ hw (Nat.le_trans (Nat.le_trans (Nat.le_trans (Nat.le_trans Z0 E1.1) Kc2.1) Kc4.1) Kc5.1) hS (Nat.le_refl _) (X5.more (by decide) (by decide)) rfl N5 O5 p1 p2 p3 qa qb p6 i1 i2 cp q2 v1 v2 a1d b1 s1 bS_4 t1 tN_4 k1a kN_4 zCS ((((Exa.ext E1 E_a1).keep Kc2).keep Kc4).keep Kc5) ((((Fld.ext E1 Fe1).keep Kc2 nin0).keep Kc4 nin0).keep Kc5 (ninS ne_a1d_b1 nin0)) ((((Fld.ext E1 Ft1).keep Kc2 nin0).keep Kc4 nin0).keep Kc5 (ninS ne_a1d_b1 nin0)) ((((Exa.ext E1 E_s1).keep Kc2).keep Kc4).keep Kc5) ((((Fld.ext E1 F1v).keep Kc2 nin0).keep Kc4 nin0).keep Kc5 (ninS ne_s1_b1 nin0)) ((((Fld.ext E1 F1c).keep Kc2 nin0).keep Kc4 nin0).keep Kc5 (ninS ne_s1_b1 nin0)) P5_0 P5_1 P5_2 (P4_1.keep Kc5) (P4_3.keep Kc5 (ninS (Ne.symm ne_b1_bS_4) nin0)) (P4_2.keep Kc5 (ninS (Ne.symm ne_b1_bS_4) nin0)) ne_s1_bS_4 ((((Arv.ext R_1 E1).keep Kc2 nin0).keep Kc4 nin0).keep Kc5 (ninS ne_t1_b1 nin0)) (P4_4.keep Kc5 (ninS ne_tN_4_b1 nin0)) hveq hvne S_CS P_CS
  · rw [hk3]
    show gs T2 m 109 #[vi p1, vi p2, vi p3, .val (.long qa), .second, .val (.long qb), .second, vi p6, vi i1, vi i2, vi 0, vi cp, vi 1, .val (.long q2), .second, vr a1d, .unset, .unset, .unset] [(.ref v2), (.ref b1), (.ref b1)]
    refine oiload X2 hx hby at_109 rfl ?_
    refine own_st (fun _ kS => XT.lload X2.here hx rfl (hb hby at_111) rfl kS) ?_
    show gs T2 m 113 #[vi p1, vi p2, vi p3, .val (.long qa), .second, .val (.long qb), .second, vi p6, vi i1, vi i2, vi 0, vi cp, vi 1, .val (.long q2), .second, vr a1d, .unset, .unset, .unset] [(.long q2), (.int 1), (.ref v2), (.ref b1), (.ref b1)]
    refine oS 3 X2 hx hZ hby hml hown (own_w hw 42 rfl) (own_w hw 43 rfl) (own_w hw 6 rfl) (own_w hw 44 rfl) (rm_make1 l Z a0 hw [] q2 zCS T2.heap n0 (Nat.le_trans (Nat.le_trans Z0 E1.1) Kc2.1) O2 S_CS P_CS) rfl (by decide) own_pd12 at_113 rfl rfl rfl (fun T6 L6 v6 X6 hQ6 => ?_)
    obtain ⟨bS_6, tN_6, kN_6, rfl, Nq6, Kc6, P6_0, P6_1, P6_2, P6_3, P6_4⟩ := hQ6
    have N6 := Fr.app N2 Nq6
    have ne_a1d_bS_6 : a1d ≠ bS_6 := Nat.ne_of_lt (Nat.lt_of_lt_of_le ((Exa.ext E1 E_a1).keep Kc2).lt P6_0)
    have ne_s1_bS_6 : s1 ≠ bS_6 := Nat.ne_of_lt (Nat.lt_of_lt_of_le ((Exa.ext E1 E_s1).keep Kc2).lt P6_0)
    have ne_t1_bS_6 : t1 ≠ bS_6 := Nat.ne_of_lt (Nat.lt_of_lt_of_le ((Arv.ext R_1 E1).keep Kc2 nin0).lt P6_0)
    have ne_b1_bS_6 : b1 ≠ bS_6 := Nat.ne_of_lt (Nat.lt_of_lt_of_le (A1.keep Kc2).lt P6_0)
    have ge_bS_6 : n0 ≤ bS_6 := Nat.le_trans (Nat.le_trans (Nat.le_trans Z0 E1.1) Kc2.1) P6_0
    have O6 := O2.keep Kc6 all0
    have ne_tN_6_a1d : tN_6 ≠ a1d := own_arne P6_4 (((Exa.ext E1 E_a1).keep Kc2).keep Kc6) (own_w hw 2 rfl)
    have ne_tN_6_s1 : tN_6 ≠ s1 := own_arne P6_4 (((Exa.ext E1 E_s1).keep Kc2).keep Kc6) (own_w hw 46 rfl)
    have ne_tN_6_b1 : tN_6 ≠ b1 := own_arne P6_4 ((A1.keep Kc2).keep Kc6) (own_w hw 2 rfl)
    have ne_tN_6_bS_6 : tN_6 ≠ bS_6 := own_arne P6_4 P6_1 (own_w hw 46 rfl)
    have CH6 := CHv.keep Kc6 sf0 CH2
    show gs T6 m 116 #[vi p1, vi p2, vi p3, .val (.long qa), .second, .val (.long qb), .second, vi p6, vi i1, vi i2, vi 0, vi cp, vi 1, .val (.long q2), .second, vr a1d, .unset, .unset, .unset] [(.ref bS_6), (.ref v2), (.ref b1), (.ref b1)]
    obtain ⟨_, _, ⟨T7, L7, k7, n7⟩, -, X7, sv7, sg7, ⟨Lc7, hQ7, l7, y7, z7, cr7⟩, st7⟩ := X6.specialBackS hx (y := (⟨"com/example/cartouche/cartouche/crosswalks/DcValue", "<init>", "(Lcom/example/cartouche/cartouche/crosswalks/DcElement;Ljava/lang/String;)V"⟩ : MethodName)) rfl hown (mvT hZ (own_w hw 79 rfl)) (mvT hZ (own_w hw 80 rfl)) (mvT hZ (own_w hw 81 rfl)) (by decide) (backOfSH (W := 1) (rm_dcInit l Z a0 hw [] b1 v2 bS_6 T6.heap n0 (Nat.le_trans (Nat.le_trans (Nat.le_trans Z0 E1.1) Kc2.1) Kc6.1)  ((A1.keep Kc2).keep Kc6) ge_b1 (Exa.ext O6.2 E_v2) P6_1 ((F1_element.keep Kc2 nin0).keep Kc6 nin0) ((F1_text.keep Kc2 nin0).keep Kc6 nin0)) hZ (own_w hw 81 rfl) (own_w hw 3 rfl) (by decide) (by decide) hEL CH6) (g := (mkF m 116 #[vi p1, vi p2, vi p3, .val (.long qa), .second, .val (.long qb), .second, vi p6, vi i1, vi i2, vi 0, vi cp, vi 1, .val (.long q2), .second, vr a1d, .unset, .unset, .unset] [(.ref bS_6), (.ref v2), (.ref b1), (.ref b1)])) rfl (by rw [hml]; rfl) (Steps.refl _) (a := b1) (argsL := [(.ref v2), (.ref bS_6)]) (rest := [(.ref b1)]) (lenOf own_pd13 rfl) rfl (by show 2 * 0 + _ ≤ _; exact Nat.le_of_eq rfl) (hb hby at_116) (fun _ _ => ⟨rfl, rfl, (by decide : 19 + 4 ≤ _), (by decide : 123 + 52 ≤ _)⟩)
    dsimp only [Pt.U, Pt.locs, Pt.cells, Pt.slots] at X7 l7 y7 z7 st7 hQ7 sv7 sg7 cr7
    subst l7 y7 z7
    obtain ⟨X7, hS, hZ, hown⟩ := rebS hS (Nat.le_trans (Nat.le_trans (Nat.le_trans hk0 E1.1) Kc2.1) Kc6.1) X7 sv7 sg7 hZ hown
    obtain ⟨rfl, Nq7, Kc7, P7_0, P7_1, P7_2⟩ := hQ7
    have N7 := Fr.app N6 Nq7
    have O7 := O6.keep Kc7 (allS ge_b1 all0)
    have CH7 := cr7.1
    refine own_tr st7 ?_
    show gs T7 m 119 #[vi p1, vi p2, vi p3, .val (.long qa), .second, .val (.long qb), .second, vi p6, vi i1, vi i2, vi 0, vi cp, vi 1, .val (.long q2), .second, vr a1d, .unset, .unset, .unset] [(.ref b1)]
    refine own_st (fun _ kS => XS.astore X7.here hx rfl (hb hby at_119) rfl rfl (l' := #[vi p1, vi p2, vi p3, .val (.long qa), .second, .val (.long qb), .second, vi p6, vi i1, vi i2, vi 0, vi cp, vi 1, .val (.long q2), .second, vr a1d, vr b1, .unset, .unset]) rfl kS) ?_
    show gs T7 m 121 #[vi p1, vi p2, vi p3, .val (.long qa), .second, .val (.long qb), .second, vi p6, vi i1, vi i2, vi 0, vi cp, vi 1, .val (.long q2), .second, vr a1d, vr b1, .unset, .unset] []
    exact sg_EN hx hby hml hown hlk hret hZ hw (Nat.le_trans (Nat.le_trans (Nat.le_trans (Nat.le_trans Z0 E1.1) Kc2.1) Kc6.1) Kc7.1) hS (Nat.le_refl _) (X7.more (by decide) (by decide)) rfl N7 O7 p1 p2 p3 qa qb p6 i1 i2 (0 : Int32) cp (1 : Int32) q2 v1 v2 a1d b1 s1 bS_6 t1 tN_6 k1a kN_6 [] [(.int (nar .byte ((own_ch q2 (0 : Int32)).toInt8.toInt32)))] zCS ((((Exa.ext E1 E_a1).keep Kc2).keep Kc6).keep Kc7) ((((Fld.ext E1 Fe1).keep Kc2 nin0).keep Kc6 nin0).keep Kc7 (ninS ne_a1d_b1 nin0)) ((((Fld.ext E1 Ft1).keep Kc2 nin0).keep Kc6 nin0).keep Kc7 (ninS ne_a1d_b1 nin0)) ((((Exa.ext E1 E_s1).keep Kc2).keep Kc6).keep Kc7) ((((Fld.ext E1 F1v).keep Kc2 nin0).keep Kc6 nin0).keep Kc7 (ninS ne_s1_b1 nin0)) ((((Fld.ext E1 F1c).keep Kc2 nin0).keep Kc6 nin0).keep Kc7 (ninS ne_s1_b1 nin0)) P7_0 P7_1 P7_2 (P6_1.keep Kc7) (P6_3.keep Kc7 (ninS (Ne.symm ne_b1_bS_6) nin0)) (P6_2.keep Kc7 (ninS (Ne.symm ne_b1_bS_6) nin0)) ne_s1_bS_6 ((((Arv.ext R_1 E1).keep Kc2 nin0).keep Kc6 nin0).keep Kc7 (ninS ne_t1_b1 nin0)) (P6_4.keep Kc7 (ninS ne_tN_6_b1 nin0)) (by decide) hveq hvne S_CS P_CS
  · rw [hk3]
    show gs T2 m 109 #[vi p1, vi p2, vi p3, .val (.long qa), .second, .val (.long qb), .second, vi p6, vi i1, vi i2, vi 0, vi cp, vi 2, .val (.long q2), .second, vr a1d, .unset, .unset, .unset] [(.ref v2), (.ref b1), (.ref b1)]
    refine oiload X2 hx hby at_109 rfl ?_
    refine own_st (fun _ kS => XT.lload X2.here hx rfl (hb hby at_111) rfl kS) ?_
    show gs T2 m 113 #[vi p1, vi p2, vi p3, .val (.long qa), .second, .val (.long qb), .second, vi p6, vi i1, vi i2, vi 0, vi cp, vi 2, .val (.long q2), .second, vr a1d, .unset, .unset, .unset] [(.long q2), (.int 2), (.ref v2), (.ref b1), (.ref b1)]
    refine oS 3 X2 hx hZ hby hml hown (own_w hw 42 rfl) (own_w hw 43 rfl) (own_w hw 6 rfl) (own_w hw 44 rfl) (rm_make2 l Z a0 hw [] q2 zCS T2.heap n0 (Nat.le_trans (Nat.le_trans Z0 E1.1) Kc2.1) O2 S_CS P_CS) rfl (by decide) own_pd12 at_113 rfl rfl rfl (fun T8 L8 v8 X8 hQ8 => ?_)
    obtain ⟨bS_8, tN_8, kN_8, rfl, Nq8, Kc8, P8_0, P8_1, P8_2, P8_3, P8_4⟩ := hQ8
    have N8 := Fr.app N2 Nq8
    have ne_a1d_bS_8 : a1d ≠ bS_8 := Nat.ne_of_lt (Nat.lt_of_lt_of_le ((Exa.ext E1 E_a1).keep Kc2).lt P8_0)
    have ne_s1_bS_8 : s1 ≠ bS_8 := Nat.ne_of_lt (Nat.lt_of_lt_of_le ((Exa.ext E1 E_s1).keep Kc2).lt P8_0)
    have ne_t1_bS_8 : t1 ≠ bS_8 := Nat.ne_of_lt (Nat.lt_of_lt_of_le ((Arv.ext R_1 E1).keep Kc2 nin0).lt P8_0)
    have ne_b1_bS_8 : b1 ≠ bS_8 := Nat.ne_of_lt (Nat.lt_of_lt_of_le (A1.keep Kc2).lt P8_0)
    have ge_bS_8 : n0 ≤ bS_8 := Nat.le_trans (Nat.le_trans (Nat.le_trans Z0 E1.1) Kc2.1) P8_0
    have O8 := O2.keep Kc8 all0
    have ne_tN_8_a1d : tN_8 ≠ a1d := own_arne P8_4 (((Exa.ext E1 E_a1).keep Kc2).keep Kc8) (own_w hw 2 rfl)
    have ne_tN_8_s1 : tN_8 ≠ s1 := own_arne P8_4 (((Exa.ext E1 E_s1).keep Kc2).keep Kc8) (own_w hw 46 rfl)
    have ne_tN_8_b1 : tN_8 ≠ b1 := own_arne P8_4 ((A1.keep Kc2).keep Kc8) (own_w hw 2 rfl)
    have ne_tN_8_bS_8 : tN_8 ≠ bS_8 := own_arne P8_4 P8_1 (own_w hw 46 rfl)
    have CH8 := CHv.keep Kc8 sf0 CH2
    show gs T8 m 116 #[vi p1, vi p2, vi p3, .val (.long qa), .second, .val (.long qb), .second, vi p6, vi i1, vi i2, vi 0, vi cp, vi 2, .val (.long q2), .second, vr a1d, .unset, .unset, .unset] [(.ref bS_8), (.ref v2), (.ref b1), (.ref b1)]
    obtain ⟨_, _, ⟨T9, L9, k9, n9⟩, -, X9, sv9, sg9, ⟨Lc9, hQ9, l9, y9, z9, cr9⟩, st9⟩ := X8.specialBackS hx (y := (⟨"com/example/cartouche/cartouche/crosswalks/DcValue", "<init>", "(Lcom/example/cartouche/cartouche/crosswalks/DcElement;Ljava/lang/String;)V"⟩ : MethodName)) rfl hown (mvT hZ (own_w hw 79 rfl)) (mvT hZ (own_w hw 80 rfl)) (mvT hZ (own_w hw 81 rfl)) (by decide) (backOfSH (W := 1) (rm_dcInit l Z a0 hw [] b1 v2 bS_8 T8.heap n0 (Nat.le_trans (Nat.le_trans (Nat.le_trans Z0 E1.1) Kc2.1) Kc8.1)  ((A1.keep Kc2).keep Kc8) ge_b1 (Exa.ext O8.2 E_v2) P8_1 ((F1_element.keep Kc2 nin0).keep Kc8 nin0) ((F1_text.keep Kc2 nin0).keep Kc8 nin0)) hZ (own_w hw 81 rfl) (own_w hw 3 rfl) (by decide) (by decide) hEL CH8) (g := (mkF m 116 #[vi p1, vi p2, vi p3, .val (.long qa), .second, .val (.long qb), .second, vi p6, vi i1, vi i2, vi 0, vi cp, vi 2, .val (.long q2), .second, vr a1d, .unset, .unset, .unset] [(.ref bS_8), (.ref v2), (.ref b1), (.ref b1)])) rfl (by rw [hml]; rfl) (Steps.refl _) (a := b1) (argsL := [(.ref v2), (.ref bS_8)]) (rest := [(.ref b1)]) (lenOf own_pd13 rfl) rfl (by show 2 * 0 + _ ≤ _; exact Nat.le_of_eq rfl) (hb hby at_116) (fun _ _ => ⟨rfl, rfl, (by decide : 19 + 4 ≤ _), (by decide : 125 + 52 ≤ _)⟩)
    dsimp only [Pt.U, Pt.locs, Pt.cells, Pt.slots] at X9 l9 y9 z9 st9 hQ9 sv9 sg9 cr9
    subst l9 y9 z9
    obtain ⟨X9, hS, hZ, hown⟩ := rebS hS (Nat.le_trans (Nat.le_trans (Nat.le_trans hk0 E1.1) Kc2.1) Kc8.1) X9 sv9 sg9 hZ hown
    obtain ⟨rfl, Nq9, Kc9, P9_0, P9_1, P9_2⟩ := hQ9
    have N9 := Fr.app N8 Nq9
    have O9 := O8.keep Kc9 (allS ge_b1 all0)
    have CH9 := cr9.1
    refine own_tr st9 ?_
    show gs T9 m 119 #[vi p1, vi p2, vi p3, .val (.long qa), .second, .val (.long qb), .second, vi p6, vi i1, vi i2, vi 0, vi cp, vi 2, .val (.long q2), .second, vr a1d, .unset, .unset, .unset] [(.ref b1)]
    refine own_st (fun _ kS => XS.astore X9.here hx rfl (hb hby at_119) rfl rfl (l' := #[vi p1, vi p2, vi p3, .val (.long qa), .second, .val (.long qb), .second, vi p6, vi i1, vi i2, vi 0, vi cp, vi 2, .val (.long q2), .second, vr a1d, vr b1, .unset, .unset]) rfl kS) ?_
    show gs T9 m 121 #[vi p1, vi p2, vi p3, .val (.long qa), .second, .val (.long qb), .second, vi p6, vi i1, vi i2, vi 0, vi cp, vi 2, .val (.long q2), .second, vr a1d, vr b1, .unset, .unset] []
    exact sg_EN hx hby hml hown hlk hret hZ hw (Nat.le_trans (Nat.le_trans (Nat.le_trans (Nat.le_trans Z0 E1.1) Kc2.1) Kc8.1) Kc9.1) hS (Nat.le_refl _) (X9.more (by decide) (by decide)) rfl N9 O9 p1 p2 p3 qa qb p6 i1 i2 (0 : Int32) cp (2 : Int32) q2 v1 v2 a1d b1 s1 bS_8 t1 tN_8 k1a kN_8 [] [(.int (nar .byte ((own_ch q2 (0 : Int32)).toInt8.toInt32))), (.int (nar .byte ((own_ch q2 (1 : Int32)).toInt8.toInt32)))] zCS ((((Exa.ext E1 E_a1).keep Kc2).keep Kc8).keep Kc9) ((((Fld.ext E1 Fe1).keep Kc2 nin0).keep Kc8 nin0).keep Kc9 (ninS ne_a1d_b1 nin0)) ((((Fld.ext E1 Ft1).keep Kc2 nin0).keep Kc8 nin0).keep Kc9 (ninS ne_a1d_b1 nin0)) ((((Exa.ext E1 E_s1).keep Kc2).keep Kc8).keep Kc9) ((((Fld.ext E1 F1v).keep Kc2 nin0).keep Kc8 nin0).keep Kc9 (ninS ne_s1_b1 nin0)) ((((Fld.ext E1 F1c).keep Kc2 nin0).keep Kc8 nin0).keep Kc9 (ninS ne_s1_b1 nin0)) P9_0 P9_1 P9_2 (P8_1.keep Kc9) (P8_3.keep Kc9 (ninS (Ne.symm ne_b1_bS_8) nin0)) (P8_2.keep Kc9 (ninS (Ne.symm ne_b1_bS_8) nin0)) ne_s1_bS_8 ((((Arv.ext R_1 E1).keep Kc2 nin0).keep Kc8 nin0).keep Kc9 (ninS ne_t1_b1 nin0)) (P8_4.keep Kc9 (ninS ne_tN_8_b1 nin0)) (by decide) hveq hvne S_CS P_CS
  · rw [hk3]
    show gs T2 m 109 #[vi p1, vi p2, vi p3, .val (.long qa), .second, .val (.long qb), .second, vi p6, vi i1, vi i2, vi 0, vi cp, vi 3, .val (.long q2), .second, vr a1d, .unset, .unset, .unset] [(.ref v2), (.ref b1), (.ref b1)]
    refine oiload X2 hx hby at_109 rfl ?_
    refine own_st (fun _ kS => XT.lload X2.here hx rfl (hb hby at_111) rfl kS) ?_
    show gs T2 m 113 #[vi p1, vi p2, vi p3, .val (.long qa), .second, .val (.long qb), .second, vi p6, vi i1, vi i2, vi 0, vi cp, vi 3, .val (.long q2), .second, vr a1d, .unset, .unset, .unset] [(.long q2), (.int 3), (.ref v2), (.ref b1), (.ref b1)]
    refine oS 3 X2 hx hZ hby hml hown (own_w hw 42 rfl) (own_w hw 43 rfl) (own_w hw 6 rfl) (own_w hw 44 rfl) (rm_make3 l Z a0 hw [] q2 zCS T2.heap n0 (Nat.le_trans (Nat.le_trans Z0 E1.1) Kc2.1) O2 S_CS P_CS) rfl (by decide) own_pd12 at_113 rfl rfl rfl (fun T10 L10 v10 X10 hQ10 => ?_)
    obtain ⟨bS_10, tN_10, kN_10, rfl, Nq10, Kc10, P10_0, P10_1, P10_2, P10_3, P10_4⟩ := hQ10
    have N10 := Fr.app N2 Nq10
    have ne_a1d_bS_10 : a1d ≠ bS_10 := Nat.ne_of_lt (Nat.lt_of_lt_of_le ((Exa.ext E1 E_a1).keep Kc2).lt P10_0)
    have ne_s1_bS_10 : s1 ≠ bS_10 := Nat.ne_of_lt (Nat.lt_of_lt_of_le ((Exa.ext E1 E_s1).keep Kc2).lt P10_0)
    have ne_t1_bS_10 : t1 ≠ bS_10 := Nat.ne_of_lt (Nat.lt_of_lt_of_le ((Arv.ext R_1 E1).keep Kc2 nin0).lt P10_0)
    have ne_b1_bS_10 : b1 ≠ bS_10 := Nat.ne_of_lt (Nat.lt_of_lt_of_le (A1.keep Kc2).lt P10_0)
    have ge_bS_10 : n0 ≤ bS_10 := Nat.le_trans (Nat.le_trans (Nat.le_trans Z0 E1.1) Kc2.1) P10_0
    have O10 := O2.keep Kc10 all0
    have ne_tN_10_a1d : tN_10 ≠ a1d := own_arne P10_4 (((Exa.ext E1 E_a1).keep Kc2).keep Kc10) (own_w hw 2 rfl)
    have ne_tN_10_s1 : tN_10 ≠ s1 := own_arne P10_4 (((Exa.ext E1 E_s1).keep Kc2).keep Kc10) (own_w hw 46 rfl)
    have ne_tN_10_b1 : tN_10 ≠ b1 := own_arne P10_4 ((A1.keep Kc2).keep Kc10) (own_w hw 2 rfl)
    have ne_tN_10_bS_10 : tN_10 ≠ bS_10 := own_arne P10_4 P10_1 (own_w hw 46 rfl)
    have CH10 := CHv.keep Kc10 sf0 CH2
    show gs T10 m 116 #[vi p1, vi p2, vi p3, .val (.long qa), .second, .val (.long qb), .second, vi p6, vi i1, vi i2, vi 0, vi cp, vi 3, .val (.long q2), .second, vr a1d, .unset, .unset, .unset] [(.ref bS_10), (.ref v2), (.ref b1), (.ref b1)]
    obtain ⟨_, _, ⟨T11, L11, k11, n11⟩, -, X11, sv11, sg11, ⟨Lc11, hQ11, l11, y11, z11, cr11⟩, st11⟩ := X10.specialBackS hx (y := (⟨"com/example/cartouche/cartouche/crosswalks/DcValue", "<init>", "(Lcom/example/cartouche/cartouche/crosswalks/DcElement;Ljava/lang/String;)V"⟩ : MethodName)) rfl hown (mvT hZ (own_w hw 79 rfl)) (mvT hZ (own_w hw 80 rfl)) (mvT hZ (own_w hw 81 rfl)) (by decide) (backOfSH (W := 1) (rm_dcInit l Z a0 hw [] b1 v2 bS_10 T10.heap n0 (Nat.le_trans (Nat.le_trans (Nat.le_trans Z0 E1.1) Kc2.1) Kc10.1)  ((A1.keep Kc2).keep Kc10) ge_b1 (Exa.ext O10.2 E_v2) P10_1 ((F1_element.keep Kc2 nin0).keep Kc10 nin0) ((F1_text.keep Kc2 nin0).keep Kc10 nin0)) hZ (own_w hw 81 rfl) (own_w hw 3 rfl) (by decide) (by decide) hEL CH10) (g := (mkF m 116 #[vi p1, vi p2, vi p3, .val (.long qa), .second, .val (.long qb), .second, vi p6, vi i1, vi i2, vi 0, vi cp, vi 3, .val (.long q2), .second, vr a1d, .unset, .unset, .unset] [(.ref bS_10), (.ref v2), (.ref b1), (.ref b1)])) rfl (by rw [hml]; rfl) (Steps.refl _) (a := b1) (argsL := [(.ref v2), (.ref bS_10)]) (rest := [(.ref b1)]) (lenOf own_pd13 rfl) rfl (by show 2 * 0 + _ ≤ _; exact Nat.le_of_eq rfl) (hb hby at_116) (fun _ _ => ⟨rfl, rfl, (by decide : 19 + 4 ≤ _), (by decide : 127 + 52 ≤ _)⟩)
    dsimp only [Pt.U, Pt.locs, Pt.cells, Pt.slots] at X11 l11 y11 z11 st11 hQ11 sv11 sg11 cr11
    subst l11 y11 z11
    obtain ⟨X11, hS, hZ, hown⟩ := rebS hS (Nat.le_trans (Nat.le_trans (Nat.le_trans hk0 E1.1) Kc2.1) Kc10.1) X11 sv11 sg11 hZ hown
    obtain ⟨rfl, Nq11, Kc11, P11_0, P11_1, P11_2⟩ := hQ11
    have N11 := Fr.app N10 Nq11
    have O11 := O10.keep Kc11 (allS ge_b1 all0)
    have CH11 := cr11.1
    refine own_tr st11 ?_
    show gs T11 m 119 #[vi p1, vi p2, vi p3, .val (.long qa), .second, .val (.long qb), .second, vi p6, vi i1, vi i2, vi 0, vi cp, vi 3, .val (.long q2), .second, vr a1d, .unset, .unset, .unset] [(.ref b1)]
    refine own_st (fun _ kS => XS.astore X11.here hx rfl (hb hby at_119) rfl rfl (l' := #[vi p1, vi p2, vi p3, .val (.long qa), .second, .val (.long qb), .second, vi p6, vi i1, vi i2, vi 0, vi cp, vi 3, .val (.long q2), .second, vr a1d, vr b1, .unset, .unset]) rfl kS) ?_
    show gs T11 m 121 #[vi p1, vi p2, vi p3, .val (.long qa), .second, .val (.long qb), .second, vi p6, vi i1, vi i2, vi 0, vi cp, vi 3, .val (.long q2), .second, vr a1d, vr b1, .unset, .unset] []
    exact sg_EN hx hby hml hown hlk hret hZ hw (Nat.le_trans (Nat.le_trans (Nat.le_trans (Nat.le_trans Z0 E1.1) Kc2.1) Kc10.1) Kc11.1) hS (Nat.le_refl _) (X11.more (by decide) (by decide)) rfl N11 O11 p1 p2 p3 qa qb p6 i1 i2 (0 : Int32) cp (3 : Int32) q2 v1 v2 a1d b1 s1 bS_10 t1 tN_10 k1a kN_10 [] [(.int (nar .byte ((own_ch q2 (0 : Int32)).toInt8.toInt32))), (.int (nar .byte ((own_ch q2 (1 : Int32)).toInt8.toInt32))), (.int (nar .byte ((own_ch q2 (2 : Int32)).toInt8.toInt32)))] zCS ((((Exa.ext E1 E_a1).keep Kc2).keep Kc10).keep Kc11) ((((Fld.ext E1 Fe1).keep Kc2 nin0).keep Kc10 nin0).keep Kc11 (ninS ne_a1d_b1 nin0)) ((((Fld.ext E1 Ft1).keep Kc2 nin0).keep Kc10 nin0).keep Kc11 (ninS ne_a1d_b1 nin0)) ((((Exa.ext E1 E_s1).keep Kc2).keep Kc10).keep Kc11) ((((Fld.ext E1 F1v).keep Kc2 nin0).keep Kc10 nin0).keep Kc11 (ninS ne_s1_b1 nin0)) ((((Fld.ext E1 F1c).keep Kc2 nin0).keep Kc10 nin0).keep Kc11 (ninS ne_s1_b1 nin0)) P11_0 P11_1 P11_2 (P10_1.keep Kc11) (P10_3.keep Kc11 (ninS (Ne.symm ne_b1_bS_10) nin0)) (P10_2.keep Kc11 (ninS (Ne.symm ne_b1_bS_10) nin0)) ne_s1_bS_10 ((((Arv.ext R_1 E1).keep Kc2 nin0).keep Kc10 nin0).keep Kc11 (ninS ne_t1_b1 nin0)) (P10_4.keep Kc11 (ninS ne_tN_10_b1 nin0)) (by decide) hveq hvne S_CS P_CS
theorem sg_B1 {p : Program} {l : Launch} {e : Env} {s : State} {m : MethodId} {args : Array Value} {below : List Frame} {meth : Method} {c : Code} {T0 : State} {locs : List Loc} {Z : State} {a0 : Array Value} {h0 : Heap} {n0 : Nat} {vm0 : Vm} {kv0 : Nat} (hx : p.tables.exec = Jvm.exec) (hby : c.code = code) (hml : c.maxLocals = 19) (hown : (s.setVm vm0).vm.findClass "com/example/cartouche/cartouche/crosswalks/DcValueEqualsPinLaw" = some m.cls) (hlk : meth.locks = false) (hret : meth.sig.returnType = some .boolean) (hZ : Z.Warmed39 (s.setVm vm0).vm) (hw : HW a0 Z) (Z0 : n0 ≤ h0.size) (hS : s.Since vm0 kv0) (hk0 : kv0 ≤ h0.size)
    (X0 : Stand p l e room_1 (s.setVm vm0) m args below meth c T0 locs 14 100) (e0 : T0.heap = h0) (N0 : Fr n0 locs) (O0 : Old Z n0 h0) (p1 : Int32) (p2 : Int32) (p3 : Int32) (qa : Int64) (qb : Int64) (p6 : Int32) (i1 : Int32) (i2 : Int32) (cp : Int32) (l2 : Int32) (q2 : Int64) (v1 : Addr) (v2 : Addr) (a1d : Addr) (s1 : Addr) (t1 : Addr) (k1a : ClassId) (w_TITLE : Addr) (w_CREATOR : Addr) (w_SUBJECT : Addr) (w_DESCRIPTION : Addr) (w_PUBLISHER : Addr) (w_CONTRIBUTOR : Addr) (w_DATE : Addr) (w_TYPE : Addr) (w_FORMAT : Addr) (w_IDENTIFIER : Addr) (w_SOURCE : Addr) (w_LANGUAGE : Addr) (w_RELATION : Addr) (w_COVERAGE : Addr) (w_RIGHTS : Addr) (zCS : Int32) (E_a1 : ek22 Z h0 a1d) (Fe1 : fk18 Z h0 a1d (.ref v1)) (Ft1 : fk19 Z h0 a1d (.ref s1)) (E_s1 : ek21 Z h0 s1) (F1v : fk17 Z h0 s1 (.ref t1)) (F1c : fk16 Z h0 s1 (.int 0)) (g_a1 : n0 ≤ a1d) (R_1 : Arv Z h0 t1 k1a .byte (1 : Int32) [(.int (nar .byte ((own_ch qa (0 : Int32)).toInt8.toInt32)))] (.int 0)) (hveq : i1 = i2 → v1 = v2) (hvne : ¬ (i1 = i2) → v1 ≠ v2) (S_TITLE : sk1 Z Z.heap (.ref w_TITLE)) (S_CREATOR : sk2 Z Z.heap (.ref w_CREATOR)) (S_SUBJECT : sk3 Z Z.heap (.ref w_SUBJECT)) (S_DESCRIPTION : sk4 Z Z.heap (.ref w_DESCRIPTION)) (S_PUBLISHER : sk5 Z Z.heap (.ref w_PUBLISHER)) (S_CONTRIBUTOR : sk6 Z Z.heap (.ref w_CONTRIBUTOR)) (S_DATE : sk7 Z Z.heap (.ref w_DATE)) (S_TYPE : sk8 Z Z.heap (.ref w_TYPE)) (S_FORMAT : sk9 Z Z.heap (.ref w_FORMAT)) (S_IDENTIFIER : sk10 Z Z.heap (.ref w_IDENTIFIER)) (S_SOURCE : sk11 Z Z.heap (.ref w_SOURCE)) (S_LANGUAGE : sk12 Z Z.heap (.ref w_LANGUAGE)) (S_RELATION : sk13 Z Z.heap (.ref w_RELATION)) (S_COVERAGE : sk14 Z Z.heap (.ref w_COVERAGE)) (S_RIGHTS : sk15 Z Z.heap (.ref w_RIGHTS)) (E_TITLE : ek23 Z Z.heap w_TITLE) (E_CREATOR : ek23 Z Z.heap w_CREATOR) (E_SUBJECT : ek23 Z Z.heap w_SUBJECT) (E_DESCRIPTION : ek23 Z Z.heap w_DESCRIPTION) (E_PUBLISHER : ek23 Z Z.heap w_PUBLISHER) (E_CONTRIBUTOR : ek23 Z Z.heap w_CONTRIBUTOR) (E_DATE : ek23 Z Z.heap w_DATE) (E_TYPE : ek23 Z Z.heap w_TYPE) (E_FORMAT : ek23 Z Z.heap w_FORMAT) (E_IDENTIFIER : ek23 Z Z.heap w_IDENTIFIER) (E_SOURCE : ek23 Z Z.heap w_SOURCE) (E_LANGUAGE : ek23 Z Z.heap w_LANGUAGE) (E_RELATION : ek23 Z Z.heap w_RELATION) (E_COVERAGE : ek23 Z Z.heap w_COVERAGE) (E_RIGHTS : ek23 Z Z.heap w_RIGHTS) (hE2 : own_el i2 v2 w_TITLE w_CREATOR w_SUBJECT w_DESCRIPTION w_PUBLISHER w_CONTRIBUTOR w_DATE w_TYPE w_FORMAT w_IDENTIFIER w_SOURCE w_LANGUAGE w_RELATION w_COVERAGE w_RIGHTS) (E_v2 : ek23 Z Z.heap v2) (hL2 : l2 = (0 : Int32) ∨ l2 = (1 : Int32) ∨ l2 = (2 : Int32) ∨ l2 = (3 : Int32)) (S_CS : sk0 Z Z.heap (.int zCS)) (P_CS : ¬ zCS = 0) (hCH : CHv Z EL0 vm0 h0) :
    own_G p.tables e below (own_EW s (Q_law n0) room_1.cells room_1.slots) (T0.setTop (mkF m 100 #[vi p1, vi p2, vi p3, .val (.long qa), .second, .val (.long qb), .second, vi p6, vi i1, vi i2, vi 1, vi cp, vi l2, .val (.long q2), .second, vr a1d, .unset, .unset, .unset] [])) := by
  have hEL : EW Z a0 EL0 := own_ELw hw
  show gs T0 m 100 #[vi p1, vi p2, vi p3, .val (.long qa), .second, .val (.long qb), .second, vi p6, vi i1, vi i2, vi 1, vi cp, vi l2, .val (.long q2), .second, vr a1d, .unset, .unset, .unset] []
  obtain ⟨T1, h1, X1, e1, E1, A1, D1, -, st1⟩ := newO X0 hx hZ hown (own_w hw 1 rfl) (own_w hw 2 rfl) (own_w hw 3 rfl) e0 (g := (mkF m 100 #[vi p1, vi p2, vi p3, .val (.long qa), .second, .val (.long qb), .second, vi p6, vi i1, vi i2, vi 1, vi cp, vi l2, .val (.long q2), .second, vr a1d, .unset, .unset, .unset] [])) rfl (hb hby at_100) (by decide) (by decide)
  obtain ⟨b1, g1⟩ : ∃ z, z = h0.size := ⟨_, rfl⟩
  have ne_a1d_b1 : a1d ≠ b1 := Nat.ne_of_lt (Nat.lt_of_lt_of_eq E_a1.lt g1.symm)
  have ne_s1_b1 : s1 ≠ b1 := Nat.ne_of_lt (Nat.lt_of_lt_of_eq E_s1.lt g1.symm)
  have ne_t1_b1 : t1 ≠ b1 := Nat.ne_of_lt (Nat.lt_of_lt_of_eq R_1.lt g1.symm)
  have ge_b1 : n0 ≤ b1 := Nat.le_trans Z0 (Nat.le_of_eq g1.symm)
  rw [← g1] at A1 D1 st1
  have CH1 := CHv.ext E1 hCH
  have O1 := O0.ext E1
  have F1_element : fk18 Z h1 b1 .null := D1 (Or.inr (own_w hw 92 rfl)) (ty := (.object "com/example/cartouche/cartouche/crosswalks/DcElement")) (by decide)
  have F1_text : fk19 Z h1 b1 .null := D1 (Or.inr (own_w hw 96 rfl)) (ty := (.object "java/lang/String")) (by decide)
  refine own_st st1 ?_
  show gs T1 m 103 #[vi p1, vi p2, vi p3, .val (.long qa), .second, .val (.long qb), .second, vi p6, vi i1, vi i2, vi 1, vi cp, vi l2, .val (.long q2), .second, vr a1d, .unset, .unset, .unset] [(.ref b1)]
  refine own_st (fun _ kS => XS.dup X1.here hx rfl (hb hby at_103) rfl rfl kS) ?_
  refine oiload X1 hx hby at_104 rfl ?_
  refine oS 2 X1 hx hZ hby hml hown (own_w hw 4 rfl) (own_w hw 5 rfl) (own_w hw 6 rfl) (own_w hw 7 rfl) (rm_el l Z a0 hw [] i2 v2 w_TITLE w_CREATOR w_SUBJECT w_DESCRIPTION w_PUBLISHER w_CONTRIBUTOR w_DATE w_TYPE w_FORMAT w_IDENTIFIER w_SOURCE w_LANGUAGE w_RELATION w_COVERAGE w_RIGHTS h1 n0 (Nat.le_trans Z0 E1.1) O1 S_TITLE S_CREATOR S_SUBJECT S_DESCRIPTION S_PUBLISHER S_CONTRIBUTOR S_DATE S_TYPE S_FORMAT S_IDENTIFIER S_SOURCE S_LANGUAGE S_RELATION S_COVERAGE S_RIGHTS E_TITLE E_CREATOR E_SUBJECT E_DESCRIPTION E_PUBLISHER E_CONTRIBUTOR E_DATE E_TYPE E_FORMAT E_IDENTIFIER E_SOURCE E_LANGUAGE E_RELATION E_COVERAGE E_RIGHTS hE2) e1 (by decide) own_pd11 at_106 rfl rfl rfl (fun T2 L2 v2 X2 hQ2 => ?_)
  obtain ⟨rfl, Nq2, Kc2⟩ := hQ2
  have N2 := Fr.app N0 Nq2
  have O2 := O1.keep Kc2 all0
  have CH2 := CHv.keep Kc2 sf0 CH1
  show gs T2 m 109 #[vi p1, vi p2, vi p3, .val (.long qa), .second, .val (.long qb), .second, vi p6, vi i1, vi i2, vi 1, vi cp, vi l2, .val (.long q2), .second, vr a1d, .unset, .unset, .unset] [(.ref v2), (.ref b1), (.ref b1)]
  rcases hL2 with hk3 | hk3 | hk3 | hk3
  · rw [hk3]
    show gs T2 m 109 #[vi p1, vi p2, vi p3, .val (.long qa), .second, .val (.long qb), .second, vi p6, vi i1, vi i2, vi 1, vi cp, vi 0, .val (.long q2), .second, vr a1d, .unset, .unset, .unset] [(.ref v2), (.ref b1), (.ref b1)]
    refine oiload X2 hx hby at_109 rfl ?_
    refine own_st (fun _ kS => XT.lload X2.here hx rfl (hb hby at_111) rfl kS) ?_
    show gs T2 m 113 #[vi p1, vi p2, vi p3, .val (.long qa), .second, .val (.long qb), .second, vi p6, vi i1, vi i2, vi 1, vi cp, vi 0, .val (.long q2), .second, vr a1d, .unset, .unset, .unset] [(.long q2), (.int 0), (.ref v2), (.ref b1), (.ref b1)]
    obtain ⟨_, _, ⟨T4, L4, k4, n4⟩, -, X4, sv4, sg4, ⟨Lc4, hQ4, l4, y4, z4, cr4⟩, st4⟩ := callSS X2 hx (y := (⟨"com/example/cartouche/cartouche/crosswalks/DcValueEqualsPinLaw", "make", "(IJ)Ljava/lang/String;"⟩ : MethodName)) hown (mvT hZ (own_w hw 42 rfl)) (mvT hZ (own_w hw 43 rfl)) (mvT hZ (own_w hw 6 rfl)) (mvT hZ (own_w hw 44 rfl)) (by decide) (backOfSH (W := 3) (rm_make0 l Z a0 hw [] q2 T2.heap n0 (Nat.le_trans (Nat.le_trans Z0 E1.1) Kc2.1)  ) hZ (own_w hw 44 rfl) (own_w hw 6 rfl) (by decide) (by decide) hEL CH2) (g := (mkF m 113 #[vi p1, vi p2, vi p3, .val (.long qa), .second, .val (.long qb), .second, vi p6, vi i1, vi i2, vi 1, vi cp, vi 0, .val (.long q2), .second, vr a1d, .unset, .unset, .unset] [(.long q2), (.int 0), (.ref v2), (.ref b1), (.ref b1)])) rfl (by rw [hml]; rfl) (argsL := [(.int 0), (.long q2)]) (rest := [(.ref v2), (.ref b1), (.ref b1)]) (lenOf own_pd12 rfl) rfl (by show 2 * 0 + _ ≤ _; exact Nat.le_of_eq rfl) (hb hby at_113) (fun _ _ => ⟨rfl, rfl, (by decide : 16 + 4 ≤ _), (by decide : 117 + 8 ≤ _)⟩)
    dsimp only [Pt.U, Pt.locs, Pt.cells, Pt.slots] at X4 l4 y4 z4 st4 hQ4 sv4 sg4 cr4
    subst l4 y4 z4
    obtain ⟨X4, hS, hZ, hown⟩ := rebS hS (Nat.le_trans (Nat.le_trans hk0 E1.1) Kc2.1) X4 sv4 sg4 hZ hown
    obtain ⟨bS_4, tN_4, kN_4, rfl, Nq4, Kc4, P4_0, P4_1, P4_2, P4_3, P4_4⟩ := hQ4
    have N4 := Fr.app N2 Nq4
    have ne_a1d_bS_4 : a1d ≠ bS_4 := Nat.ne_of_lt (Nat.lt_of_lt_of_le ((Exa.ext E1 E_a1).keep Kc2).lt P4_0)
    have ne_s1_bS_4 : s1 ≠ bS_4 := Nat.ne_of_lt (Nat.lt_of_lt_of_le ((Exa.ext E1 E_s1).keep Kc2).lt P4_0)
    have ne_t1_bS_4 : t1 ≠ bS_4 := Nat.ne_of_lt (Nat.lt_of_lt_of_le ((Arv.ext R_1 E1).keep Kc2 nin0).lt P4_0)
    have ne_b1_bS_4 : b1 ≠ bS_4 := Nat.ne_of_lt (Nat.lt_of_lt_of_le (A1.keep Kc2).lt P4_0)
    have ge_bS_4 : n0 ≤ bS_4 := Nat.le_trans (Nat.le_trans (Nat.le_trans Z0 E1.1) Kc2.1) P4_0
    have O4 := O2.keep Kc4 all0
    have ne_tN_4_a1d : tN_4 ≠ a1d := own_arne P4_4 (((Exa.ext E1 E_a1).keep Kc2).keep Kc4) (own_w hw 2 rfl)
    have ne_tN_4_s1 : tN_4 ≠ s1 := own_arne P4_4 (((Exa.ext E1 E_s1).keep Kc2).keep Kc4) (own_w hw 46 rfl)
    have ne_tN_4_b1 : tN_4 ≠ b1 := own_arne P4_4 ((A1.keep Kc2).keep Kc4) (own_w hw 2 rfl)
    have ne_tN_4_bS_4 : tN_4 ≠ bS_4 := own_arne P4_4 P4_1 (own_w hw 46 rfl)
    have CH4 := cr4.1
    refine own_tr st4 ?_
    show gs T4 m 116 #[vi p1, vi p2, vi p3, .val (.long qa), .second, .val (.long qb), .second, vi p6, vi i1, vi i2, vi 1, vi cp, vi 0, .val (.long q2), .second, vr a1d, .unset, .unset, .unset] [(.ref bS_4), (.ref v2), (.ref b1), (.ref b1)]
    obtain ⟨_, _, ⟨T5, L5, k5, n5⟩, -, X5, sv5, sg5, ⟨Lc5, hQ5, l5, y5, z5, cr5⟩, st5⟩ := X4.specialBackS hx (y := (⟨"com/example/cartouche/cartouche/crosswalks/DcValue", "<init>", "(Lcom/example/cartouche/cartouche/crosswalks/DcElement;Ljava/lang/String;)V"⟩ : MethodName)) rfl hown (mvT hZ (own_w hw 79 rfl)) (mvT hZ (own_w hw 80 rfl)) (mvT hZ (own_w hw 81 rfl)) (by decide) (backOfSH (W := 1) (rm_dcInit l Z a0 hw [] b1 v2 bS_4 T4.heap n0 (Nat.le_trans (Nat.le_trans (Nat.le_trans Z0 E1.1) Kc2.1) Kc4.1)  ((A1.keep Kc2).keep Kc4) ge_b1 (Exa.ext O4.2 E_v2) P4_1 ((F1_element.keep Kc2 nin0).keep Kc4 nin0) ((F1_text.keep Kc2 nin0).keep Kc4 nin0)) hZ (own_w hw 81 rfl) (own_w hw 3 rfl) (by decide) (by decide) hEL CH4) (g := (mkF m 116 #[vi p1, vi p2, vi p3, .val (.long qa), .second, .val (.long qb), .second, vi p6, vi i1, vi i2, vi 1, vi cp, vi 0, .val (.long q2), .second, vr a1d, .unset, .unset, .unset] [(.ref bS_4), (.ref v2), (.ref b1), (.ref b1)])) rfl (by rw [hml]; rfl) (Steps.refl _) (a := b1) (argsL := [(.ref v2), (.ref bS_4)]) (rest := [(.ref b1)]) (lenOf own_pd13 rfl) rfl (by show 2 * 0 + _ ≤ _; exact Nat.le_of_eq rfl) (hb hby at_116) (fun _ _ => ⟨rfl, rfl, (by decide : 20 + 4 ≤ _), (by decide : 125 + 52 ≤ _)⟩)
    dsimp only [Pt.U, Pt.locs, Pt.cells, Pt.slots] at X5 l5 y5 z5 st5 hQ5 sv5 sg5 cr5
    subst l5 y5 z5
    obtain ⟨X5, hS, hZ, hown⟩ := rebS hS (Nat.le_refl _) X5 sv5 sg5 hZ hown
    obtain ⟨rfl, Nq5, Kc5, P5_0, P5_1, P5_2⟩ := hQ5
    have N5 := Fr.app N4 Nq5
    have O5 := O4.keep Kc5 (allS ge_b1 all0)
    have CH5 := cr5.1
    refine own_tr st5 ?_
    show gs T5 m 119 #[vi p1, vi p2, vi p3, .val (.long qa), .second, .val (.long qb), .second, vi p6, vi i1, vi i2, vi 1, vi cp, vi 0, .val (.long q2), .second, vr a1d, .unset, .unset, .unset] [(.ref b1)]
    refine own_st (fun _ kS => XS.astore X5.here hx rfl (hb hby at_119) rfl rfl (l' := #[vi p1, vi p2, vi p3, .val (.long qa), .second, .val (.long qb), .second, vi p6, vi i1, vi i2, vi 1, vi cp, vi 0, .val (.long q2), .second, vr a1d, vr b1, .unset, .unset]) rfl kS) ?_
    show gs T5 m 121 #[vi p1, vi p2, vi p3, .val (.long qa), .second, .val (.long qb), .second, vi p6, vi i1, vi i2, vi 1, vi cp, vi 0, .val (.long q2), .second, vr a1d, vr b1, .unset, .unset] []
    exact sg_EN hx hby hml hown hlk hret hZ hw (Nat.le_trans (Nat.le_trans (Nat.le_trans (Nat.le_trans Z0 E1.1) Kc2.1) Kc4.1) Kc5.1) hS (Nat.le_refl _) (X5.more (by decide) (by decide)) rfl N5 O5 p1 p2 p3 qa qb p6 i1 i2 (1 : Int32) cp (0 : Int32) q2 v1 v2 a1d b1 s1 bS_4 t1 tN_4 k1a kN_4 [(.int (nar .byte ((own_ch qa (0 : Int32)).toInt8.toInt32)))] [] zCS ((((Exa.ext E1 E_a1).keep Kc2).keep Kc4).keep Kc5) ((((Fld.ext E1 Fe1).keep Kc2 nin0).keep Kc4 nin0).keep Kc5 (ninS ne_a1d_b1 nin0)) ((((Fld.ext E1 Ft1).keep Kc2 nin0).keep Kc4 nin0).keep Kc5 (ninS ne_a1d_b1 nin0)) ((((Exa.ext E1 E_s1).keep Kc2).keep Kc4).keep Kc5) ((((Fld.ext E1 F1v).keep Kc2 nin0).keep Kc4 nin0).keep Kc5 (ninS ne_s1_b1 nin0)) ((((Fld.ext E1 F1c).keep Kc2 nin0).keep Kc4 nin0).keep Kc5 (ninS ne_s1_b1 nin0)) P5_0 P5_1 P5_2 (P4_1.keep Kc5) (P4_3.keep Kc5 (ninS (Ne.symm ne_b1_bS_4) nin0)) (P4_2.keep Kc5 (ninS (Ne.symm ne_b1_bS_4) nin0)) ne_s1_bS_4 ((((Arv.ext R_1 E1).keep Kc2 nin0).keep Kc4 nin0).keep Kc5 (ninS ne_t1_b1 nin0)) (P4_4.keep Kc5 (ninS ne_tN_4_b1 nin0)) (by decide) hveq hvne S_CS P_CS
  · rw [hk3]
    show gs T2 m 109 #[vi p1, vi p2, vi p3, .val (.long qa), .second, .val (.long qb), .second, vi p6, vi i1, vi i2, vi 1, vi cp, vi 1, .val (.long q2), .second, vr a1d, .unset, .unset, .unset] [(.ref v2), (.ref b1), (.ref b1)]
    refine oiload X2 hx hby at_109 rfl ?_
    refine own_st (fun _ kS => XT.lload X2.here hx rfl (hb hby at_111) rfl kS) ?_
    show gs T2 m 113 #[vi p1, vi p2, vi p3, .val (.long qa), .second, .val (.long qb), .second, vi p6, vi i1, vi i2, vi 1, vi cp, vi 1, .val (.long q2), .second, vr a1d, .unset, .unset, .unset] [(.long q2), (.int 1), (.ref v2), (.ref b1), (.ref b1)]
    refine oS 3 X2 hx hZ hby hml hown (own_w hw 42 rfl) (own_w hw 43 rfl) (own_w hw 6 rfl) (own_w hw 44 rfl) (rm_make1 l Z a0 hw [] q2 zCS T2.heap n0 (Nat.le_trans (Nat.le_trans Z0 E1.1) Kc2.1) O2 S_CS P_CS) rfl (by decide) own_pd12 at_113 rfl rfl rfl (fun T6 L6 v6 X6 hQ6 => ?_)
    obtain ⟨bS_6, tN_6, kN_6, rfl, Nq6, Kc6, P6_0, P6_1, P6_2, P6_3, P6_4⟩ := hQ6
    have N6 := Fr.app N2 Nq6
    have ne_a1d_bS_6 : a1d ≠ bS_6 := Nat.ne_of_lt (Nat.lt_of_lt_of_le ((Exa.ext E1 E_a1).keep Kc2).lt P6_0)
    have ne_s1_bS_6 : s1 ≠ bS_6 := Nat.ne_of_lt (Nat.lt_of_lt_of_le ((Exa.ext E1 E_s1).keep Kc2).lt P6_0)
    have ne_t1_bS_6 : t1 ≠ bS_6 := Nat.ne_of_lt (Nat.lt_of_lt_of_le ((Arv.ext R_1 E1).keep Kc2 nin0).lt P6_0)
    have ne_b1_bS_6 : b1 ≠ bS_6 := Nat.ne_of_lt (Nat.lt_of_lt_of_le (A1.keep Kc2).lt P6_0)
    have ge_bS_6 : n0 ≤ bS_6 := Nat.le_trans (Nat.le_trans (Nat.le_trans Z0 E1.1) Kc2.1) P6_0
    have O6 := O2.keep Kc6 all0
    have ne_tN_6_a1d : tN_6 ≠ a1d := own_arne P6_4 (((Exa.ext E1 E_a1).keep Kc2).keep Kc6) (own_w hw 2 rfl)
    have ne_tN_6_s1 : tN_6 ≠ s1 := own_arne P6_4 (((Exa.ext E1 E_s1).keep Kc2).keep Kc6) (own_w hw 46 rfl)
    have ne_tN_6_b1 : tN_6 ≠ b1 := own_arne P6_4 ((A1.keep Kc2).keep Kc6) (own_w hw 2 rfl)
    have ne_tN_6_bS_6 : tN_6 ≠ bS_6 := own_arne P6_4 P6_1 (own_w hw 46 rfl)
    have CH6 := CHv.keep Kc6 sf0 CH2
    show gs T6 m 116 #[vi p1, vi p2, vi p3, .val (.long qa), .second, .val (.long qb), .second, vi p6, vi i1, vi i2, vi 1, vi cp, vi 1, .val (.long q2), .second, vr a1d, .unset, .unset, .unset] [(.ref bS_6), (.ref v2), (.ref b1), (.ref b1)]
    obtain ⟨_, _, ⟨T7, L7, k7, n7⟩, -, X7, sv7, sg7, ⟨Lc7, hQ7, l7, y7, z7, cr7⟩, st7⟩ := X6.specialBackS hx (y := (⟨"com/example/cartouche/cartouche/crosswalks/DcValue", "<init>", "(Lcom/example/cartouche/cartouche/crosswalks/DcElement;Ljava/lang/String;)V"⟩ : MethodName)) rfl hown (mvT hZ (own_w hw 79 rfl)) (mvT hZ (own_w hw 80 rfl)) (mvT hZ (own_w hw 81 rfl)) (by decide) (backOfSH (W := 1) (rm_dcInit l Z a0 hw [] b1 v2 bS_6 T6.heap n0 (Nat.le_trans (Nat.le_trans (Nat.le_trans Z0 E1.1) Kc2.1) Kc6.1)  ((A1.keep Kc2).keep Kc6) ge_b1 (Exa.ext O6.2 E_v2) P6_1 ((F1_element.keep Kc2 nin0).keep Kc6 nin0) ((F1_text.keep Kc2 nin0).keep Kc6 nin0)) hZ (own_w hw 81 rfl) (own_w hw 3 rfl) (by decide) (by decide) hEL CH6) (g := (mkF m 116 #[vi p1, vi p2, vi p3, .val (.long qa), .second, .val (.long qb), .second, vi p6, vi i1, vi i2, vi 1, vi cp, vi 1, .val (.long q2), .second, vr a1d, .unset, .unset, .unset] [(.ref bS_6), (.ref v2), (.ref b1), (.ref b1)])) rfl (by rw [hml]; rfl) (Steps.refl _) (a := b1) (argsL := [(.ref v2), (.ref bS_6)]) (rest := [(.ref b1)]) (lenOf own_pd13 rfl) rfl (by show 2 * 0 + _ ≤ _; exact Nat.le_of_eq rfl) (hb hby at_116) (fun _ _ => ⟨rfl, rfl, (by decide : 19 + 4 ≤ _), (by decide : 123 + 52 ≤ _)⟩)
    dsimp only [Pt.U, Pt.locs, Pt.cells, Pt.slots] at X7 l7 y7 z7 st7 hQ7 sv7 sg7 cr7
    subst l7 y7 z7
    obtain ⟨X7, hS, hZ, hown⟩ := rebS hS (Nat.le_trans (Nat.le_trans (Nat.le_trans hk0 E1.1) Kc2.1) Kc6.1) X7 sv7 sg7 hZ hown
    obtain ⟨rfl, Nq7, Kc7, P7_0, P7_1, P7_2⟩ := hQ7
    have N7 := Fr.app N6 Nq7
    have O7 := O6.keep Kc7 (allS ge_b1 all0)
    have CH7 := cr7.1
    refine own_tr st7 ?_
    show gs T7 m 119 #[vi p1, vi p2, vi p3, .val (.long qa), .second, .val (.long qb), .second, vi p6, vi i1, vi i2, vi 1, vi cp, vi 1, .val (.long q2), .second, vr a1d, .unset, .unset, .unset] [(.ref b1)]
    refine own_st (fun _ kS => XS.astore X7.here hx rfl (hb hby at_119) rfl rfl (l' := #[vi p1, vi p2, vi p3, .val (.long qa), .second, .val (.long qb), .second, vi p6, vi i1, vi i2, vi 1, vi cp, vi 1, .val (.long q2), .second, vr a1d, vr b1, .unset, .unset]) rfl kS) ?_
    show gs T7 m 121 #[vi p1, vi p2, vi p3, .val (.long qa), .second, .val (.long qb), .second, vi p6, vi i1, vi i2, vi 1, vi cp, vi 1, .val (.long q2), .second, vr a1d, vr b1, .unset, .unset] []
    exact sg_E1 hx hby hml hown hlk hret hZ hw (Nat.le_trans (Nat.le_trans (Nat.le_trans (Nat.le_trans Z0 E1.1) Kc2.1) Kc6.1) Kc7.1) hS (Nat.le_refl _) (X7.more (by decide) (by decide)) rfl N7 O7 p1 p2 p3 qa qb p6 i1 i2 cp q2 v1 v2 a1d b1 s1 bS_6 t1 tN_6 k1a kN_6 zCS ((((Exa.ext E1 E_a1).keep Kc2).keep Kc6).keep Kc7) ((((Fld.ext E1 Fe1).keep Kc2 nin0).keep Kc6 nin0).keep Kc7 (ninS ne_a1d_b1 nin0)) ((((Fld.ext E1 Ft1).keep Kc2 nin0).keep Kc6 nin0).keep Kc7 (ninS ne_a1d_b1 nin0)) ((((Exa.ext E1 E_s1).keep Kc2).keep Kc6).keep Kc7) ((((Fld.ext E1 F1v).keep Kc2 nin0).keep Kc6 nin0).keep Kc7 (ninS ne_s1_b1 nin0)) ((((Fld.ext E1 F1c).keep Kc2 nin0).keep Kc6 nin0).keep Kc7 (ninS ne_s1_b1 nin0)) P7_0 P7_1 P7_2 (P6_1.keep Kc7) (P6_3.keep Kc7 (ninS (Ne.symm ne_b1_bS_6) nin0)) (P6_2.keep Kc7 (ninS (Ne.symm ne_b1_bS_6) nin0)) ne_s1_bS_6 ((((Arv.ext R_1 E1).keep Kc2 nin0).keep Kc6 nin0).keep Kc7 (ninS ne_t1_b1 nin0)) (P6_4.keep Kc7 (ninS ne_tN_6_b1 nin0)) hveq hvne S_CS P_CS
  · rw [hk3]
    show gs T2 m 109 #[vi p1, vi p2, vi p3, .val (.long qa), .second, .val (.long qb), .second, vi p6, vi i1, vi i2, vi 1, vi cp, vi 2, .val (.long q2), .second, vr a1d, .unset, .unset, .unset] [(.ref v2), (.ref b1), (.ref b1)]
    refine oiload X2 hx hby at_109 rfl ?_
    refine own_st (fun _ kS => XT.lload X2.here hx rfl (hb hby at_111) rfl kS) ?_
    show gs T2 m 113 #[vi p1, vi p2, vi p3, .val (.long qa), .second, .val (.long qb), .second, vi p6, vi i1, vi i2, vi 1, vi cp, vi 2, .val (.long q2), .second, vr a1d, .unset, .unset, .unset] [(.long q2), (.int 2), (.ref v2), (.ref b1), (.ref b1)]
    refine oS 3 X2 hx hZ hby hml hown (own_w hw 42 rfl) (own_w hw 43 rfl) (own_w hw 6 rfl) (own_w hw 44 rfl) (rm_make2 l Z a0 hw [] q2 zCS T2.heap n0 (Nat.le_trans (Nat.le_trans Z0 E1.1) Kc2.1) O2 S_CS P_CS) rfl (by decide) own_pd12 at_113 rfl rfl rfl (fun T8 L8 v8 X8 hQ8 => ?_)
    obtain ⟨bS_8, tN_8, kN_8, rfl, Nq8, Kc8, P8_0, P8_1, P8_2, P8_3, P8_4⟩ := hQ8
    have N8 := Fr.app N2 Nq8
    have ne_a1d_bS_8 : a1d ≠ bS_8 := Nat.ne_of_lt (Nat.lt_of_lt_of_le ((Exa.ext E1 E_a1).keep Kc2).lt P8_0)
    have ne_s1_bS_8 : s1 ≠ bS_8 := Nat.ne_of_lt (Nat.lt_of_lt_of_le ((Exa.ext E1 E_s1).keep Kc2).lt P8_0)
    have ne_t1_bS_8 : t1 ≠ bS_8 := Nat.ne_of_lt (Nat.lt_of_lt_of_le ((Arv.ext R_1 E1).keep Kc2 nin0).lt P8_0)
    have ne_b1_bS_8 : b1 ≠ bS_8 := Nat.ne_of_lt (Nat.lt_of_lt_of_le (A1.keep Kc2).lt P8_0)
    have ge_bS_8 : n0 ≤ bS_8 := Nat.le_trans (Nat.le_trans (Nat.le_trans Z0 E1.1) Kc2.1) P8_0
    have O8 := O2.keep Kc8 all0
    have ne_tN_8_a1d : tN_8 ≠ a1d := own_arne P8_4 (((Exa.ext E1 E_a1).keep Kc2).keep Kc8) (own_w hw 2 rfl)
    have ne_tN_8_s1 : tN_8 ≠ s1 := own_arne P8_4 (((Exa.ext E1 E_s1).keep Kc2).keep Kc8) (own_w hw 46 rfl)
    have ne_tN_8_b1 : tN_8 ≠ b1 := own_arne P8_4 ((A1.keep Kc2).keep Kc8) (own_w hw 2 rfl)
    have ne_tN_8_bS_8 : tN_8 ≠ bS_8 := own_arne P8_4 P8_1 (own_w hw 46 rfl)
    have CH8 := CHv.keep Kc8 sf0 CH2
    show gs T8 m 116 #[vi p1, vi p2, vi p3, .val (.long qa), .second, .val (.long qb), .second, vi p6, vi i1, vi i2, vi 1, vi cp, vi 2, .val (.long q2), .second, vr a1d, .unset, .unset, .unset] [(.ref bS_8), (.ref v2), (.ref b1), (.ref b1)]
    obtain ⟨_, _, ⟨T9, L9, k9, n9⟩, -, X9, sv9, sg9, ⟨Lc9, hQ9, l9, y9, z9, cr9⟩, st9⟩ := X8.specialBackS hx (y := (⟨"com/example/cartouche/cartouche/crosswalks/DcValue", "<init>", "(Lcom/example/cartouche/cartouche/crosswalks/DcElement;Ljava/lang/String;)V"⟩ : MethodName)) rfl hown (mvT hZ (own_w hw 79 rfl)) (mvT hZ (own_w hw 80 rfl)) (mvT hZ (own_w hw 81 rfl)) (by decide) (backOfSH (W := 1) (rm_dcInit l Z a0 hw [] b1 v2 bS_8 T8.heap n0 (Nat.le_trans (Nat.le_trans (Nat.le_trans Z0 E1.1) Kc2.1) Kc8.1)  ((A1.keep Kc2).keep Kc8) ge_b1 (Exa.ext O8.2 E_v2) P8_1 ((F1_element.keep Kc2 nin0).keep Kc8 nin0) ((F1_text.keep Kc2 nin0).keep Kc8 nin0)) hZ (own_w hw 81 rfl) (own_w hw 3 rfl) (by decide) (by decide) hEL CH8) (g := (mkF m 116 #[vi p1, vi p2, vi p3, .val (.long qa), .second, .val (.long qb), .second, vi p6, vi i1, vi i2, vi 1, vi cp, vi 2, .val (.long q2), .second, vr a1d, .unset, .unset, .unset] [(.ref bS_8), (.ref v2), (.ref b1), (.ref b1)])) rfl (by rw [hml]; rfl) (Steps.refl _) (a := b1) (argsL := [(.ref v2), (.ref bS_8)]) (rest := [(.ref b1)]) (lenOf own_pd13 rfl) rfl (by show 2 * 0 + _ ≤ _; exact Nat.le_of_eq rfl) (hb hby at_116) (fun _ _ => ⟨rfl, rfl, (by decide : 19 + 4 ≤ _), (by decide : 125 + 52 ≤ _)⟩)
    dsimp only [Pt.U, Pt.locs, Pt.cells, Pt.slots] at X9 l9 y9 z9 st9 hQ9 sv9 sg9 cr9
    subst l9 y9 z9
    obtain ⟨X9, hS, hZ, hown⟩ := rebS hS (Nat.le_trans (Nat.le_trans (Nat.le_trans hk0 E1.1) Kc2.1) Kc8.1) X9 sv9 sg9 hZ hown
    obtain ⟨rfl, Nq9, Kc9, P9_0, P9_1, P9_2⟩ := hQ9
    have N9 := Fr.app N8 Nq9
    have O9 := O8.keep Kc9 (allS ge_b1 all0)
    have CH9 := cr9.1
    refine own_tr st9 ?_
    show gs T9 m 119 #[vi p1, vi p2, vi p3, .val (.long qa), .second, .val (.long qb), .second, vi p6, vi i1, vi i2, vi 1, vi cp, vi 2, .val (.long q2), .second, vr a1d, .unset, .unset, .unset] [(.ref b1)]
    refine own_st (fun _ kS => XS.astore X9.here hx rfl (hb hby at_119) rfl rfl (l' := #[vi p1, vi p2, vi p3, .val (.long qa), .second, .val (.long qb), .second, vi p6, vi i1, vi i2, vi 1, vi cp, vi 2, .val (.long q2), .second, vr a1d, vr b1, .unset, .unset]) rfl kS) ?_
    show gs T9 m 121 #[vi p1, vi p2, vi p3, .val (.long qa), .second, .val (.long qb), .second, vi p6, vi i1, vi i2, vi 1, vi cp, vi 2, .val (.long q2), .second, vr a1d, vr b1, .unset, .unset] []
    exact sg_EN hx hby hml hown hlk hret hZ hw (Nat.le_trans (Nat.le_trans (Nat.le_trans (Nat.le_trans Z0 E1.1) Kc2.1) Kc8.1) Kc9.1) hS (Nat.le_refl _) (X9.more (by decide) (by decide)) rfl N9 O9 p1 p2 p3 qa qb p6 i1 i2 (1 : Int32) cp (2 : Int32) q2 v1 v2 a1d b1 s1 bS_8 t1 tN_8 k1a kN_8 [(.int (nar .byte ((own_ch qa (0 : Int32)).toInt8.toInt32)))] [(.int (nar .byte ((own_ch q2 (0 : Int32)).toInt8.toInt32))), (.int (nar .byte ((own_ch q2 (1 : Int32)).toInt8.toInt32)))] zCS ((((Exa.ext E1 E_a1).keep Kc2).keep Kc8).keep Kc9) ((((Fld.ext E1 Fe1).keep Kc2 nin0).keep Kc8 nin0).keep Kc9 (ninS ne_a1d_b1 nin0)) ((((Fld.ext E1 Ft1).keep Kc2 nin0).keep Kc8 nin0).keep Kc9 (ninS ne_a1d_b1 nin0)) ((((Exa.ext E1 E_s1).keep Kc2).keep Kc8).keep Kc9) ((((Fld.ext E1 F1v).keep Kc2 nin0).keep Kc8 nin0).keep Kc9 (ninS ne_s1_b1 nin0)) ((((Fld.ext E1 F1c).keep Kc2 nin0).keep Kc8 nin0).keep Kc9 (ninS ne_s1_b1 nin0)) P9_0 P9_1 P9_2 (P8_1.keep Kc9) (P8_3.keep Kc9 (ninS (Ne.symm ne_b1_bS_8) nin0)) (P8_2.keep Kc9 (ninS (Ne.symm ne_b1_bS_8) nin0)) ne_s1_bS_8 ((((Arv.ext R_1 E1).keep Kc2 nin0).keep Kc8 nin0).keep Kc9 (ninS ne_t1_b1 nin0)) (P8_4.keep Kc9 (ninS ne_tN_8_b1 nin0)) (by decide) hveq hvne S_CS P_CS
  · rw [hk3]
    show gs T2 m 109 #[vi p1, vi p2, vi p3, .val (.long qa), .second, .val (.long qb), .second, vi p6, vi i1, vi i2, vi 1, vi cp, vi 3, .val (.long q2), .second, vr a1d, .unset, .unset, .unset] [(.ref v2), (.ref b1), (.ref b1)]
    refine oiload X2 hx hby at_109 rfl ?_
    refine own_st (fun _ kS => XT.lload X2.here hx rfl (hb hby at_111) rfl kS) ?_
    show gs T2 m 113 #[vi p1, vi p2, vi p3, .val (.long qa), .second, .val (.long qb), .second, vi p6, vi i1, vi i2, vi 1, vi cp, vi 3, .val (.long q2), .second, vr a1d, .unset, .unset, .unset] [(.long q2), (.int 3), (.ref v2), (.ref b1), (.ref b1)]
    refine oS 3 X2 hx hZ hby hml hown (own_w hw 42 rfl) (own_w hw 43 rfl) (own_w hw 6 rfl) (own_w hw 44 rfl) (rm_make3 l Z a0 hw [] q2 zCS T2.heap n0 (Nat.le_trans (Nat.le_trans Z0 E1.1) Kc2.1) O2 S_CS P_CS) rfl (by decide) own_pd12 at_113 rfl rfl rfl (fun T10 L10 v10 X10 hQ10 => ?_)
    obtain ⟨bS_10, tN_10, kN_10, rfl, Nq10, Kc10, P10_0, P10_1, P10_2, P10_3, P10_4⟩ := hQ10
    have N10 := Fr.app N2 Nq10
    have ne_a1d_bS_10 : a1d ≠ bS_10 := Nat.ne_of_lt (Nat.lt_of_lt_of_le ((Exa.ext E1 E_a1).keep Kc2).lt P10_0)
    have ne_s1_bS_10 : s1 ≠ bS_10 := Nat.ne_of_lt (Nat.lt_of_lt_of_le ((Exa.ext E1 E_s1).keep Kc2).lt P10_0)
    have ne_t1_bS_10 : t1 ≠ bS_10 := Nat.ne_of_lt (Nat.lt_of_lt_of_le ((Arv.ext R_1 E1).keep Kc2 nin0).lt P10_0)
    have ne_b1_bS_10 : b1 ≠ bS_10 := Nat.ne_of_lt (Nat.lt_of_lt_of_le (A1.keep Kc2).lt P10_0)
    have ge_bS_10 : n0 ≤ bS_10 := Nat.le_trans (Nat.le_trans (Nat.le_trans Z0 E1.1) Kc2.1) P10_0
    have O10 := O2.keep Kc10 all0
    have ne_tN_10_a1d : tN_10 ≠ a1d := own_arne P10_4 (((Exa.ext E1 E_a1).keep Kc2).keep Kc10) (own_w hw 2 rfl)
    have ne_tN_10_s1 : tN_10 ≠ s1 := own_arne P10_4 (((Exa.ext E1 E_s1).keep Kc2).keep Kc10) (own_w hw 46 rfl)
    have ne_tN_10_b1 : tN_10 ≠ b1 := own_arne P10_4 ((A1.keep Kc2).keep Kc10) (own_w hw 2 rfl)
    have ne_tN_10_bS_10 : tN_10 ≠ bS_10 := own_arne P10_4 P10_1 (own_w hw 46 rfl)
    have CH10 := CHv.keep Kc10 sf0 CH2
    show gs T10 m 116 #[vi p1, vi p2, vi p3, .val (.long qa), .second, .val (.long qb), .second, vi p6, vi i1, vi i2, vi 1, vi cp, vi 3, .val (.long q2), .second, vr a1d, .unset, .unset, .unset] [(.ref bS_10), (.ref v2), (.ref b1), (.ref b1)]
    obtain ⟨_, _, ⟨T11, L11, k11, n11⟩, -, X11, sv11, sg11, ⟨Lc11, hQ11, l11, y11, z11, cr11⟩, st11⟩ := X10.specialBackS hx (y := (⟨"com/example/cartouche/cartouche/crosswalks/DcValue", "<init>", "(Lcom/example/cartouche/cartouche/crosswalks/DcElement;Ljava/lang/String;)V"⟩ : MethodName)) rfl hown (mvT hZ (own_w hw 79 rfl)) (mvT hZ (own_w hw 80 rfl)) (mvT hZ (own_w hw 81 rfl)) (by decide) (backOfSH (W := 1) (rm_dcInit l Z a0 hw [] b1 v2 bS_10 T10.heap n0 (Nat.le_trans (Nat.le_trans (Nat.le_trans Z0 E1.1) Kc2.1) Kc10.1)  ((A1.keep Kc2).keep Kc10) ge_b1 (Exa.ext O10.2 E_v2) P10_1 ((F1_element.keep Kc2 nin0).keep Kc10 nin0) ((F1_text.keep Kc2 nin0).keep Kc10 nin0)) hZ (own_w hw 81 rfl) (own_w hw 3 rfl) (by decide) (by decide) hEL CH10) (g := (mkF m 116 #[vi p1, vi p2, vi p3, .val (.long qa), .second, .val (.long qb), .second, vi p6, vi i1, vi i2, vi 1, vi cp, vi 3, .val (.long q2), .second, vr a1d, .unset, .unset, .unset] [(.ref bS_10), (.ref v2), (.ref b1), (.ref b1)])) rfl (by rw [hml]; rfl) (Steps.refl _) (a := b1) (argsL := [(.ref v2), (.ref bS_10)]) (rest := [(.ref b1)]) (lenOf own_pd13 rfl) rfl (by show 2 * 0 + _ ≤ _; exact Nat.le_of_eq rfl) (hb hby at_116) (fun _ _ => ⟨rfl, rfl, (by decide : 19 + 4 ≤ _), (by decide : 127 + 52 ≤ _)⟩)
    dsimp only [Pt.U, Pt.locs, Pt.cells, Pt.slots] at X11 l11 y11 z11 st11 hQ11 sv11 sg11 cr11
    subst l11 y11 z11
    obtain ⟨X11, hS, hZ, hown⟩ := rebS hS (Nat.le_trans (Nat.le_trans (Nat.le_trans hk0 E1.1) Kc2.1) Kc10.1) X11 sv11 sg11 hZ hown
    obtain ⟨rfl, Nq11, Kc11, P11_0, P11_1, P11_2⟩ := hQ11
    have N11 := Fr.app N10 Nq11
    have O11 := O10.keep Kc11 (allS ge_b1 all0)
    have CH11 := cr11.1
    refine own_tr st11 ?_
    show gs T11 m 119 #[vi p1, vi p2, vi p3, .val (.long qa), .second, .val (.long qb), .second, vi p6, vi i1, vi i2, vi 1, vi cp, vi 3, .val (.long q2), .second, vr a1d, .unset, .unset, .unset] [(.ref b1)]
    refine own_st (fun _ kS => XS.astore X11.here hx rfl (hb hby at_119) rfl rfl (l' := #[vi p1, vi p2, vi p3, .val (.long qa), .second, .val (.long qb), .second, vi p6, vi i1, vi i2, vi 1, vi cp, vi 3, .val (.long q2), .second, vr a1d, vr b1, .unset, .unset]) rfl kS) ?_
    show gs T11 m 121 #[vi p1, vi p2, vi p3, .val (.long qa), .second, .val (.long qb), .second, vi p6, vi i1, vi i2, vi 1, vi cp, vi 3, .val (.long q2), .second, vr a1d, vr b1, .unset, .unset] []
    exact sg_EN hx hby hml hown hlk hret hZ hw (Nat.le_trans (Nat.le_trans (Nat.le_trans (Nat.le_trans Z0 E1.1) Kc2.1) Kc10.1) Kc11.1) hS (Nat.le_refl _) (X11.more (by decide) (by decide)) rfl N11 O11 p1 p2 p3 qa qb p6 i1 i2 (1 : Int32) cp (3 : Int32) q2 v1 v2 a1d b1 s1 bS_10 t1 tN_10 k1a kN_10 [(.int (nar .byte ((own_ch qa (0 : Int32)).toInt8.toInt32)))] [(.int (nar .byte ((own_ch q2 (0 : Int32)).toInt8.toInt32))), (.int (nar .byte ((own_ch q2 (1 : Int32)).toInt8.toInt32))), (.int (nar .byte ((own_ch q2 (2 : Int32)).toInt8.toInt32)))] zCS ((((Exa.ext E1 E_a1).keep Kc2).keep Kc10).keep Kc11) ((((Fld.ext E1 Fe1).keep Kc2 nin0).keep Kc10 nin0).keep Kc11 (ninS ne_a1d_b1 nin0)) ((((Fld.ext E1 Ft1).keep Kc2 nin0).keep Kc10 nin0).keep Kc11 (ninS ne_a1d_b1 nin0)) ((((Exa.ext E1 E_s1).keep Kc2).keep Kc10).keep Kc11) ((((Fld.ext E1 F1v).keep Kc2 nin0).keep Kc10 nin0).keep Kc11 (ninS ne_s1_b1 nin0)) ((((Fld.ext E1 F1c).keep Kc2 nin0).keep Kc10 nin0).keep Kc11 (ninS ne_s1_b1 nin0)) P11_0 P11_1 P11_2 (P10_1.keep Kc11) (P10_3.keep Kc11 (ninS (Ne.symm ne_b1_bS_10) nin0)) (P10_2.keep Kc11 (ninS (Ne.symm ne_b1_bS_10) nin0)) ne_s1_bS_10 ((((Arv.ext R_1 E1).keep Kc2 nin0).keep Kc10 nin0).keep Kc11 (ninS ne_t1_b1 nin0)) (P10_4.keep Kc11 (ninS ne_tN_10_b1 nin0)) (by decide) hveq hvne S_CS P_CS
theorem sg_B2 {p : Program} {l : Launch} {e : Env} {s : State} {m : MethodId} {args : Array Value} {below : List Frame} {meth : Method} {c : Code} {T0 : State} {locs : List Loc} {Z : State} {a0 : Array Value} {h0 : Heap} {n0 : Nat} {vm0 : Vm} {kv0 : Nat} (hx : p.tables.exec = Jvm.exec) (hby : c.code = code) (hml : c.maxLocals = 19) (hown : (s.setVm vm0).vm.findClass "com/example/cartouche/cartouche/crosswalks/DcValueEqualsPinLaw" = some m.cls) (hlk : meth.locks = false) (hret : meth.sig.returnType = some .boolean) (hZ : Z.Warmed39 (s.setVm vm0).vm) (hw : HW a0 Z) (Z0 : n0 ≤ h0.size) (hS : s.Since vm0 kv0) (hk0 : kv0 ≤ h0.size)
    (X0 : Stand p l e room_1 (s.setVm vm0) m args below meth c T0 locs 14 100) (e0 : T0.heap = h0) (N0 : Fr n0 locs) (O0 : Old Z n0 h0) (p1 : Int32) (p2 : Int32) (p3 : Int32) (qa : Int64) (qb : Int64) (p6 : Int32) (i1 : Int32) (i2 : Int32) (cp : Int32) (l2 : Int32) (q2 : Int64) (v1 : Addr) (v2 : Addr) (a1d : Addr) (s1 : Addr) (t1 : Addr) (k1a : ClassId) (w_TITLE : Addr) (w_CREATOR : Addr) (w_SUBJECT : Addr) (w_DESCRIPTION : Addr) (w_PUBLISHER : Addr) (w_CONTRIBUTOR : Addr) (w_DATE : Addr) (w_TYPE : Addr) (w_FORMAT : Addr) (w_IDENTIFIER : Addr) (w_SOURCE : Addr) (w_LANGUAGE : Addr) (w_RELATION : Addr) (w_COVERAGE : Addr) (w_RIGHTS : Addr) (zCS : Int32) (E_a1 : ek22 Z h0 a1d) (Fe1 : fk18 Z h0 a1d (.ref v1)) (Ft1 : fk19 Z h0 a1d (.ref s1)) (E_s1 : ek21 Z h0 s1) (F1v : fk17 Z h0 s1 (.ref t1)) (F1c : fk16 Z h0 s1 (.int 0)) (g_a1 : n0 ≤ a1d) (R_1 : Arv Z h0 t1 k1a .byte (2 : Int32) [(.int (nar .byte ((own_ch qa (0 : Int32)).toInt8.toInt32))), (.int (nar .byte ((own_ch qa (1 : Int32)).toInt8.toInt32)))] (.int 0)) (hveq : i1 = i2 → v1 = v2) (hvne : ¬ (i1 = i2) → v1 ≠ v2) (S_TITLE : sk1 Z Z.heap (.ref w_TITLE)) (S_CREATOR : sk2 Z Z.heap (.ref w_CREATOR)) (S_SUBJECT : sk3 Z Z.heap (.ref w_SUBJECT)) (S_DESCRIPTION : sk4 Z Z.heap (.ref w_DESCRIPTION)) (S_PUBLISHER : sk5 Z Z.heap (.ref w_PUBLISHER)) (S_CONTRIBUTOR : sk6 Z Z.heap (.ref w_CONTRIBUTOR)) (S_DATE : sk7 Z Z.heap (.ref w_DATE)) (S_TYPE : sk8 Z Z.heap (.ref w_TYPE)) (S_FORMAT : sk9 Z Z.heap (.ref w_FORMAT)) (S_IDENTIFIER : sk10 Z Z.heap (.ref w_IDENTIFIER)) (S_SOURCE : sk11 Z Z.heap (.ref w_SOURCE)) (S_LANGUAGE : sk12 Z Z.heap (.ref w_LANGUAGE)) (S_RELATION : sk13 Z Z.heap (.ref w_RELATION)) (S_COVERAGE : sk14 Z Z.heap (.ref w_COVERAGE)) (S_RIGHTS : sk15 Z Z.heap (.ref w_RIGHTS)) (E_TITLE : ek23 Z Z.heap w_TITLE) (E_CREATOR : ek23 Z Z.heap w_CREATOR) (E_SUBJECT : ek23 Z Z.heap w_SUBJECT) (E_DESCRIPTION : ek23 Z Z.heap w_DESCRIPTION) (E_PUBLISHER : ek23 Z Z.heap w_PUBLISHER) (E_CONTRIBUTOR : ek23 Z Z.heap w_CONTRIBUTOR) (E_DATE : ek23 Z Z.heap w_DATE) (E_TYPE : ek23 Z Z.heap w_TYPE) (E_FORMAT : ek23 Z Z.heap w_FORMAT) (E_IDENTIFIER : ek23 Z Z.heap w_IDENTIFIER) (E_SOURCE : ek23 Z Z.heap w_SOURCE) (E_LANGUAGE : ek23 Z Z.heap w_LANGUAGE) (E_RELATION : ek23 Z Z.heap w_RELATION) (E_COVERAGE : ek23 Z Z.heap w_COVERAGE) (E_RIGHTS : ek23 Z Z.heap w_RIGHTS) (hE2 : own_el i2 v2 w_TITLE w_CREATOR w_SUBJECT w_DESCRIPTION w_PUBLISHER w_CONTRIBUTOR w_DATE w_TYPE w_FORMAT w_IDENTIFIER w_SOURCE w_LANGUAGE w_RELATION w_COVERAGE w_RIGHTS) (E_v2 : ek23 Z Z.heap v2) (hL2 : l2 = (0 : Int32) ∨ l2 = (1 : Int32) ∨ l2 = (2 : Int32) ∨ l2 = (3 : Int32)) (S_CS : sk0 Z Z.heap (.int zCS)) (P_CS : ¬ zCS = 0) (hCH : CHv Z EL0 vm0 h0) :
    own_G p.tables e below (own_EW s (Q_law n0) room_1.cells room_1.slots) (T0.setTop (mkF m 100 #[vi p1, vi p2, vi p3, .val (.long qa), .second, .val (.long qb), .second, vi p6, vi i1, vi i2, vi 2, vi cp, vi l2, .val (.long q2), .second, vr a1d, .unset, .unset, .unset] [])) := by
  have hEL : EW Z a0 EL0 := own_ELw hw
  show gs T0 m 100 #[vi p1, vi p2, vi p3, .val (.long qa), .second, .val (.long qb), .second, vi p6, vi i1, vi i2, vi 2, vi cp, vi l2, .val (.long q2), .second, vr a1d, .unset, .unset, .unset] []
  obtain ⟨T1, h1, X1, e1, E1, A1, D1, -, st1⟩ := newO X0 hx hZ hown (own_w hw 1 rfl) (own_w hw 2 rfl) (own_w hw 3 rfl) e0 (g := (mkF m 100 #[vi p1, vi p2, vi p3, .val (.long qa), .second, .val (.long qb), .second, vi p6, vi i1, vi i2, vi 2, vi cp, vi l2, .val (.long q2), .second, vr a1d, .unset, .unset, .unset] [])) rfl (hb hby at_100) (by decide) (by decide)
  obtain ⟨b1, g1⟩ : ∃ z, z = h0.size := ⟨_, rfl⟩
  have ne_a1d_b1 : a1d ≠ b1 := Nat.ne_of_lt (Nat.lt_of_lt_of_eq E_a1.lt g1.symm)
  have ne_s1_b1 : s1 ≠ b1 := Nat.ne_of_lt (Nat.lt_of_lt_of_eq E_s1.lt g1.symm)
  have ne_t1_b1 : t1 ≠ b1 := Nat.ne_of_lt (Nat.lt_of_lt_of_eq R_1.lt g1.symm)
  have ge_b1 : n0 ≤ b1 := Nat.le_trans Z0 (Nat.le_of_eq g1.symm)
  rw [← g1] at A1 D1 st1
  have CH1 := CHv.ext E1 hCH
  have O1 := O0.ext E1
  have F1_element : fk18 Z h1 b1 .null := D1 (Or.inr (own_w hw 92 rfl)) (ty := (.object "com/example/cartouche/cartouche/crosswalks/DcElement")) (by decide)
  have F1_text : fk19 Z h1 b1 .null := D1 (Or.inr (own_w hw 96 rfl)) (ty := (.object "java/lang/String")) (by decide)
  refine own_st st1 ?_
  show gs T1 m 103 #[vi p1, vi p2, vi p3, .val (.long qa), .second, .val (.long qb), .second, vi p6, vi i1, vi i2, vi 2, vi cp, vi l2, .val (.long q2), .second, vr a1d, .unset, .unset, .unset] [(.ref b1)]
  refine own_st (fun _ kS => XS.dup X1.here hx rfl (hb hby at_103) rfl rfl kS) ?_
  refine oiload X1 hx hby at_104 rfl ?_
  refine oS 2 X1 hx hZ hby hml hown (own_w hw 4 rfl) (own_w hw 5 rfl) (own_w hw 6 rfl) (own_w hw 7 rfl) (rm_el l Z a0 hw [] i2 v2 w_TITLE w_CREATOR w_SUBJECT w_DESCRIPTION w_PUBLISHER w_CONTRIBUTOR w_DATE w_TYPE w_FORMAT w_IDENTIFIER w_SOURCE w_LANGUAGE w_RELATION w_COVERAGE w_RIGHTS h1 n0 (Nat.le_trans Z0 E1.1) O1 S_TITLE S_CREATOR S_SUBJECT S_DESCRIPTION S_PUBLISHER S_CONTRIBUTOR S_DATE S_TYPE S_FORMAT S_IDENTIFIER S_SOURCE S_LANGUAGE S_RELATION S_COVERAGE S_RIGHTS E_TITLE E_CREATOR E_SUBJECT E_DESCRIPTION E_PUBLISHER E_CONTRIBUTOR E_DATE E_TYPE E_FORMAT E_IDENTIFIER E_SOURCE E_LANGUAGE E_RELATION E_COVERAGE E_RIGHTS hE2) e1 (by decide) own_pd11 at_106 rfl rfl rfl (fun T2 L2 v2 X2 hQ2 => ?_)
  obtain ⟨rfl, Nq2, Kc2⟩ := hQ2
  have N2 := Fr.app N0 Nq2
  have O2 := O1.keep Kc2 all0
  have CH2 := CHv.keep Kc2 sf0 CH1
  show gs T2 m 109 #[vi p1, vi p2, vi p3, .val (.long qa), .second, .val (.long qb), .second, vi p6, vi i1, vi i2, vi 2, vi cp, vi l2, .val (.long q2), .second, vr a1d, .unset, .unset, .unset] [(.ref v2), (.ref b1), (.ref b1)]
  rcases hL2 with hk3 | hk3 | hk3 | hk3
  · rw [hk3]
    show gs T2 m 109 #[vi p1, vi p2, vi p3, .val (.long qa), .second, .val (.long qb), .second, vi p6, vi i1, vi i2, vi 2, vi cp, vi 0, .val (.long q2), .second, vr a1d, .unset, .unset, .unset] [(.ref v2), (.ref b1), (.ref b1)]
    refine oiload X2 hx hby at_109 rfl ?_
    refine own_st (fun _ kS => XT.lload X2.here hx rfl (hb hby at_111) rfl kS) ?_
    show gs T2 m 113 #[vi p1, vi p2, vi p3, .val (.long qa), .second, .val (.long qb), .second, vi p6, vi i1, vi i2, vi 2, vi cp, vi 0, .val (.long q2), .second, vr a1d, .unset, .unset, .unset] [(.long q2), (.int 0), (.ref v2), (.ref b1), (.ref b1)]
    obtain ⟨_, _, ⟨T4, L4, k4, n4⟩, -, X4, sv4, sg4, ⟨Lc4, hQ4, l4, y4, z4, cr4⟩, st4⟩ := callSS X2 hx (y := (⟨"com/example/cartouche/cartouche/crosswalks/DcValueEqualsPinLaw", "make", "(IJ)Ljava/lang/String;"⟩ : MethodName)) hown (mvT hZ (own_w hw 42 rfl)) (mvT hZ (own_w hw 43 rfl)) (mvT hZ (own_w hw 6 rfl)) (mvT hZ (own_w hw 44 rfl)) (by decide) (backOfSH (W := 3) (rm_make0 l Z a0 hw [] q2 T2.heap n0 (Nat.le_trans (Nat.le_trans Z0 E1.1) Kc2.1)  ) hZ (own_w hw 44 rfl) (own_w hw 6 rfl) (by decide) (by decide) hEL CH2) (g := (mkF m 113 #[vi p1, vi p2, vi p3, .val (.long qa), .second, .val (.long qb), .second, vi p6, vi i1, vi i2, vi 2, vi cp, vi 0, .val (.long q2), .second, vr a1d, .unset, .unset, .unset] [(.long q2), (.int 0), (.ref v2), (.ref b1), (.ref b1)])) rfl (by rw [hml]; rfl) (argsL := [(.int 0), (.long q2)]) (rest := [(.ref v2), (.ref b1), (.ref b1)]) (lenOf own_pd12 rfl) rfl (by show 2 * 0 + _ ≤ _; exact Nat.le_of_eq rfl) (hb hby at_113) (fun _ _ => ⟨rfl, rfl, (by decide : 16 + 4 ≤ _), (by decide : 117 + 8 ≤ _)⟩)
    dsimp only [Pt.U, Pt.locs, Pt.cells, Pt.slots] at X4 l4 y4 z4 st4 hQ4 sv4 sg4 cr4
    subst l4 y4 z4
    obtain ⟨X4, hS, hZ, hown⟩ := rebS hS (Nat.le_trans (Nat.le_trans hk0 E1.1) Kc2.1) X4 sv4 sg4 hZ hown
    obtain ⟨bS_4, tN_4, kN_4, rfl, Nq4, Kc4, P4_0, P4_1, P4_2, P4_3, P4_4⟩ := hQ4
    have N4 := Fr.app N2 Nq4
    have ne_a1d_bS_4 : a1d ≠ bS_4 := Nat.ne_of_lt (Nat.lt_of_lt_of_le ((Exa.ext E1 E_a1).keep Kc2).lt P4_0)
    have ne_s1_bS_4 : s1 ≠ bS_4 := Nat.ne_of_lt (Nat.lt_of_lt_of_le ((Exa.ext E1 E_s1).keep Kc2).lt P4_0)
    have ne_t1_bS_4 : t1 ≠ bS_4 := Nat.ne_of_lt (Nat.lt_of_lt_of_le ((Arv.ext R_1 E1).keep Kc2 nin0).lt P4_0)
    have ne_b1_bS_4 : b1 ≠ bS_4 := Nat.ne_of_lt (Nat.lt_of_lt_of_le (A1.keep Kc2).lt P4_0)
    have ge_bS_4 : n0 ≤ bS_4 := Nat.le_trans (Nat.le_trans (Nat.le_trans Z0 E1.1) Kc2.1) P4_0
    have O4 := O2.keep Kc4 all0
    have ne_tN_4_a1d : tN_4 ≠ a1d := own_arne P4_4 (((Exa.ext E1 E_a1).keep Kc2).keep Kc4) (own_w hw 2 rfl)
    have ne_tN_4_s1 : tN_4 ≠ s1 := own_arne P4_4 (((Exa.ext E1 E_s1).keep Kc2).keep Kc4) (own_w hw 46 rfl)
    have ne_tN_4_b1 : tN_4 ≠ b1 := own_arne P4_4 ((A1.keep Kc2).keep Kc4) (own_w hw 2 rfl)
    have ne_tN_4_bS_4 : tN_4 ≠ bS_4 := own_arne P4_4 P4_1 (own_w hw 46 rfl)
    have CH4 := cr4.1
    refine own_tr st4 ?_
    show gs T4 m 116 #[vi p1, vi p2, vi p3, .val (.long qa), .second, .val (.long qb), .second, vi p6, vi i1, vi i2, vi 2, vi cp, vi 0, .val (.long q2), .second, vr a1d, .unset, .unset, .unset] [(.ref bS_4), (.ref v2), (.ref b1), (.ref b1)]
    obtain ⟨_, _, ⟨T5, L5, k5, n5⟩, -, X5, sv5, sg5, ⟨Lc5, hQ5, l5, y5, z5, cr5⟩, st5⟩ := X4.specialBackS hx (y := (⟨"com/example/cartouche/cartouche/crosswalks/DcValue", "<init>", "(Lcom/example/cartouche/cartouche/crosswalks/DcElement;Ljava/lang/String;)V"⟩ : MethodName)) rfl hown (mvT hZ (own_w hw 79 rfl)) (mvT hZ (own_w hw 80 rfl)) (mvT hZ (own_w hw 81 rfl)) (by decide) (backOfSH (W := 1) (rm_dcInit l Z a0 hw [] b1 v2 bS_4 T4.heap n0 (Nat.le_trans (Nat.le_trans (Nat.le_trans Z0 E1.1) Kc2.1) Kc4.1)  ((A1.keep Kc2).keep Kc4) ge_b1 (Exa.ext O4.2 E_v2) P4_1 ((F1_element.keep Kc2 nin0).keep Kc4 nin0) ((F1_text.keep Kc2 nin0).keep Kc4 nin0)) hZ (own_w hw 81 rfl) (own_w hw 3 rfl) (by decide) (by decide) hEL CH4) (g := (mkF m 116 #[vi p1, vi p2, vi p3, .val (.long qa), .second, .val (.long qb), .second, vi p6, vi i1, vi i2, vi 2, vi cp, vi 0, .val (.long q2), .second, vr a1d, .unset, .unset, .unset] [(.ref bS_4), (.ref v2), (.ref b1), (.ref b1)])) rfl (by rw [hml]; rfl) (Steps.refl _) (a := b1) (argsL := [(.ref v2), (.ref bS_4)]) (rest := [(.ref b1)]) (lenOf own_pd13 rfl) rfl (by show 2 * 0 + _ ≤ _; exact Nat.le_of_eq rfl) (hb hby at_116) (fun _ _ => ⟨rfl, rfl, (by decide : 20 + 4 ≤ _), (by decide : 125 + 52 ≤ _)⟩)
    dsimp only [Pt.U, Pt.locs, Pt.cells, Pt.slots] at X5 l5 y5 z5 st5 hQ5 sv5 sg5 cr5
    subst l5 y5 z5
    obtain ⟨X5, hS, hZ, hown⟩ := rebS hS (Nat.le_refl _) X5 sv5 sg5 hZ hown
    obtain ⟨rfl, Nq5, Kc5, P5_0, P5_1, P5_2⟩ := hQ5
    have N5 := Fr.app N4 Nq5
    have O5 := O4.keep Kc5 (allS ge_b1 all0)
    have CH5 := cr5.1
    refine own_tr st5 ?_
    show gs T5 m 119 #[vi p1, vi p2, vi p3, .val (.long qa), .second, .val (.long qb), .second, vi p6, vi i1, vi i2, vi 2, vi cp, vi 0, .val (.long q2), .second, vr a1d, .unset, .unset, .unset] [(.ref b1)]
    refine own_st (fun _ kS => XS.astore X5.here hx rfl (hb hby at_119) rfl rfl (l' := #[vi p1, vi p2, vi p3, .val (.long qa), .second, .val (.long qb), .second, vi p6, vi i1, vi i2, vi 2, vi cp, vi 0, .val (.long q2), .second, vr a1d, vr b1, .unset, .unset]) rfl kS) ?_
    show gs T5 m 121 #[vi p1, vi p2, vi p3, .val (.long qa), .second, .val (.long qb), .second, vi p6, vi i1, vi i2, vi 2, vi cp, vi 0, .val (.long q2), .second, vr a1d, vr b1, .unset, .unset] []
    exact sg_EN hx hby hml hown hlk hret hZ hw (Nat.le_trans (Nat.le_trans (Nat.le_trans (Nat.le_trans Z0 E1.1) Kc2.1) Kc4.1) Kc5.1) hS (Nat.le_refl _) (X5.more (by decide) (by decide)) rfl N5 O5 p1 p2 p3 qa qb p6 i1 i2 (2 : Int32) cp (0 : Int32) q2 v1 v2 a1d b1 s1 bS_4 t1 tN_4 k1a kN_4 [(.int (nar .byte ((own_ch qa (0 : Int32)).toInt8.toInt32))), (.int (nar .byte ((own_ch qa (1 : Int32)).toInt8.toInt32)))] [] zCS ((((Exa.ext E1 E_a1).keep Kc2).keep Kc4).keep Kc5) ((((Fld.ext E1 Fe1).keep Kc2 nin0).keep Kc4 nin0).keep Kc5 (ninS ne_a1d_b1 nin0)) ((((Fld.ext E1 Ft1).keep Kc2 nin0).keep Kc4 nin0).keep Kc5 (ninS ne_a1d_b1 nin0)) ((((Exa.ext E1 E_s1).keep Kc2).keep Kc4).keep Kc5) ((((Fld.ext E1 F1v).keep Kc2 nin0).keep Kc4 nin0).keep Kc5 (ninS ne_s1_b1 nin0)) ((((Fld.ext E1 F1c).keep Kc2 nin0).keep Kc4 nin0).keep Kc5 (ninS ne_s1_b1 nin0)) P5_0 P5_1 P5_2 (P4_1.keep Kc5) (P4_3.keep Kc5 (ninS (Ne.symm ne_b1_bS_4) nin0)) (P4_2.keep Kc5 (ninS (Ne.symm ne_b1_bS_4) nin0)) ne_s1_bS_4 ((((Arv.ext R_1 E1).keep Kc2 nin0).keep Kc4 nin0).keep Kc5 (ninS ne_t1_b1 nin0)) (P4_4.keep Kc5 (ninS ne_tN_4_b1 nin0)) (by decide) hveq hvne S_CS P_CS
  · rw [hk3]
    show gs T2 m 109 #[vi p1, vi p2, vi p3, .val (.long qa), .second, .val (.long qb), .second, vi p6, vi i1, vi i2, vi 2, vi cp, vi 1, .val (.long q2), .second, vr a1d, .unset, .unset, .unset] [(.ref v2), (.ref b1), (.ref b1)]
    refine oiload X2 hx hby at_109 rfl ?_
    refine own_st (fun _ kS => XT.lload X2.here hx rfl (hb hby at_111) rfl kS) ?_
    show gs T2 m 113 #[vi p1, vi p2, vi p3, .val (.long qa), .second, .val (.long qb), .second, vi p6, vi i1, vi i2, vi 2, vi cp, vi 1, .val (.long q2), .second, vr a1d, .unset, .unset, .unset] [(.long q2), (.int 1), (.ref v2), (.ref b1), (.ref b1)]
    refine oS 3 X2 hx hZ hby hml hown (own_w hw 42 rfl) (own_w hw 43 rfl) (own_w hw 6 rfl) (own_w hw 44 rfl) (rm_make1 l Z a0 hw [] q2 zCS T2.heap n0 (Nat.le_trans (Nat.le_trans Z0 E1.1) Kc2.1) O2 S_CS P_CS) rfl (by decide) own_pd12 at_113 rfl rfl rfl (fun T6 L6 v6 X6 hQ6 => ?_)
    obtain ⟨bS_6, tN_6, kN_6, rfl, Nq6, Kc6, P6_0, P6_1, P6_2, P6_3, P6_4⟩ := hQ6
    have N6 := Fr.app N2 Nq6
    have ne_a1d_bS_6 : a1d ≠ bS_6 := Nat.ne_of_lt (Nat.lt_of_lt_of_le ((Exa.ext E1 E_a1).keep Kc2).lt P6_0)
    have ne_s1_bS_6 : s1 ≠ bS_6 := Nat.ne_of_lt (Nat.lt_of_lt_of_le ((Exa.ext E1 E_s1).keep Kc2).lt P6_0)
    have ne_t1_bS_6 : t1 ≠ bS_6 := Nat.ne_of_lt (Nat.lt_of_lt_of_le ((Arv.ext R_1 E1).keep Kc2 nin0).lt P6_0)
    have ne_b1_bS_6 : b1 ≠ bS_6 := Nat.ne_of_lt (Nat.lt_of_lt_of_le (A1.keep Kc2).lt P6_0)
    have ge_bS_6 : n0 ≤ bS_6 := Nat.le_trans (Nat.le_trans (Nat.le_trans Z0 E1.1) Kc2.1) P6_0
    have O6 := O2.keep Kc6 all0
    have ne_tN_6_a1d : tN_6 ≠ a1d := own_arne P6_4 (((Exa.ext E1 E_a1).keep Kc2).keep Kc6) (own_w hw 2 rfl)
    have ne_tN_6_s1 : tN_6 ≠ s1 := own_arne P6_4 (((Exa.ext E1 E_s1).keep Kc2).keep Kc6) (own_w hw 46 rfl)
    have ne_tN_6_b1 : tN_6 ≠ b1 := own_arne P6_4 ((A1.keep Kc2).keep Kc6) (own_w hw 2 rfl)
    have ne_tN_6_bS_6 : tN_6 ≠ bS_6 := own_arne P6_4 P6_1 (own_w hw 46 rfl)
    have CH6 := CHv.keep Kc6 sf0 CH2
    show gs T6 m 116 #[vi p1, vi p2, vi p3, .val (.long qa), .second, .val (.long qb), .second, vi p6, vi i1, vi i2, vi 2, vi cp, vi 1, .val (.long q2), .second, vr a1d, .unset, .unset, .unset] [(.ref bS_6), (.ref v2), (.ref b1), (.ref b1)]
    obtain ⟨_, _, ⟨T7, L7, k7, n7⟩, -, X7, sv7, sg7, ⟨Lc7, hQ7, l7, y7, z7, cr7⟩, st7⟩ := X6.specialBackS hx (y := (⟨"com/example/cartouche/cartouche/crosswalks/DcValue", "<init>", "(Lcom/example/cartouche/cartouche/crosswalks/DcElement;Ljava/lang/String;)V"⟩ : MethodName)) rfl hown (mvT hZ (own_w hw 79 rfl)) (mvT hZ (own_w hw 80 rfl)) (mvT hZ (own_w hw 81 rfl)) (by decide) (backOfSH (W := 1) (rm_dcInit l Z a0 hw [] b1 v2 bS_6 T6.heap n0 (Nat.le_trans (Nat.le_trans (Nat.le_trans Z0 E1.1) Kc2.1) Kc6.1)  ((A1.keep Kc2).keep Kc6) ge_b1 (Exa.ext O6.2 E_v2) P6_1 ((F1_element.keep Kc2 nin0).keep Kc6 nin0) ((F1_text.keep Kc2 nin0).keep Kc6 nin0)) hZ (own_w hw 81 rfl) (own_w hw 3 rfl) (by decide) (by decide) hEL CH6) (g := (mkF m 116 #[vi p1, vi p2, vi p3, .val (.long qa), .second, .val (.long qb), .second, vi p6, vi i1, vi i2, vi 2, vi cp, vi 1, .val (.long q2), .second, vr a1d, .unset, .unset, .unset] [(.ref bS_6), (.ref v2), (.ref b1), (.ref b1)])) rfl (by rw [hml]; rfl) (Steps.refl _) (a := b1) (argsL := [(.ref v2), (.ref bS_6)]) (rest := [(.ref b1)]) (lenOf own_pd13 rfl) rfl (by show 2 * 0 + _ ≤ _; exact Nat.le_of_eq rfl) (hb hby at_116) (fun _ _ => ⟨rfl, rfl, (by decide : 19 + 4 ≤ _), (by decide : 123 + 52 ≤ _)⟩)
    dsimp only [Pt.U, Pt.locs, Pt.cells, Pt.slots] at X7 l7 y7 z7 st7 hQ7 sv7 sg7 cr7
    subst l7 y7 z7
    obtain ⟨X7, hS, hZ, hown⟩ := rebS hS (Nat.le_trans (Nat.le_trans (Nat.le_trans hk0 E1.1) Kc2.1) Kc6.1) X7 sv7 sg7 hZ hown
    obtain ⟨rfl, Nq7, Kc7, P7_0, P7_1, P7_2⟩ := hQ7
    have N7 := Fr.app N6 Nq7
    have O7 := O6.keep Kc7 (allS ge_b1 all0)
    have CH7 := cr7.1
    refine own_tr st7 ?_
    show gs T7 m 119 #[vi p1, vi p2, vi p3, .val (.long qa), .second, .val (.long qb), .second, vi p6, vi i1, vi i2, vi 2, vi cp, vi 1, .val (.long q2), .second, vr a1d, .unset, .unset, .unset] [(.ref b1)]
    refine own_st (fun _ kS => XS.astore X7.here hx rfl (hb hby at_119) rfl rfl (l' := #[vi p1, vi p2, vi p3, .val (.long qa), .second, .val (.long qb), .second, vi p6, vi i1, vi i2, vi 2, vi cp, vi 1, .val (.long q2), .second, vr a1d, vr b1, .unset, .unset]) rfl kS) ?_
    show gs T7 m 121 #[vi p1, vi p2, vi p3, .val (.long qa), .second, .val (.long qb), .second, vi p6, vi i1, vi i2, vi 2, vi cp, vi 1, .val (.long q2), .second, vr a1d, vr b1, .unset, .unset] []
    exact sg_EN hx hby hml hown hlk hret hZ hw (Nat.le_trans (Nat.le_trans (Nat.le_trans (Nat.le_trans Z0 E1.1) Kc2.1) Kc6.1) Kc7.1) hS (Nat.le_refl _) (X7.more (by decide) (by decide)) rfl N7 O7 p1 p2 p3 qa qb p6 i1 i2 (2 : Int32) cp (1 : Int32) q2 v1 v2 a1d b1 s1 bS_6 t1 tN_6 k1a kN_6 [(.int (nar .byte ((own_ch qa (0 : Int32)).toInt8.toInt32))), (.int (nar .byte ((own_ch qa (1 : Int32)).toInt8.toInt32)))] [(.int (nar .byte ((own_ch q2 (0 : Int32)).toInt8.toInt32)))] zCS ((((Exa.ext E1 E_a1).keep Kc2).keep Kc6).keep Kc7) ((((Fld.ext E1 Fe1).keep Kc2 nin0).keep Kc6 nin0).keep Kc7 (ninS ne_a1d_b1 nin0)) ((((Fld.ext E1 Ft1).keep Kc2 nin0).keep Kc6 nin0).keep Kc7 (ninS ne_a1d_b1 nin0)) ((((Exa.ext E1 E_s1).keep Kc2).keep Kc6).keep Kc7) ((((Fld.ext E1 F1v).keep Kc2 nin0).keep Kc6 nin0).keep Kc7 (ninS ne_s1_b1 nin0)) ((((Fld.ext E1 F1c).keep Kc2 nin0).keep Kc6 nin0).keep Kc7 (ninS ne_s1_b1 nin0)) P7_0 P7_1 P7_2 (P6_1.keep Kc7) (P6_3.keep Kc7 (ninS (Ne.symm ne_b1_bS_6) nin0)) (P6_2.keep Kc7 (ninS (Ne.symm ne_b1_bS_6) nin0)) ne_s1_bS_6 ((((Arv.ext R_1 E1).keep Kc2 nin0).keep Kc6 nin0).keep Kc7 (ninS ne_t1_b1 nin0)) (P6_4.keep Kc7 (ninS ne_tN_6_b1 nin0)) (by decide) hveq hvne S_CS P_CS
  · rw [hk3]
    show gs T2 m 109 #[vi p1, vi p2, vi p3, .val (.long qa), .second, .val (.long qb), .second, vi p6, vi i1, vi i2, vi 2, vi cp, vi 2, .val (.long q2), .second, vr a1d, .unset, .unset, .unset] [(.ref v2), (.ref b1), (.ref b1)]
    refine oiload X2 hx hby at_109 rfl ?_
    refine own_st (fun _ kS => XT.lload X2.here hx rfl (hb hby at_111) rfl kS) ?_
    show gs T2 m 113 #[vi p1, vi p2, vi p3, .val (.long qa), .second, .val (.long qb), .second, vi p6, vi i1, vi i2, vi 2, vi cp, vi 2, .val (.long q2), .second, vr a1d, .unset, .unset, .unset] [(.long q2), (.int 2), (.ref v2), (.ref b1), (.ref b1)]
    refine oS 3 X2 hx hZ hby hml hown (own_w hw 42 rfl) (own_w hw 43 rfl) (own_w hw 6 rfl) (own_w hw 44 rfl) (rm_make2 l Z a0 hw [] q2 zCS T2.heap n0 (Nat.le_trans (Nat.le_trans Z0 E1.1) Kc2.1) O2 S_CS P_CS) rfl (by decide) own_pd12 at_113 rfl rfl rfl (fun T8 L8 v8 X8 hQ8 => ?_)
    obtain ⟨bS_8, tN_8, kN_8, rfl, Nq8, Kc8, P8_0, P8_1, P8_2, P8_3, P8_4⟩ := hQ8
    have N8 := Fr.app N2 Nq8
    have ne_a1d_bS_8 : a1d ≠ bS_8 := Nat.ne_of_lt (Nat.lt_of_lt_of_le ((Exa.ext E1 E_a1).keep Kc2).lt P8_0)
    have ne_s1_bS_8 : s1 ≠ bS_8 := Nat.ne_of_lt (Nat.lt_of_lt_of_le ((Exa.ext E1 E_s1).keep Kc2).lt P8_0)
    have ne_t1_bS_8 : t1 ≠ bS_8 := Nat.ne_of_lt (Nat.lt_of_lt_of_le ((Arv.ext R_1 E1).keep Kc2 nin0).lt P8_0)
    have ne_b1_bS_8 : b1 ≠ bS_8 := Nat.ne_of_lt (Nat.lt_of_lt_of_le (A1.keep Kc2).lt P8_0)
    have ge_bS_8 : n0 ≤ bS_8 := Nat.le_trans (Nat.le_trans (Nat.le_trans Z0 E1.1) Kc2.1) P8_0
    have O8 := O2.keep Kc8 all0
    have ne_tN_8_a1d : tN_8 ≠ a1d := own_arne P8_4 (((Exa.ext E1 E_a1).keep Kc2).keep Kc8) (own_w hw 2 rfl)
    have ne_tN_8_s1 : tN_8 ≠ s1 := own_arne P8_4 (((Exa.ext E1 E_s1).keep Kc2).keep Kc8) (own_w hw 46 rfl)
    have ne_tN_8_b1 : tN_8 ≠ b1 := own_arne P8_4 ((A1.keep Kc2).keep Kc8) (own_w hw 2 rfl)
    have ne_tN_8_bS_8 : tN_8 ≠ bS_8 := own_arne P8_4 P8_1 (own_w hw 46 rfl)
    have CH8 := CHv.keep Kc8 sf0 CH2
    show gs T8 m 116 #[vi p1, vi p2, vi p3, .val (.long qa), .second, .val (.long qb), .second, vi p6, vi i1, vi i2, vi 2, vi cp, vi 2, .val (.long q2), .second, vr a1d, .unset, .unset, .unset] [(.ref bS_8), (.ref v2), (.ref b1), (.ref b1)]
    obtain ⟨_, _, ⟨T9, L9, k9, n9⟩, -, X9, sv9, sg9, ⟨Lc9, hQ9, l9, y9, z9, cr9⟩, st9⟩ := X8.specialBackS hx (y := (⟨"com/example/cartouche/cartouche/crosswalks/DcValue", "<init>", "(Lcom/example/cartouche/cartouche/crosswalks/DcElement;Ljava/lang/String;)V"⟩ : MethodName)) rfl hown (mvT hZ (own_w hw 79 rfl)) (mvT hZ (own_w hw 80 rfl)) (mvT hZ (own_w hw 81 rfl)) (by decide) (backOfSH (W := 1) (rm_dcInit l Z a0 hw [] b1 v2 bS_8 T8.heap n0 (Nat.le_trans (Nat.le_trans (Nat.le_trans Z0 E1.1) Kc2.1) Kc8.1)  ((A1.keep Kc2).keep Kc8) ge_b1 (Exa.ext O8.2 E_v2) P8_1 ((F1_element.keep Kc2 nin0).keep Kc8 nin0) ((F1_text.keep Kc2 nin0).keep Kc8 nin0)) hZ (own_w hw 81 rfl) (own_w hw 3 rfl) (by decide) (by decide) hEL CH8) (g := (mkF m 116 #[vi p1, vi p2, vi p3, .val (.long qa), .second, .val (.long qb), .second, vi p6, vi i1, vi i2, vi 2, vi cp, vi 2, .val (.long q2), .second, vr a1d, .unset, .unset, .unset] [(.ref bS_8), (.ref v2), (.ref b1), (.ref b1)])) rfl (by rw [hml]; rfl) (Steps.refl _) (a := b1) (argsL := [(.ref v2), (.ref bS_8)]) (rest := [(.ref b1)]) (lenOf own_pd13 rfl) rfl (by show 2 * 0 + _ ≤ _; exact Nat.le_of_eq rfl) (hb hby at_116) (fun _ _ => ⟨rfl, rfl, (by decide : 19 + 4 ≤ _), (by decide : 125 + 52 ≤ _)⟩)
    dsimp only [Pt.U, Pt.locs, Pt.cells, Pt.slots] at X9 l9 y9 z9 st9 hQ9 sv9 sg9 cr9
    subst l9 y9 z9
    obtain ⟨X9, hS, hZ, hown⟩ := rebS hS (Nat.le_trans (Nat.le_trans (Nat.le_trans hk0 E1.1) Kc2.1) Kc8.1) X9 sv9 sg9 hZ hown
    obtain ⟨rfl, Nq9, Kc9, P9_0, P9_1, P9_2⟩ := hQ9
    have N9 := Fr.app N8 Nq9
    have O9 := O8.keep Kc9 (allS ge_b1 all0)
    have CH9 := cr9.1
    refine own_tr st9 ?_
    show gs T9 m 119 #[vi p1, vi p2, vi p3, .val (.long qa), .second, .val (.long qb), .second, vi p6, vi i1, vi i2, vi 2, vi cp, vi 2, .val (.long q2), .second, vr a1d, .unset, .unset, .unset] [(.ref b1)]
    refine own_st (fun _ kS => XS.astore X9.here hx rfl (hb hby at_119) rfl rfl (l' := #[vi p1, vi p2, vi p3, .val (.long qa), .second, .val (.long qb), .second, vi p6, vi i1, vi i2, vi 2, vi cp, vi 2, .val (.long q2), .second, vr a1d, vr b1, .unset, .unset]) rfl kS) ?_
    show gs T9 m 121 #[vi p1, vi p2, vi p3, .val (.long qa), .second, .val (.long qb), .second, vi p6, vi i1, vi i2, vi 2, vi cp, vi 2, .val (.long q2), .second, vr a1d, vr b1, .unset, .unset] []
    exact sg_E2 hx hby hml hown hlk hret hZ hw (Nat.le_trans (Nat.le_trans (Nat.le_trans (Nat.le_trans Z0 E1.1) Kc2.1) Kc8.1) Kc9.1) hS (Nat.le_refl _) (X9.more (by decide) (by decide)) rfl N9 O9 p1 p2 p3 qa qb p6 i1 i2 cp q2 v1 v2 a1d b1 s1 bS_8 t1 tN_8 k1a kN_8 zCS ((((Exa.ext E1 E_a1).keep Kc2).keep Kc8).keep Kc9) ((((Fld.ext E1 Fe1).keep Kc2 nin0).keep Kc8 nin0).keep Kc9 (ninS ne_a1d_b1 nin0)) ((((Fld.ext E1 Ft1).keep Kc2 nin0).keep Kc8 nin0).keep Kc9 (ninS ne_a1d_b1 nin0)) ((((Exa.ext E1 E_s1).keep Kc2).keep Kc8).keep Kc9) ((((Fld.ext E1 F1v).keep Kc2 nin0).keep Kc8 nin0).keep Kc9 (ninS ne_s1_b1 nin0)) ((((Fld.ext E1 F1c).keep Kc2 nin0).keep Kc8 nin0).keep Kc9 (ninS ne_s1_b1 nin0)) P9_0 P9_1 P9_2 (P8_1.keep Kc9) (P8_3.keep Kc9 (ninS (Ne.symm ne_b1_bS_8) nin0)) (P8_2.keep Kc9 (ninS (Ne.symm ne_b1_bS_8) nin0)) ne_s1_bS_8 ((((Arv.ext R_1 E1).keep Kc2 nin0).keep Kc8 nin0).keep Kc9 (ninS ne_t1_b1 nin0)) (P8_4.keep Kc9 (ninS ne_tN_8_b1 nin0)) hveq hvne S_CS P_CS
  · rw [hk3]
    show gs T2 m 109 #[vi p1, vi p2, vi p3, .val (.long qa), .second, .val (.long qb), .second, vi p6, vi i1, vi i2, vi 2, vi cp, vi 3, .val (.long q2), .second, vr a1d, .unset, .unset, .unset] [(.ref v2), (.ref b1), (.ref b1)]
    refine oiload X2 hx hby at_109 rfl ?_
    refine own_st (fun _ kS => XT.lload X2.here hx rfl (hb hby at_111) rfl kS) ?_
    show gs T2 m 113 #[vi p1, vi p2, vi p3, .val (.long qa), .second, .val (.long qb), .second, vi p6, vi i1, vi i2, vi 2, vi cp, vi 3, .val (.long q2), .second, vr a1d, .unset, .unset, .unset] [(.long q2), (.int 3), (.ref v2), (.ref b1), (.ref b1)]
    refine oS 3 X2 hx hZ hby hml hown (own_w hw 42 rfl) (own_w hw 43 rfl) (own_w hw 6 rfl) (own_w hw 44 rfl) (rm_make3 l Z a0 hw [] q2 zCS T2.heap n0 (Nat.le_trans (Nat.le_trans Z0 E1.1) Kc2.1) O2 S_CS P_CS) rfl (by decide) own_pd12 at_113 rfl rfl rfl (fun T10 L10 v10 X10 hQ10 => ?_)
    obtain ⟨bS_10, tN_10, kN_10, rfl, Nq10, Kc10, P10_0, P10_1, P10_2, P10_3, P10_4⟩ := hQ10
    have N10 := Fr.app N2 Nq10
    have ne_a1d_bS_10 : a1d ≠ bS_10 := Nat.ne_of_lt (Nat.lt_of_lt_of_le ((Exa.ext E1 E_a1).keep Kc2).lt P10_0)
    have ne_s1_bS_10 : s1 ≠ bS_10 := Nat.ne_of_lt (Nat.lt_of_lt_of_le ((Exa.ext E1 E_s1).keep Kc2).lt P10_0)
    have ne_t1_bS_10 : t1 ≠ bS_10 := Nat.ne_of_lt (Nat.lt_of_lt_of_le ((Arv.ext R_1 E1).keep Kc2 nin0).lt P10_0)
    have ne_b1_bS_10 : b1 ≠ bS_10 := Nat.ne_of_lt (Nat.lt_of_lt_of_le (A1.keep Kc2).lt P10_0)
    have ge_bS_10 : n0 ≤ bS_10 := Nat.le_trans (Nat.le_trans (Nat.le_trans Z0 E1.1) Kc2.1) P10_0
    have O10 := O2.keep Kc10 all0
    have ne_tN_10_a1d : tN_10 ≠ a1d := own_arne P10_4 (((Exa.ext E1 E_a1).keep Kc2).keep Kc10) (own_w hw 2 rfl)
    have ne_tN_10_s1 : tN_10 ≠ s1 := own_arne P10_4 (((Exa.ext E1 E_s1).keep Kc2).keep Kc10) (own_w hw 46 rfl)
    have ne_tN_10_b1 : tN_10 ≠ b1 := own_arne P10_4 ((A1.keep Kc2).keep Kc10) (own_w hw 2 rfl)
    have ne_tN_10_bS_10 : tN_10 ≠ bS_10 := own_arne P10_4 P10_1 (own_w hw 46 rfl)
    have CH10 := CHv.keep Kc10 sf0 CH2
    show gs T10 m 116 #[vi p1, vi p2, vi p3, .val (.long qa), .second, .val (.long qb), .second, vi p6, vi i1, vi i2, vi 2, vi cp, vi 3, .val (.long q2), .second, vr a1d, .unset, .unset, .unset] [(.ref bS_10), (.ref v2), (.ref b1), (.ref b1)]
    obtain ⟨_, _, ⟨T11, L11, k11, n11⟩, -, X11, sv11, sg11, ⟨Lc11, hQ11, l11, y11, z11, cr11⟩, st11⟩ := X10.specialBackS hx (y := (⟨"com/example/cartouche/cartouche/crosswalks/DcValue", "<init>", "(Lcom/example/cartouche/cartouche/crosswalks/DcElement;Ljava/lang/String;)V"⟩ : MethodName)) rfl hown (mvT hZ (own_w hw 79 rfl)) (mvT hZ (own_w hw 80 rfl)) (mvT hZ (own_w hw 81 rfl)) (by decide) (backOfSH (W := 1) (rm_dcInit l Z a0 hw [] b1 v2 bS_10 T10.heap n0 (Nat.le_trans (Nat.le_trans (Nat.le_trans Z0 E1.1) Kc2.1) Kc10.1)  ((A1.keep Kc2).keep Kc10) ge_b1 (Exa.ext O10.2 E_v2) P10_1 ((F1_element.keep Kc2 nin0).keep Kc10 nin0) ((F1_text.keep Kc2 nin0).keep Kc10 nin0)) hZ (own_w hw 81 rfl) (own_w hw 3 rfl) (by decide) (by decide) hEL CH10) (g := (mkF m 116 #[vi p1, vi p2, vi p3, .val (.long qa), .second, .val (.long qb), .second, vi p6, vi i1, vi i2, vi 2, vi cp, vi 3, .val (.long q2), .second, vr a1d, .unset, .unset, .unset] [(.ref bS_10), (.ref v2), (.ref b1), (.ref b1)])) rfl (by rw [hml]; rfl) (Steps.refl _) (a := b1) (argsL := [(.ref v2), (.ref bS_10)]) (rest := [(.ref b1)]) (lenOf own_pd13 rfl) rfl (by show 2 * 0 + _ ≤ _; exact Nat.le_of_eq rfl) (hb hby at_116) (fun _ _ => ⟨rfl, rfl, (by decide : 19 + 4 ≤ _), (by decide : 127 + 52 ≤ _)⟩)
    dsimp only [Pt.U, Pt.locs, Pt.cells, Pt.slots] at X11 l11 y11 z11 st11 hQ11 sv11 sg11 cr11
    subst l11 y11 z11
    obtain ⟨X11, hS, hZ, hown⟩ := rebS hS (Nat.le_trans (Nat.le_trans (Nat.le_trans hk0 E1.1) Kc2.1) Kc10.1) X11 sv11 sg11 hZ hown
    obtain ⟨rfl, Nq11, Kc11, P11_0, P11_1, P11_2⟩ := hQ11
    have N11 := Fr.app N10 Nq11
    have O11 := O10.keep Kc11 (allS ge_b1 all0)
    have CH11 := cr11.1
    refine own_tr st11 ?_
    show gs T11 m 119 #[vi p1, vi p2, vi p3, .val (.long qa), .second, .val (.long qb), .second, vi p6, vi i1, vi i2, vi 2, vi cp, vi 3, .val (.long q2), .second, vr a1d, .unset, .unset, .unset] [(.ref b1)]
    refine own_st (fun _ kS => XS.astore X11.here hx rfl (hb hby at_119) rfl rfl (l' := #[vi p1, vi p2, vi p3, .val (.long qa), .second, .val (.long qb), .second, vi p6, vi i1, vi i2, vi 2, vi cp, vi 3, .val (.long q2), .second, vr a1d, vr b1, .unset, .unset]) rfl kS) ?_
    show gs T11 m 121 #[vi p1, vi p2, vi p3, .val (.long qa), .second, .val (.long qb), .second, vi p6, vi i1, vi i2, vi 2, vi cp, vi 3, .val (.long q2), .second, vr a1d, vr b1, .unset, .unset] []
    exact sg_EN hx hby hml hown hlk hret hZ hw (Nat.le_trans (Nat.le_trans (Nat.le_trans (Nat.le_trans Z0 E1.1) Kc2.1) Kc10.1) Kc11.1) hS (Nat.le_refl _) (X11.more (by decide) (by decide)) rfl N11 O11 p1 p2 p3 qa qb p6 i1 i2 (2 : Int32) cp (3 : Int32) q2 v1 v2 a1d b1 s1 bS_10 t1 tN_10 k1a kN_10 [(.int (nar .byte ((own_ch qa (0 : Int32)).toInt8.toInt32))), (.int (nar .byte ((own_ch qa (1 : Int32)).toInt8.toInt32)))] [(.int (nar .byte ((own_ch q2 (0 : Int32)).toInt8.toInt32))), (.int (nar .byte ((own_ch q2 (1 : Int32)).toInt8.toInt32))), (.int (nar .byte ((own_ch q2 (2 : Int32)).toInt8.toInt32)))] zCS ((((Exa.ext E1 E_a1).keep Kc2).keep Kc10).keep Kc11) ((((Fld.ext E1 Fe1).keep Kc2 nin0).keep Kc10 nin0).keep Kc11 (ninS ne_a1d_b1 nin0)) ((((Fld.ext E1 Ft1).keep Kc2 nin0).keep Kc10 nin0).keep Kc11 (ninS ne_a1d_b1 nin0)) ((((Exa.ext E1 E_s1).keep Kc2).keep Kc10).keep Kc11) ((((Fld.ext E1 F1v).keep Kc2 nin0).keep Kc10 nin0).keep Kc11 (ninS ne_s1_b1 nin0)) ((((Fld.ext E1 F1c).keep Kc2 nin0).keep Kc10 nin0).keep Kc11 (ninS ne_s1_b1 nin0)) P11_0 P11_1 P11_2 (P10_1.keep Kc11) (P10_3.keep Kc11 (ninS (Ne.symm ne_b1_bS_10) nin0)) (P10_2.keep Kc11 (ninS (Ne.symm ne_b1_bS_10) nin0)) ne_s1_bS_10 ((((Arv.ext R_1 E1).keep Kc2 nin0).keep Kc10 nin0).keep Kc11 (ninS ne_t1_b1 nin0)) (P10_4.keep Kc11 (ninS ne_tN_10_b1 nin0)) (by decide) hveq hvne S_CS P_CS
theorem sg_B3 {p : Program} {l : Launch} {e : Env} {s : State} {m : MethodId} {args : Array Value} {below : List Frame} {meth : Method} {c : Code} {T0 : State} {locs : List Loc} {Z : State} {a0 : Array Value} {h0 : Heap} {n0 : Nat} {vm0 : Vm} {kv0 : Nat} (hx : p.tables.exec = Jvm.exec) (hby : c.code = code) (hml : c.maxLocals = 19) (hown : (s.setVm vm0).vm.findClass "com/example/cartouche/cartouche/crosswalks/DcValueEqualsPinLaw" = some m.cls) (hlk : meth.locks = false) (hret : meth.sig.returnType = some .boolean) (hZ : Z.Warmed39 (s.setVm vm0).vm) (hw : HW a0 Z) (Z0 : n0 ≤ h0.size) (hS : s.Since vm0 kv0) (hk0 : kv0 ≤ h0.size)
    (X0 : Stand p l e room_1 (s.setVm vm0) m args below meth c T0 locs 14 100) (e0 : T0.heap = h0) (N0 : Fr n0 locs) (O0 : Old Z n0 h0) (p1 : Int32) (p2 : Int32) (p3 : Int32) (qa : Int64) (qb : Int64) (p6 : Int32) (i1 : Int32) (i2 : Int32) (cp : Int32) (l2 : Int32) (q2 : Int64) (v1 : Addr) (v2 : Addr) (a1d : Addr) (s1 : Addr) (t1 : Addr) (k1a : ClassId) (w_TITLE : Addr) (w_CREATOR : Addr) (w_SUBJECT : Addr) (w_DESCRIPTION : Addr) (w_PUBLISHER : Addr) (w_CONTRIBUTOR : Addr) (w_DATE : Addr) (w_TYPE : Addr) (w_FORMAT : Addr) (w_IDENTIFIER : Addr) (w_SOURCE : Addr) (w_LANGUAGE : Addr) (w_RELATION : Addr) (w_COVERAGE : Addr) (w_RIGHTS : Addr) (zCS : Int32) (E_a1 : ek22 Z h0 a1d) (Fe1 : fk18 Z h0 a1d (.ref v1)) (Ft1 : fk19 Z h0 a1d (.ref s1)) (E_s1 : ek21 Z h0 s1) (F1v : fk17 Z h0 s1 (.ref t1)) (F1c : fk16 Z h0 s1 (.int 0)) (g_a1 : n0 ≤ a1d) (R_1 : Arv Z h0 t1 k1a .byte (3 : Int32) [(.int (nar .byte ((own_ch qa (0 : Int32)).toInt8.toInt32))), (.int (nar .byte ((own_ch qa (1 : Int32)).toInt8.toInt32))), (.int (nar .byte ((own_ch qa (2 : Int32)).toInt8.toInt32)))] (.int 0)) (hveq : i1 = i2 → v1 = v2) (hvne : ¬ (i1 = i2) → v1 ≠ v2) (S_TITLE : sk1 Z Z.heap (.ref w_TITLE)) (S_CREATOR : sk2 Z Z.heap (.ref w_CREATOR)) (S_SUBJECT : sk3 Z Z.heap (.ref w_SUBJECT)) (S_DESCRIPTION : sk4 Z Z.heap (.ref w_DESCRIPTION)) (S_PUBLISHER : sk5 Z Z.heap (.ref w_PUBLISHER)) (S_CONTRIBUTOR : sk6 Z Z.heap (.ref w_CONTRIBUTOR)) (S_DATE : sk7 Z Z.heap (.ref w_DATE)) (S_TYPE : sk8 Z Z.heap (.ref w_TYPE)) (S_FORMAT : sk9 Z Z.heap (.ref w_FORMAT)) (S_IDENTIFIER : sk10 Z Z.heap (.ref w_IDENTIFIER)) (S_SOURCE : sk11 Z Z.heap (.ref w_SOURCE)) (S_LANGUAGE : sk12 Z Z.heap (.ref w_LANGUAGE)) (S_RELATION : sk13 Z Z.heap (.ref w_RELATION)) (S_COVERAGE : sk14 Z Z.heap (.ref w_COVERAGE)) (S_RIGHTS : sk15 Z Z.heap (.ref w_RIGHTS)) (E_TITLE : ek23 Z Z.heap w_TITLE) (E_CREATOR : ek23 Z Z.heap w_CREATOR) (E_SUBJECT : ek23 Z Z.heap w_SUBJECT) (E_DESCRIPTION : ek23 Z Z.heap w_DESCRIPTION) (E_PUBLISHER : ek23 Z Z.heap w_PUBLISHER) (E_CONTRIBUTOR : ek23 Z Z.heap w_CONTRIBUTOR) (E_DATE : ek23 Z Z.heap w_DATE) (E_TYPE : ek23 Z Z.heap w_TYPE) (E_FORMAT : ek23 Z Z.heap w_FORMAT) (E_IDENTIFIER : ek23 Z Z.heap w_IDENTIFIER) (E_SOURCE : ek23 Z Z.heap w_SOURCE) (E_LANGUAGE : ek23 Z Z.heap w_LANGUAGE) (E_RELATION : ek23 Z Z.heap w_RELATION) (E_COVERAGE : ek23 Z Z.heap w_COVERAGE) (E_RIGHTS : ek23 Z Z.heap w_RIGHTS) (hE2 : own_el i2 v2 w_TITLE w_CREATOR w_SUBJECT w_DESCRIPTION w_PUBLISHER w_CONTRIBUTOR w_DATE w_TYPE w_FORMAT w_IDENTIFIER w_SOURCE w_LANGUAGE w_RELATION w_COVERAGE w_RIGHTS) (E_v2 : ek23 Z Z.heap v2) (hL2 : l2 = (0 : Int32) ∨ l2 = (1 : Int32) ∨ l2 = (2 : Int32) ∨ l2 = (3 : Int32)) (S_CS : sk0 Z Z.heap (.int zCS)) (P_CS : ¬ zCS = 0) (hCH : CHv Z EL0 vm0 h0) :
    own_G p.tables e below (own_EW s (Q_law n0) room_1.cells room_1.slots) (T0.setTop (mkF m 100 #[vi p1, vi p2, vi p3, .val (.long qa), .second, .val (.long qb), .second, vi p6, vi i1, vi i2, vi 3, vi cp, vi l2, .val (.long q2), .second, vr a1d, .unset, .unset, .unset] [])) := by
  have hEL : EW Z a0 EL0 := own_ELw hw
  show gs T0 m 100 #[vi p1, vi p2, vi p3, .val (.long qa), .second, .val (.long qb), .second, vi p6, vi i1, vi i2, vi 3, vi cp, vi l2, .val (.long q2), .second, vr a1d, .unset, .unset, .unset] []
  obtain ⟨T1, h1, X1, e1, E1, A1, D1, -, st1⟩ := newO X0 hx hZ hown (own_w hw 1 rfl) (own_w hw 2 rfl) (own_w hw 3 rfl) e0 (g := (mkF m 100 #[vi p1, vi p2, vi p3, .val (.long qa), .second, .val (.long qb), .second, vi p6, vi i1, vi i2, vi 3, vi cp, vi l2, .val (.long q2), .second, vr a1d, .unset, .unset, .unset] [])) rfl (hb hby at_100) (by decide) (by decide)
  obtain ⟨b1, g1⟩ : ∃ z, z = h0.size := ⟨_, rfl⟩
  have ne_a1d_b1 : a1d ≠ b1 := Nat.ne_of_lt (Nat.lt_of_lt_of_eq E_a1.lt g1.symm)
  have ne_s1_b1 : s1 ≠ b1 := Nat.ne_of_lt (Nat.lt_of_lt_of_eq E_s1.lt g1.symm)
  have ne_t1_b1 : t1 ≠ b1 := Nat.ne_of_lt (Nat.lt_of_lt_of_eq R_1.lt g1.symm)
  have ge_b1 : n0 ≤ b1 := Nat.le_trans Z0 (Nat.le_of_eq g1.symm)
  rw [← g1] at A1 D1 st1
  have CH1 := CHv.ext E1 hCH
  have O1 := O0.ext E1
  have F1_element : fk18 Z h1 b1 .null := D1 (Or.inr (own_w hw 92 rfl)) (ty := (.object "com/example/cartouche/cartouche/crosswalks/DcElement")) (by decide)
  have F1_text : fk19 Z h1 b1 .null := D1 (Or.inr (own_w hw 96 rfl)) (ty := (.object "java/lang/String")) (by decide)
  refine own_st st1 ?_
  show gs T1 m 103 #[vi p1, vi p2, vi p3, .val (.long qa), .second, .val (.long qb), .second, vi p6, vi i1, vi i2, vi 3, vi cp, vi l2, .val (.long q2), .second, vr a1d, .unset, .unset, .unset] [(.ref b1)]
  refine own_st (fun _ kS => XS.dup X1.here hx rfl (hb hby at_103) rfl rfl kS) ?_
  refine oiload X1 hx hby at_104 rfl ?_
  refine oS 2 X1 hx hZ hby hml hown (own_w hw 4 rfl) (own_w hw 5 rfl) (own_w hw 6 rfl) (own_w hw 7 rfl) (rm_el l Z a0 hw [] i2 v2 w_TITLE w_CREATOR w_SUBJECT w_DESCRIPTION w_PUBLISHER w_CONTRIBUTOR w_DATE w_TYPE w_FORMAT w_IDENTIFIER w_SOURCE w_LANGUAGE w_RELATION w_COVERAGE w_RIGHTS h1 n0 (Nat.le_trans Z0 E1.1) O1 S_TITLE S_CREATOR S_SUBJECT S_DESCRIPTION S_PUBLISHER S_CONTRIBUTOR S_DATE S_TYPE S_FORMAT S_IDENTIFIER S_SOURCE S_LANGUAGE S_RELATION S_COVERAGE S_RIGHTS E_TITLE E_CREATOR E_SUBJECT E_DESCRIPTION E_PUBLISHER E_CONTRIBUTOR E_DATE E_TYPE E_FORMAT E_IDENTIFIER E_SOURCE E_LANGUAGE E_RELATION E_COVERAGE E_RIGHTS hE2) e1 (by decide) own_pd11 at_106 rfl rfl rfl (fun T2 L2 v2 X2 hQ2 => ?_)
  obtain ⟨rfl, Nq2, Kc2⟩ := hQ2
  have N2 := Fr.app N0 Nq2
  have O2 := O1.keep Kc2 all0
  have CH2 := CHv.keep Kc2 sf0 CH1
  show gs T2 m 109 #[vi p1, vi p2, vi p3, .val (.long qa), .second, .val (.long qb), .second, vi p6, vi i1, vi i2, vi 3, vi cp, vi l2, .val (.long q2), .second, vr a1d, .unset, .unset, .unset] [(.ref v2), (.ref b1), (.ref b1)]
  rcases hL2 with hk3 | hk3 | hk3 | hk3
  · rw [hk3]
    show gs T2 m 109 #[vi p1, vi p2, vi p3, .val (.long qa), .second, .val (.long qb), .second, vi p6, vi i1, vi i2, vi 3, vi cp, vi 0, .val (.long q2), .second, vr a1d, .unset, .unset, .unset] [(.ref v2), (.ref b1), (.ref b1)]
    refine oiload X2 hx hby at_109 rfl ?_
    refine own_st (fun _ kS => XT.lload X2.here hx rfl (hb hby at_111) rfl kS) ?_
    show gs T2 m 113 #[vi p1, vi p2, vi p3, .val (.long qa), .second, .val (.long qb), .second, vi p6, vi i1, vi i2, vi 3, vi cp, vi 0, .val (.long q2), .second, vr a1d, .unset, .unset, .unset] [(.long q2), (.int 0), (.ref v2), (.ref b1), (.ref b1)]
    obtain ⟨_, _, ⟨T4, L4, k4, n4⟩, -, X4, sv4, sg4, ⟨Lc4, hQ4, l4, y4, z4, cr4⟩, st4⟩ := callSS X2 hx (y := (⟨"com/example/cartouche/cartouche/crosswalks/DcValueEqualsPinLaw", "make", "(IJ)Ljava/lang/String;"⟩ : MethodName)) hown (mvT hZ (own_w hw 42 rfl)) (mvT hZ (own_w hw 43 rfl)) (mvT hZ (own_w hw 6 rfl)) (mvT hZ (own_w hw 44 rfl)) (by decide) (backOfSH (W := 3) (rm_make0 l Z a0 hw [] q2 T2.heap n0 (Nat.le_trans (Nat.le_trans Z0 E1.1) Kc2.1)  ) hZ (own_w hw 44 rfl) (own_w hw 6 rfl) (by decide) (by decide) hEL CH2) (g := (mkF m 113 #[vi p1, vi p2, vi p3, .val (.long qa), .second, .val (.long qb), .second, vi p6, vi i1, vi i2, vi 3, vi cp, vi 0, .val (.long q2), .second, vr a1d, .unset, .unset, .unset] [(.long q2), (.int 0), (.ref v2), (.ref b1), (.ref b1)])) rfl (by rw [hml]; rfl) (argsL := [(.int 0), (.long q2)]) (rest := [(.ref v2), (.ref b1), (.ref b1)]) (lenOf own_pd12 rfl) rfl (by show 2 * 0 + _ ≤ _; exact Nat.le_of_eq rfl) (hb hby at_113) (fun _ _ => ⟨rfl, rfl, (by decide : 16 + 4 ≤ _), (by decide : 117 + 8 ≤ _)⟩)
    dsimp only [Pt.U, Pt.locs, Pt.cells, Pt.slots] at X4 l4 y4 z4 st4 hQ4 sv4 sg4 cr4
    subst l4 y4 z4
    obtain ⟨X4, hS, hZ, hown⟩ := rebS hS (Nat.le_trans (Nat.le_trans hk0 E1.1) Kc2.1) X4 sv4 sg4 hZ hown
    obtain ⟨bS_4, tN_4, kN_4, rfl, Nq4, Kc4, P4_0, P4_1, P4_2, P4_3, P4_4⟩ := hQ4
    have N4 := Fr.app N2 Nq4
    have ne_a1d_bS_4 : a1d ≠ bS_4 := Nat.ne_of_lt (Nat.lt_of_lt_of_le ((Exa.ext E1 E_a1).keep Kc2).lt P4_0)
    have ne_s1_bS_4 : s1 ≠ bS_4 := Nat.ne_of_lt (Nat.lt_of_lt_of_le ((Exa.ext E1 E_s1).keep Kc2).lt P4_0)
    have ne_t1_bS_4 : t1 ≠ bS_4 := Nat.ne_of_lt (Nat.lt_of_lt_of_le ((Arv.ext R_1 E1).keep Kc2 nin0).lt P4_0)
    have ne_b1_bS_4 : b1 ≠ bS_4 := Nat.ne_of_lt (Nat.lt_of_lt_of_le (A1.keep Kc2).lt P4_0)
    have ge_bS_4 : n0 ≤ bS_4 := Nat.le_trans (Nat.le_trans (Nat.le_trans Z0 E1.1) Kc2.1) P4_0
    have O4 := O2.keep Kc4 all0
    have ne_tN_4_a1d : tN_4 ≠ a1d := own_arne P4_4 (((Exa.ext E1 E_a1).keep Kc2).keep Kc4) (own_w hw 2 rfl)
    have ne_tN_4_s1 : tN_4 ≠ s1 := own_arne P4_4 (((Exa.ext E1 E_s1).keep Kc2).keep Kc4) (own_w hw 46 rfl)
    have ne_tN_4_b1 : tN_4 ≠ b1 := own_arne P4_4 ((A1.keep Kc2).keep Kc4) (own_w hw 2 rfl)
    have ne_tN_4_bS_4 : tN_4 ≠ bS_4 := own_arne P4_4 P4_1 (own_w hw 46 rfl)
    have CH4 := cr4.1
    refine own_tr st4 ?_
    show gs T4 m 116 #[vi p1, vi p2, vi p3, .val (.long qa), .second, .val (.long qb), .second, vi p6, vi i1, vi i2, vi 3, vi cp, vi 0, .val (.long q2), .second, vr a1d, .unset, .unset, .unset] [(.ref bS_4), (.ref v2), (.ref b1), (.ref b1)]
    obtain ⟨_, _, ⟨T5, L5, k5, n5⟩, -, X5, sv5, sg5, ⟨Lc5, hQ5, l5, y5, z5, cr5⟩, st5⟩ := X4.specialBackS hx (y := (⟨"com/example/cartouche/cartouche/crosswalks/DcValue", "<init>", "(Lcom/example/cartouche/cartouche/crosswalks/DcElement;Ljava/lang/String;)V"⟩ : MethodName)) rfl hown (mvT hZ (own_w hw 79 rfl)) (mvT hZ (own_w hw 80 rfl)) (mvT hZ (own_w hw 81 rfl)) (by decide) (backOfSH (W := 1) (rm_dcInit l Z a0 hw [] b1 v2 bS_4 T4.heap n0 (Nat.le_trans (Nat.le_trans (Nat.le_trans Z0 E1.1) Kc2.1) Kc4.1)  ((A1.keep Kc2).keep Kc4) ge_b1 (Exa.ext O4.2 E_v2) P4_1 ((F1_element.keep Kc2 nin0).keep Kc4 nin0) ((F1_text.keep Kc2 nin0).keep Kc4 nin0)) hZ (own_w hw 81 rfl) (own_w hw 3 rfl) (by decide) (by decide) hEL CH4) (g := (mkF m 116 #[vi p1, vi p2, vi p3, .val (.long qa), .second, .val (.long qb), .second, vi p6, vi i1, vi i2, vi 3, vi cp, vi 0, .val (.long q2), .second, vr a1d, .unset, .unset, .unset] [(.ref bS_4), (.ref v2), (.ref b1), (.ref b1)])) rfl (by rw [hml]; rfl) (Steps.refl _) (a := b1) (argsL := [(.ref v2), (.ref bS_4)]) (rest := [(.ref b1)]) (lenOf own_pd13 rfl) rfl (by show 2 * 0 + _ ≤ _; exact Nat.le_of_eq rfl) (hb hby at_116) (fun _ _ => ⟨rfl, rfl, (by decide : 20 + 4 ≤ _), (by decide : 125 + 52 ≤ _)⟩)
    dsimp only [Pt.U, Pt.locs, Pt.cells, Pt.slots] at X5 l5 y5 z5 st5 hQ5 sv5 sg5 cr5
    subst l5 y5 z5
    obtain ⟨X5, hS, hZ, hown⟩ := rebS hS (Nat.le_refl _) X5 sv5 sg5 hZ hown
    obtain ⟨rfl, Nq5, Kc5, P5_0, P5_1, P5_2⟩ := hQ5
    have N5 := Fr.app N4 Nq5
    have O5 := O4.keep Kc5 (allS ge_b1 all0)
    have CH5 := cr5.1
    refine own_tr st5 ?_
    show gs T5 m 119 #[vi p1, vi p2, vi p3, .val (.long qa), .second, .val (.long qb), .second, vi p6, vi i1, vi i2, vi 3, vi cp, vi 0, .val (.long q2), .second, vr a1d, .unset, .unset, .unset] [(.ref b1)]
    refine own_st (fun _ kS => XS.astore X5.here hx rfl (hb hby at_119) rfl rfl (l' := #[vi p1, vi p2, vi p3, .val (.long qa), .second, .val (.long qb), .second, vi p6, vi i1, vi i2, vi 3, vi cp, vi 0, .val (.long q2), .second, vr a1d, vr b1, .unset, .unset]) rfl kS) ?_
    show gs T5 m 121 #[vi p1, vi p2, vi p3, .val (.long qa), .second, .val (.long qb), .second, vi p6, vi i1, vi i2, vi 3, vi cp, vi 0, .val (.long q2), .second, vr a1d, vr b1, .unset, .unset] []
    exact sg_EN hx hby hml hown hlk hret hZ hw (Nat.le_trans (Nat.le_trans (Nat.le_trans (Nat.le_trans Z0 E1.1) Kc2.1) Kc4.1) Kc5.1) hS (Nat.le_refl _) (X5.more (by decide) (by decide)) rfl N5 O5 p1 p2 p3 qa qb p6 i1 i2 (3 : Int32) cp (0 : Int32) q2 v1 v2 a1d b1 s1 bS_4 t1 tN_4 k1a kN_4 [(.int (nar .byte ((own_ch qa (0 : Int32)).toInt8.toInt32))), (.int (nar .byte ((own_ch qa (1 : Int32)).toInt8.toInt32))), (.int (nar .byte ((own_ch qa (2 : Int32)).toInt8.toInt32)))] [] zCS ((((Exa.ext E1 E_a1).keep Kc2).keep Kc4).keep Kc5) ((((Fld.ext E1 Fe1).keep Kc2 nin0).keep Kc4 nin0).keep Kc5 (ninS ne_a1d_b1 nin0)) ((((Fld.ext E1 Ft1).keep Kc2 nin0).keep Kc4 nin0).keep Kc5 (ninS ne_a1d_b1 nin0)) ((((Exa.ext E1 E_s1).keep Kc2).keep Kc4).keep Kc5) ((((Fld.ext E1 F1v).keep Kc2 nin0).keep Kc4 nin0).keep Kc5 (ninS ne_s1_b1 nin0)) ((((Fld.ext E1 F1c).keep Kc2 nin0).keep Kc4 nin0).keep Kc5 (ninS ne_s1_b1 nin0)) P5_0 P5_1 P5_2 (P4_1.keep Kc5) (P4_3.keep Kc5 (ninS (Ne.symm ne_b1_bS_4) nin0)) (P4_2.keep Kc5 (ninS (Ne.symm ne_b1_bS_4) nin0)) ne_s1_bS_4 ((((Arv.ext R_1 E1).keep Kc2 nin0).keep Kc4 nin0).keep Kc5 (ninS ne_t1_b1 nin0)) (P4_4.keep Kc5 (ninS ne_tN_4_b1 nin0)) (by decide) hveq hvne S_CS P_CS
  · rw [hk3]
    show gs T2 m 109 #[vi p1, vi p2, vi p3, .val (.long qa), .second, .val (.long qb), .second, vi p6, vi i1, vi i2, vi 3, vi cp, vi 1, .val (.long q2), .second, vr a1d, .unset, .unset, .unset] [(.ref v2), (.ref b1), (.ref b1)]
    refine oiload X2 hx hby at_109 rfl ?_
    refine own_st (fun _ kS => XT.lload X2.here hx rfl (hb hby at_111) rfl kS) ?_
    show gs T2 m 113 #[vi p1, vi p2, vi p3, .val (.long qa), .second, .val (.long qb), .second, vi p6, vi i1, vi i2, vi 3, vi cp, vi 1, .val (.long q2), .second, vr a1d, .unset, .unset, .unset] [(.long q2), (.int 1), (.ref v2), (.ref b1), (.ref b1)]
    refine oS 3 X2 hx hZ hby hml hown (own_w hw 42 rfl) (own_w hw 43 rfl) (own_w hw 6 rfl) (own_w hw 44 rfl) (rm_make1 l Z a0 hw [] q2 zCS T2.heap n0 (Nat.le_trans (Nat.le_trans Z0 E1.1) Kc2.1) O2 S_CS P_CS) rfl (by decide) own_pd12 at_113 rfl rfl rfl (fun T6 L6 v6 X6 hQ6 => ?_)
    obtain ⟨bS_6, tN_6, kN_6, rfl, Nq6, Kc6, P6_0, P6_1, P6_2, P6_3, P6_4⟩ := hQ6
    have N6 := Fr.app N2 Nq6
    have ne_a1d_bS_6 : a1d ≠ bS_6 := Nat.ne_of_lt (Nat.lt_of_lt_of_le ((Exa.ext E1 E_a1).keep Kc2).lt P6_0)
    have ne_s1_bS_6 : s1 ≠ bS_6 := Nat.ne_of_lt (Nat.lt_of_lt_of_le ((Exa.ext E1 E_s1).keep Kc2).lt P6_0)
    have ne_t1_bS_6 : t1 ≠ bS_6 := Nat.ne_of_lt (Nat.lt_of_lt_of_le ((Arv.ext R_1 E1).keep Kc2 nin0).lt P6_0)
    have ne_b1_bS_6 : b1 ≠ bS_6 := Nat.ne_of_lt (Nat.lt_of_lt_of_le (A1.keep Kc2).lt P6_0)
    have ge_bS_6 : n0 ≤ bS_6 := Nat.le_trans (Nat.le_trans (Nat.le_trans Z0 E1.1) Kc2.1) P6_0
    have O6 := O2.keep Kc6 all0
    have ne_tN_6_a1d : tN_6 ≠ a1d := own_arne P6_4 (((Exa.ext E1 E_a1).keep Kc2).keep Kc6) (own_w hw 2 rfl)
    have ne_tN_6_s1 : tN_6 ≠ s1 := own_arne P6_4 (((Exa.ext E1 E_s1).keep Kc2).keep Kc6) (own_w hw 46 rfl)
    have ne_tN_6_b1 : tN_6 ≠ b1 := own_arne P6_4 ((A1.keep Kc2).keep Kc6) (own_w hw 2 rfl)
    have ne_tN_6_bS_6 : tN_6 ≠ bS_6 := own_arne P6_4 P6_1 (own_w hw 46 rfl)
    have CH6 := CHv.keep Kc6 sf0 CH2
    show gs T6 m 116 #[vi p1, vi p2, vi p3, .val (.long qa), .second, .val (.long qb), .second, vi p6, vi i1, vi i2, vi 3, vi cp, vi 1, .val (.long q2), .second, vr a1d, .unset, .unset, .unset] [(.ref bS_6), (.ref v2), (.ref b1), (.ref b1)]
    obtain ⟨_, _, ⟨T7, L7, k7, n7⟩, -, X7, sv7, sg7, ⟨Lc7, hQ7, l7, y7, z7, cr7⟩, st7⟩ := X6.specialBackS hx (y := (⟨"com/example/cartouche/cartouche/crosswalks/DcValue", "<init>", "(Lcom/example/cartouche/cartouche/crosswalks/DcElement;Ljava/lang/String;)V"⟩ : MethodName)) rfl hown (mvT hZ (own_w hw 79 rfl)) (mvT hZ (own_w hw 80 rfl)) (mvT hZ (own_w hw 81 rfl)) (by decide) (backOfSH (W := 1) (rm_dcInit l Z a0 hw [] b1 v2 bS_6 T6.heap n0 (Nat.le_trans (Nat.le_trans (Nat.le_trans Z0 E1.1) Kc2.1) Kc6.1)  ((A1.keep Kc2).keep Kc6) ge_b1 (Exa.ext O6.2 E_v2) P6_1 ((F1_element.keep Kc2 nin0).keep Kc6 nin0) ((F1_text.keep Kc2 nin0).keep Kc6 nin0)) hZ (own_w hw 81 rfl) (own_w hw 3 rfl) (by decide) (by decide) hEL CH6) (g := (mkF m 116 #[vi p1, vi p2, vi p3, .val (.long qa), .second, .val (.long qb), .second, vi p6, vi i1, vi i2, vi 3, vi cp, vi 1, .val (.long q2), .second, vr a1d, .unset, .unset, .unset] [(.ref bS_6), (.ref v2), (.ref b1), (.ref b1)])) rfl (by rw [hml]; rfl) (Steps.refl _) (a := b1) (argsL := [(.ref v2), (.ref bS_6)]) (rest := [(.ref b1)]) (lenOf own_pd13 rfl) rfl (by show 2 * 0 + _ ≤ _; exact Nat.le_of_eq rfl) (hb hby at_116) (fun _ _ => ⟨rfl, rfl, (by decide : 19 + 4 ≤ _), (by decide : 123 + 52 ≤ _)⟩)
    dsimp only [Pt.U, Pt.locs, Pt.cells, Pt.slots] at X7 l7 y7 z7 st7 hQ7 sv7 sg7 cr7
    subst l7 y7 z7
    obtain ⟨X7, hS, hZ, hown⟩ := rebS hS (Nat.le_trans (Nat.le_trans (Nat.le_trans hk0 E1.1) Kc2.1) Kc6.1) X7 sv7 sg7 hZ hown
    obtain ⟨rfl, Nq7, Kc7, P7_0, P7_1, P7_2⟩ := hQ7
    have N7 := Fr.app N6 Nq7
    have O7 := O6.keep Kc7 (allS ge_b1 all0)
    have CH7 := cr7.1
    refine own_tr st7 ?_
    show gs T7 m 119 #[vi p1, vi p2, vi p3, .val (.long qa), .second, .val (.long qb), .second, vi p6, vi i1, vi i2, vi 3, vi cp, vi 1, .val (.long q2), .second, vr a1d, .unset, .unset, .unset] [(.ref b1)]
    refine own_st (fun _ kS => XS.astore X7.here hx rfl (hb hby at_119) rfl rfl (l' := #[vi p1, vi p2, vi p3, .val (.long qa), .second, .val (.long qb), .second, vi p6, vi i1, vi i2, vi 3, vi cp, vi 1, .val (.long q2), .second, vr a1d, vr b1, .unset, .unset]) rfl kS) ?_
    show gs T7 m 121 #[vi p1, vi p2, vi p3, .val (.long qa), .second, .val (.long qb), .second, vi p6, vi i1, vi i2, vi 3, vi cp, vi 1, .val (.long q2), .second, vr a1d, vr b1, .unset, .unset] []
    exact sg_EN hx hby hml hown hlk hret hZ hw (Nat.le_trans (Nat.le_trans (Nat.le_trans (Nat.le_trans Z0 E1.1) Kc2.1) Kc6.1) Kc7.1) hS (Nat.le_refl _) (X7.more (by decide) (by decide)) rfl N7 O7 p1 p2 p3 qa qb p6 i1 i2 (3 : Int32) cp (1 : Int32) q2 v1 v2 a1d b1 s1 bS_6 t1 tN_6 k1a kN_6 [(.int (nar .byte ((own_ch qa (0 : Int32)).toInt8.toInt32))), (.int (nar .byte ((own_ch qa (1 : Int32)).toInt8.toInt32))), (.int (nar .byte ((own_ch qa (2 : Int32)).toInt8.toInt32)))] [(.int (nar .byte ((own_ch q2 (0 : Int32)).toInt8.toInt32)))] zCS ((((Exa.ext E1 E_a1).keep Kc2).keep Kc6).keep Kc7) ((((Fld.ext E1 Fe1).keep Kc2 nin0).keep Kc6 nin0).keep Kc7 (ninS ne_a1d_b1 nin0)) ((((Fld.ext E1 Ft1).keep Kc2 nin0).keep Kc6 nin0).keep Kc7 (ninS ne_a1d_b1 nin0)) ((((Exa.ext E1 E_s1).keep Kc2).keep Kc6).keep Kc7) ((((Fld.ext E1 F1v).keep Kc2 nin0).keep Kc6 nin0).keep Kc7 (ninS ne_s1_b1 nin0)) ((((Fld.ext E1 F1c).keep Kc2 nin0).keep Kc6 nin0).keep Kc7 (ninS ne_s1_b1 nin0)) P7_0 P7_1 P7_2 (P6_1.keep Kc7) (P6_3.keep Kc7 (ninS (Ne.symm ne_b1_bS_6) nin0)) (P6_2.keep Kc7 (ninS (Ne.symm ne_b1_bS_6) nin0)) ne_s1_bS_6 ((((Arv.ext R_1 E1).keep Kc2 nin0).keep Kc6 nin0).keep Kc7 (ninS ne_t1_b1 nin0)) (P6_4.keep Kc7 (ninS ne_tN_6_b1 nin0)) (by decide) hveq hvne S_CS P_CS
  · rw [hk3]
    show gs T2 m 109 #[vi p1, vi p2, vi p3, .val (.long qa), .second, .val (.long qb), .second, vi p6, vi i1, vi i2, vi 3, vi cp, vi 2, .val (.long q2), .second, vr a1d, .unset, .unset, .unset] [(.ref v2), (.ref b1), (.ref b1)]
    refine oiload X2 hx hby at_109 rfl ?_
    refine own_st (fun _ kS => XT.lload X2.here hx rfl (hb hby at_111) rfl kS) ?_
    show gs T2 m 113 #[vi p1, vi p2, vi p3, .val (.long qa), .second, .val (.long qb), .second, vi p6, vi i1, vi i2, vi 3, vi cp, vi 2, .val (.long q2), .second, vr a1d, .unset, .unset, .unset] [(.long q2), (.int 2), (.ref v2), (.ref b1), (.ref b1)]
    refine oS 3 X2 hx hZ hby hml hown (own_w hw 42 rfl) (own_w hw 43 rfl) (own_w hw 6 rfl) (own_w hw 44 rfl) (rm_make2 l Z a0 hw [] q2 zCS T2.heap n0 (Nat.le_trans (Nat.le_trans Z0 E1.1) Kc2.1) O2 S_CS P_CS) rfl (by decide) own_pd12 at_113 rfl rfl rfl (fun T8 L8 v8 X8 hQ8 => ?_)
    obtain ⟨bS_8, tN_8, kN_8, rfl, Nq8, Kc8, P8_0, P8_1, P8_2, P8_3, P8_4⟩ := hQ8
    have N8 := Fr.app N2 Nq8
    have ne_a1d_bS_8 : a1d ≠ bS_8 := Nat.ne_of_lt (Nat.lt_of_lt_of_le ((Exa.ext E1 E_a1).keep Kc2).lt P8_0)
    have ne_s1_bS_8 : s1 ≠ bS_8 := Nat.ne_of_lt (Nat.lt_of_lt_of_le ((Exa.ext E1 E_s1).keep Kc2).lt P8_0)
    have ne_t1_bS_8 : t1 ≠ bS_8 := Nat.ne_of_lt (Nat.lt_of_lt_of_le ((Arv.ext R_1 E1).keep Kc2 nin0).lt P8_0)
    have ne_b1_bS_8 : b1 ≠ bS_8 := Nat.ne_of_lt (Nat.lt_of_lt_of_le (A1.keep Kc2).lt P8_0)
    have ge_bS_8 : n0 ≤ bS_8 := Nat.le_trans (Nat.le_trans (Nat.le_trans Z0 E1.1) Kc2.1) P8_0
    have O8 := O2.keep Kc8 all0
    have ne_tN_8_a1d : tN_8 ≠ a1d := own_arne P8_4 (((Exa.ext E1 E_a1).keep Kc2).keep Kc8) (own_w hw 2 rfl)
    have ne_tN_8_s1 : tN_8 ≠ s1 := own_arne P8_4 (((Exa.ext E1 E_s1).keep Kc2).keep Kc8) (own_w hw 46 rfl)
    have ne_tN_8_b1 : tN_8 ≠ b1 := own_arne P8_4 ((A1.keep Kc2).keep Kc8) (own_w hw 2 rfl)
    have ne_tN_8_bS_8 : tN_8 ≠ bS_8 := own_arne P8_4 P8_1 (own_w hw 46 rfl)
    have CH8 := CHv.keep Kc8 sf0 CH2
    show gs T8 m 116 #[vi p1, vi p2, vi p3, .val (.long qa), .second, .val (.long qb), .second, vi p6, vi i1, vi i2, vi 3, vi cp, vi 2, .val (.long q2), .second, vr a1d, .unset, .unset, .unset] [(.ref bS_8), (.ref v2), (.ref b1), (.ref b1)]
    obtain ⟨_, _, ⟨T9, L9, k9, n9⟩, -, X9, sv9, sg9, ⟨Lc9, hQ9, l9, y9, z9, cr9⟩, st9⟩ := X8.specialBackS hx (y := (⟨"com/example/cartouche/cartouche/crosswalks/DcValue", "<init>", "(Lcom/example/cartouche/cartouche/crosswalks/DcElement;Ljava/lang/String;)V"⟩ : MethodName)) rfl hown (mvT hZ (own_w hw 79 rfl)) (mvT hZ (own_w hw 80 rfl)) (mvT hZ (own_w hw 81 rfl)) (by decide) (backOfSH (W := 1) (rm_dcInit l Z a0 hw [] b1 v2 bS_8 T8.heap n0 (Nat.le_trans (Nat.le_trans (Nat.le_trans Z0 E1.1) Kc2.1) Kc8.1)  ((A1.keep Kc2).keep Kc8) ge_b1 (Exa.ext O8.2 E_v2) P8_1 ((F1_element.keep Kc2 nin0).keep Kc8 nin0) ((F1_text.keep Kc2 nin0).keep Kc8 nin0)) hZ (own_w hw 81 rfl) (own_w hw 3 rfl) (by decide) (by decide) hEL CH8) (g := (mkF m 116 #[vi p1, vi p2, vi p3, .val (.long qa), .second, .val (.long qb), .second, vi p6, vi i1, vi i2, vi 3, vi cp, vi 2, .val (.long q2), .second, vr a1d, .unset, .unset, .unset] [(.ref bS_8), (.ref v2), (.ref b1), (.ref b1)])) rfl (by rw [hml]; rfl) (Steps.refl _) (a := b1) (argsL := [(.ref v2), (.ref bS_8)]) (rest := [(.ref b1)]) (lenOf own_pd13 rfl) rfl (by show 2 * 0 + _ ≤ _; exact Nat.le_of_eq rfl) (hb hby at_116) (fun _ _ => ⟨rfl, rfl, (by decide : 19 + 4 ≤ _), (by decide : 125 + 52 ≤ _)⟩)
    dsimp only [Pt.U, Pt.locs, Pt.cells, Pt.slots] at X9 l9 y9 z9 st9 hQ9 sv9 sg9 cr9
    subst l9 y9 z9
    obtain ⟨X9, hS, hZ, hown⟩ := rebS hS (Nat.le_trans (Nat.le_trans (Nat.le_trans hk0 E1.1) Kc2.1) Kc8.1) X9 sv9 sg9 hZ hown
    obtain ⟨rfl, Nq9, Kc9, P9_0, P9_1, P9_2⟩ := hQ9
    have N9 := Fr.app N8 Nq9
    have O9 := O8.keep Kc9 (allS ge_b1 all0)
    have CH9 := cr9.1
    refine own_tr st9 ?_
    show gs T9 m 119 #[vi p1, vi p2, vi p3, .val (.long qa), .second, .val (.long qb), .second, vi p6, vi i1, vi i2, vi 3, vi cp, vi 2, .val (.long q2), .second, vr a1d, .unset, .unset, .unset] [(.ref b1)]
    refine own_st (fun _ kS => XS.astore X9.here hx rfl (hb hby at_119) rfl rfl (l' := #[vi p1, vi p2, vi p3, .val (.long qa), .second, .val (.long qb), .second, vi p6, vi i1, vi i2, vi 3, vi cp, vi 2, .val (.long q2), .second, vr a1d, vr b1, .unset, .unset]) rfl kS) ?_
    show gs T9 m 121 #[vi p1, vi p2, vi p3, .val (.long qa), .second, .val (.long qb), .second, vi p6, vi i1, vi i2, vi 3, vi cp, vi 2, .val (.long q2), .second, vr a1d, vr b1, .unset, .unset] []
    exact sg_EN hx hby hml hown hlk hret hZ hw (Nat.le_trans (Nat.le_trans (Nat.le_trans (Nat.le_trans Z0 E1.1) Kc2.1) Kc8.1) Kc9.1) hS (Nat.le_refl _) (X9.more (by decide) (by decide)) rfl N9 O9 p1 p2 p3 qa qb p6 i1 i2 (3 : Int32) cp (2 : Int32) q2 v1 v2 a1d b1 s1 bS_8 t1 tN_8 k1a kN_8 [(.int (nar .byte ((own_ch qa (0 : Int32)).toInt8.toInt32))), (.int (nar .byte ((own_ch qa (1 : Int32)).toInt8.toInt32))), (.int (nar .byte ((own_ch qa (2 : Int32)).toInt8.toInt32)))] [(.int (nar .byte ((own_ch q2 (0 : Int32)).toInt8.toInt32))), (.int (nar .byte ((own_ch q2 (1 : Int32)).toInt8.toInt32)))] zCS ((((Exa.ext E1 E_a1).keep Kc2).keep Kc8).keep Kc9) ((((Fld.ext E1 Fe1).keep Kc2 nin0).keep Kc8 nin0).keep Kc9 (ninS ne_a1d_b1 nin0)) ((((Fld.ext E1 Ft1).keep Kc2 nin0).keep Kc8 nin0).keep Kc9 (ninS ne_a1d_b1 nin0)) ((((Exa.ext E1 E_s1).keep Kc2).keep Kc8).keep Kc9) ((((Fld.ext E1 F1v).keep Kc2 nin0).keep Kc8 nin0).keep Kc9 (ninS ne_s1_b1 nin0)) ((((Fld.ext E1 F1c).keep Kc2 nin0).keep Kc8 nin0).keep Kc9 (ninS ne_s1_b1 nin0)) P9_0 P9_1 P9_2 (P8_1.keep Kc9) (P8_3.keep Kc9 (ninS (Ne.symm ne_b1_bS_8) nin0)) (P8_2.keep Kc9 (ninS (Ne.symm ne_b1_bS_8) nin0)) ne_s1_bS_8 ((((Arv.ext R_1 E1).keep Kc2 nin0).keep Kc8 nin0).keep Kc9 (ninS ne_t1_b1 nin0)) (P8_4.keep Kc9 (ninS ne_tN_8_b1 nin0)) (by decide) hveq hvne S_CS P_CS
  · rw [hk3]
    show gs T2 m 109 #[vi p1, vi p2, vi p3, .val (.long qa), .second, .val (.long qb), .second, vi p6, vi i1, vi i2, vi 3, vi cp, vi 3, .val (.long q2), .second, vr a1d, .unset, .unset, .unset] [(.ref v2), (.ref b1), (.ref b1)]
    refine oiload X2 hx hby at_109 rfl ?_
    refine own_st (fun _ kS => XT.lload X2.here hx rfl (hb hby at_111) rfl kS) ?_
    show gs T2 m 113 #[vi p1, vi p2, vi p3, .val (.long qa), .second, .val (.long qb), .second, vi p6, vi i1, vi i2, vi 3, vi cp, vi 3, .val (.long q2), .second, vr a1d, .unset, .unset, .unset] [(.long q2), (.int 3), (.ref v2), (.ref b1), (.ref b1)]
    refine oS 3 X2 hx hZ hby hml hown (own_w hw 42 rfl) (own_w hw 43 rfl) (own_w hw 6 rfl) (own_w hw 44 rfl) (rm_make3 l Z a0 hw [] q2 zCS T2.heap n0 (Nat.le_trans (Nat.le_trans Z0 E1.1) Kc2.1) O2 S_CS P_CS) rfl (by decide) own_pd12 at_113 rfl rfl rfl (fun T10 L10 v10 X10 hQ10 => ?_)
    obtain ⟨bS_10, tN_10, kN_10, rfl, Nq10, Kc10, P10_0, P10_1, P10_2, P10_3, P10_4⟩ := hQ10
    have N10 := Fr.app N2 Nq10
    have ne_a1d_bS_10 : a1d ≠ bS_10 := Nat.ne_of_lt (Nat.lt_of_lt_of_le ((Exa.ext E1 E_a1).keep Kc2).lt P10_0)
    have ne_s1_bS_10 : s1 ≠ bS_10 := Nat.ne_of_lt (Nat.lt_of_lt_of_le ((Exa.ext E1 E_s1).keep Kc2).lt P10_0)
    have ne_t1_bS_10 : t1 ≠ bS_10 := Nat.ne_of_lt (Nat.lt_of_lt_of_le ((Arv.ext R_1 E1).keep Kc2 nin0).lt P10_0)
    have ne_b1_bS_10 : b1 ≠ bS_10 := Nat.ne_of_lt (Nat.lt_of_lt_of_le (A1.keep Kc2).lt P10_0)
    have ge_bS_10 : n0 ≤ bS_10 := Nat.le_trans (Nat.le_trans (Nat.le_trans Z0 E1.1) Kc2.1) P10_0
    have O10 := O2.keep Kc10 all0
    have ne_tN_10_a1d : tN_10 ≠ a1d := own_arne P10_4 (((Exa.ext E1 E_a1).keep Kc2).keep Kc10) (own_w hw 2 rfl)
    have ne_tN_10_s1 : tN_10 ≠ s1 := own_arne P10_4 (((Exa.ext E1 E_s1).keep Kc2).keep Kc10) (own_w hw 46 rfl)
    have ne_tN_10_b1 : tN_10 ≠ b1 := own_arne P10_4 ((A1.keep Kc2).keep Kc10) (own_w hw 2 rfl)
    have ne_tN_10_bS_10 : tN_10 ≠ bS_10 := own_arne P10_4 P10_1 (own_w hw 46 rfl)
    have CH10 := CHv.keep Kc10 sf0 CH2
    show gs T10 m 116 #[vi p1, vi p2, vi p3, .val (.long qa), .second, .val (.long qb), .second, vi p6, vi i1, vi i2, vi 3, vi cp, vi 3, .val (.long q2), .second, vr a1d, .unset, .unset, .unset] [(.ref bS_10), (.ref v2), (.ref b1), (.ref b1)]
    obtain ⟨_, _, ⟨T11, L11, k11, n11⟩, -, X11, sv11, sg11, ⟨Lc11, hQ11, l11, y11, z11, cr11⟩, st11⟩ := X10.specialBackS hx (y := (⟨"com/example/cartouche/cartouche/crosswalks/DcValue", "<init>", "(Lcom/example/cartouche/cartouche/crosswalks/DcElement;Ljava/lang/String;)V"⟩ : MethodName)) rfl hown (mvT hZ (own_w hw 79 rfl)) (mvT hZ (own_w hw 80 rfl)) (mvT hZ (own_w hw 81 rfl)) (by decide) (backOfSH (W := 1) (rm_dcInit l Z a0 hw [] b1 v2 bS_10 T10.heap n0 (Nat.le_trans (Nat.le_trans (Nat.le_trans Z0 E1.1) Kc2.1) Kc10.1)  ((A1.keep Kc2).keep Kc10) ge_b1 (Exa.ext O10.2 E_v2) P10_1 ((F1_element.keep Kc2 nin0).keep Kc10 nin0) ((F1_text.keep Kc2 nin0).keep Kc10 nin0)) hZ (own_w hw 81 rfl) (own_w hw 3 rfl) (by decide) (by decide) hEL CH10) (g := (mkF m 116 #[vi p1, vi p2, vi p3, .val (.long qa), .second, .val (.long qb), .second, vi p6, vi i1, vi i2, vi 3, vi cp, vi 3, .val (.long q2), .second, vr a1d, .unset, .unset, .unset] [(.ref bS_10), (.ref v2), (.ref b1), (.ref b1)])) rfl (by rw [hml]; rfl) (Steps.refl _) (a := b1) (argsL := [(.ref v2), (.ref bS_10)]) (rest := [(.ref b1)]) (lenOf own_pd13 rfl) rfl (by show 2 * 0 + _ ≤ _; exact Nat.le_of_eq rfl) (hb hby at_116) (fun _ _ => ⟨rfl, rfl, (by decide : 19 + 4 ≤ _), (by decide : 127 + 52 ≤ _)⟩)
    dsimp only [Pt.U, Pt.locs, Pt.cells, Pt.slots] at X11 l11 y11 z11 st11 hQ11 sv11 sg11 cr11
    subst l11 y11 z11
    obtain ⟨X11, hS, hZ, hown⟩ := rebS hS (Nat.le_trans (Nat.le_trans (Nat.le_trans hk0 E1.1) Kc2.1) Kc10.1) X11 sv11 sg11 hZ hown
    obtain ⟨rfl, Nq11, Kc11, P11_0, P11_1, P11_2⟩ := hQ11
    have N11 := Fr.app N10 Nq11
    have O11 := O10.keep Kc11 (allS ge_b1 all0)
    have CH11 := cr11.1
    refine own_tr st11 ?_
    show gs T11 m 119 #[vi p1, vi p2, vi p3, .val (.long qa), .second, .val (.long qb), .second, vi p6, vi i1, vi i2, vi 3, vi cp, vi 3, .val (.long q2), .second, vr a1d, .unset, .unset, .unset] [(.ref b1)]
    refine own_st (fun _ kS => XS.astore X11.here hx rfl (hb hby at_119) rfl rfl (l' := #[vi p1, vi p2, vi p3, .val (.long qa), .second, .val (.long qb), .second, vi p6, vi i1, vi i2, vi 3, vi cp, vi 3, .val (.long q2), .second, vr a1d, vr b1, .unset, .unset]) rfl kS) ?_
    show gs T11 m 121 #[vi p1, vi p2, vi p3, .val (.long qa), .second, .val (.long qb), .second, vi p6, vi i1, vi i2, vi 3, vi cp, vi 3, .val (.long q2), .second, vr a1d, vr b1, .unset, .unset] []
    exact sg_E3 hx hby hml hown hlk hret hZ hw (Nat.le_trans (Nat.le_trans (Nat.le_trans (Nat.le_trans Z0 E1.1) Kc2.1) Kc10.1) Kc11.1) hS (Nat.le_refl _) (X11.more (by decide) (by decide)) rfl N11 O11 p1 p2 p3 qa qb p6 i1 i2 cp q2 v1 v2 a1d b1 s1 bS_10 t1 tN_10 k1a kN_10 zCS ((((Exa.ext E1 E_a1).keep Kc2).keep Kc10).keep Kc11) ((((Fld.ext E1 Fe1).keep Kc2 nin0).keep Kc10 nin0).keep Kc11 (ninS ne_a1d_b1 nin0)) ((((Fld.ext E1 Ft1).keep Kc2 nin0).keep Kc10 nin0).keep Kc11 (ninS ne_a1d_b1 nin0)) ((((Exa.ext E1 E_s1).keep Kc2).keep Kc10).keep Kc11) ((((Fld.ext E1 F1v).keep Kc2 nin0).keep Kc10 nin0).keep Kc11 (ninS ne_s1_b1 nin0)) ((((Fld.ext E1 F1c).keep Kc2 nin0).keep Kc10 nin0).keep Kc11 (ninS ne_s1_b1 nin0)) P11_0 P11_1 P11_2 (P10_1.keep Kc11) (P10_3.keep Kc11 (ninS (Ne.symm ne_b1_bS_10) nin0)) (P10_2.keep Kc11 (ninS (Ne.symm ne_b1_bS_10) nin0)) ne_s1_bS_10 ((((Arv.ext R_1 E1).keep Kc2 nin0).keep Kc10 nin0).keep Kc11 (ninS ne_t1_b1 nin0)) (P10_4.keep Kc11 (ninS ne_tN_10_b1 nin0)) hveq hvne S_CS P_CS
theorem sg_A {p : Program} {l : Launch} {e : Env} {s : State} {m : MethodId} {args : Array Value} {below : List Frame} {meth : Method} {c : Code} {T0 : State} {locs : List Loc} {Z : State} {a0 : Array Value} {h0 : Heap} {n0 : Nat} {vm0 : Vm} {kv0 : Nat} (hx : p.tables.exec = Jvm.exec) (hby : c.code = code) (hml : c.maxLocals = 19) (hown : (s.setVm vm0).vm.findClass "com/example/cartouche/cartouche/crosswalks/DcValueEqualsPinLaw" = some m.cls) (hlk : meth.locks = false) (hret : meth.sig.returnType = some .boolean) (hZ : Z.Warmed39 (s.setVm vm0).vm) (hw : HW a0 Z) (Z0 : n0 ≤ h0.size) (hS : s.Since vm0 kv0) (hk0 : kv0 ≤ h0.size)
    (X0 : Stand p l e room_1 (s.setVm vm0) m args below meth c T0 locs 0 0) (e0 : T0.heap = h0) (N0 : Fr n0 locs) (O0 : Old Z n0 h0) (p1 : Int32) (p2 : Int32) (p3 : Int32) (qa : Int64) (qb : Int64) (p6 : Int32) (i1 : Int32) (i2 : Int32) (l1 : Int32) (cp : Int32) (l2 : Int32) (q2 : Int64) (v1 : Addr) (v2 : Addr) (w_TITLE : Addr) (w_CREATOR : Addr) (w_SUBJECT : Addr) (w_DESCRIPTION : Addr) (w_PUBLISHER : Addr) (w_CONTRIBUTOR : Addr) (w_DATE : Addr) (w_TYPE : Addr) (w_FORMAT : Addr) (w_IDENTIFIER : Addr) (w_SOURCE : Addr) (w_LANGUAGE : Addr) (w_RELATION : Addr) (w_COVERAGE : Addr) (w_RIGHTS : Addr) (zCS : Int32) (hveq : i1 = i2 → v1 = v2) (hvne : ¬ (i1 = i2) → v1 ≠ v2) (S_TITLE : sk1 Z Z.heap (.ref w_TITLE)) (S_CREATOR : sk2 Z Z.heap (.ref w_CREATOR)) (S_SUBJECT : sk3 Z Z.heap (.ref w_SUBJECT)) (S_DESCRIPTION : sk4 Z Z.heap (.ref w_DESCRIPTION)) (S_PUBLISHER : sk5 Z Z.heap (.ref w_PUBLISHER)) (S_CONTRIBUTOR : sk6 Z Z.heap (.ref w_CONTRIBUTOR)) (S_DATE : sk7 Z Z.heap (.ref w_DATE)) (S_TYPE : sk8 Z Z.heap (.ref w_TYPE)) (S_FORMAT : sk9 Z Z.heap (.ref w_FORMAT)) (S_IDENTIFIER : sk10 Z Z.heap (.ref w_IDENTIFIER)) (S_SOURCE : sk11 Z Z.heap (.ref w_SOURCE)) (S_LANGUAGE : sk12 Z Z.heap (.ref w_LANGUAGE)) (S_RELATION : sk13 Z Z.heap (.ref w_RELATION)) (S_COVERAGE : sk14 Z Z.heap (.ref w_COVERAGE)) (S_RIGHTS : sk15 Z Z.heap (.ref w_RIGHTS)) (E_TITLE : ek23 Z Z.heap w_TITLE) (E_CREATOR : ek23 Z Z.heap w_CREATOR) (E_SUBJECT : ek23 Z Z.heap w_SUBJECT) (E_DESCRIPTION : ek23 Z Z.heap w_DESCRIPTION) (E_PUBLISHER : ek23 Z Z.heap w_PUBLISHER) (E_CONTRIBUTOR : ek23 Z Z.heap w_CONTRIBUTOR) (E_DATE : ek23 Z Z.heap w_DATE) (E_TYPE : ek23 Z Z.heap w_TYPE) (E_FORMAT : ek23 Z Z.heap w_FORMAT) (E_IDENTIFIER : ek23 Z Z.heap w_IDENTIFIER) (E_SOURCE : ek23 Z Z.heap w_SOURCE) (E_LANGUAGE : ek23 Z Z.heap w_LANGUAGE) (E_RELATION : ek23 Z Z.heap w_RELATION) (E_COVERAGE : ek23 Z Z.heap w_COVERAGE) (E_RIGHTS : ek23 Z Z.heap w_RIGHTS) (hE1 : own_el i1 v1 w_TITLE w_CREATOR w_SUBJECT w_DESCRIPTION w_PUBLISHER w_CONTRIBUTOR w_DATE w_TYPE w_FORMAT w_IDENTIFIER w_SOURCE w_LANGUAGE w_RELATION w_COVERAGE w_RIGHTS) (E_v1 : ek23 Z Z.heap v1) (hE2 : own_el i2 v2 w_TITLE w_CREATOR w_SUBJECT w_DESCRIPTION w_PUBLISHER w_CONTRIBUTOR w_DATE w_TYPE w_FORMAT w_IDENTIFIER w_SOURCE w_LANGUAGE w_RELATION w_COVERAGE w_RIGHTS) (E_v2 : ek23 Z Z.heap v2) (hL1 : l1 = (0 : Int32) ∨ l1 = (1 : Int32) ∨ l1 = (2 : Int32) ∨ l1 = (3 : Int32)) (hL2 : l2 = (0 : Int32) ∨ l2 = (1 : Int32) ∨ l2 = (2 : Int32) ∨ l2 = (3 : Int32)) (S_CS : sk0 Z Z.heap (.int zCS)) (P_CS : ¬ zCS = 0) (hCH : CHv Z EL0 vm0 h0) :
    own_G p.tables e below (own_EW s (Q_law n0) room_1.cells room_1.slots) (T0.setTop (mkF m 80 #[vi p1, vi p2, vi p3, .val (.long qa), .second, .val (.long qb), .second, vi p6, vi i1, vi i2, vi l1, vi cp, vi l2, .val (.long q2), .second, .unset, .unset, .unset, .unset] [])) := by
  have hEL : EW Z a0 EL0 := own_ELw hw
  show gs T0 m 80 #[vi p1, vi p2, vi p3, .val (.long qa), .second, .val (.long qb), .second, vi p6, vi i1, vi i2, vi l1, vi cp, vi l2, .val (.long q2), .second, .unset, .unset, .unset, .unset] []
  obtain ⟨T1, h1, X1, e1, E1, A1, D1, -, st1⟩ := newO X0 hx hZ hown (own_w hw 1 rfl) (own_w hw 2 rfl) (own_w hw 3 rfl) e0 (g := (mkF m 80 #[vi p1, vi p2, vi p3, .val (.long qa), .second, .val (.long qb), .second, vi p6, vi i1, vi i2, vi l1, vi cp, vi l2, .val (.long q2), .second, .unset, .unset, .unset, .unset] [])) rfl (hb hby at_80) (by decide) (by decide)
  obtain ⟨b1, g1⟩ : ∃ z, z = h0.size := ⟨_, rfl⟩
  have ge_b1 : n0 ≤ b1 := Nat.le_trans Z0 (Nat.le_of_eq g1.symm)
  rw [← g1] at A1 D1 st1
  have CH1 := CHv.ext E1 hCH
  have O1 := O0.ext E1
  have F1_element : fk18 Z h1 b1 .null := D1 (Or.inr (own_w hw 92 rfl)) (ty := (.object "com/example/cartouche/cartouche/crosswalks/DcElement")) (by decide)
  have F1_text : fk19 Z h1 b1 .null := D1 (Or.inr (own_w hw 96 rfl)) (ty := (.object "java/lang/String")) (by decide)
  refine own_st st1 ?_
  show gs T1 m 83 #[vi p1, vi p2, vi p3, .val (.long qa), .second, .val (.long qb), .second, vi p6, vi i1, vi i2, vi l1, vi cp, vi l2, .val (.long q2), .second, .unset, .unset, .unset, .unset] [(.ref b1)]
  refine own_st (fun _ kS => XS.dup X1.here hx rfl (hb hby at_83) rfl rfl kS) ?_
  refine oiload X1 hx hby at_84 rfl ?_
  refine oS 2 X1 hx hZ hby hml hown (own_w hw 4 rfl) (own_w hw 5 rfl) (own_w hw 6 rfl) (own_w hw 7 rfl) (rm_el l Z a0 hw [] i1 v1 w_TITLE w_CREATOR w_SUBJECT w_DESCRIPTION w_PUBLISHER w_CONTRIBUTOR w_DATE w_TYPE w_FORMAT w_IDENTIFIER w_SOURCE w_LANGUAGE w_RELATION w_COVERAGE w_RIGHTS h1 n0 (Nat.le_trans Z0 E1.1) O1 S_TITLE S_CREATOR S_SUBJECT S_DESCRIPTION S_PUBLISHER S_CONTRIBUTOR S_DATE S_TYPE S_FORMAT S_IDENTIFIER S_SOURCE S_LANGUAGE S_RELATION S_COVERAGE S_RIGHTS E_TITLE E_CREATOR E_SUBJECT E_DESCRIPTION E_PUBLISHER E_CONTRIBUTOR E_DATE E_TYPE E_FORMAT E_IDENTIFIER E_SOURCE E_LANGUAGE E_RELATION E_COVERAGE E_RIGHTS hE1) e1 (by decide) own_pd11 at_86 rfl rfl rfl (fun T2 L2 v2 X2 hQ2 => ?_)
  obtain ⟨rfl, Nq2, Kc2⟩ := hQ2
  have N2 := Fr.app N0 Nq2
  have O2 := O1.keep Kc2 all0
  have CH2 := CHv.keep Kc2 sf0 CH1
  show gs T2 m 89 #[vi p1, vi p2, vi p3, .val (.long qa), .second, .val (.long qb), .second, vi p6, vi i1, vi i2, vi l1, vi cp, vi l2, .val (.long q2), .second, .unset, .unset, .unset, .unset] [(.ref v1), (.ref b1), (.ref b1)]
  rcases hL1 with hk3 | hk3 | hk3 | hk3
  · rw [hk3]
    show gs T2 m 89 #[vi p1, vi p2, vi p3, .val (.long qa), .second, .val (.long qb), .second, vi p6, vi i1, vi i2, vi 0, vi cp, vi l2, .val (.long q2), .second, .unset, .unset, .unset, .unset] [(.ref v1), (.ref b1), (.ref b1)]
    refine oiload X2 hx hby at_89 rfl ?_
    refine own_st (fun _ kS => XT.lloadN X2.here hx rfl (hb hby at_91) rfl kS) ?_
    show gs T2 m 92 #[vi p1, vi p2, vi p3, .val (.long qa), .second, .val (.long qb), .second, vi p6, vi i1, vi i2, vi 0, vi cp, vi l2, .val (.long q2), .second, .unset, .unset, .unset, .unset] [(.long qa), (.int 0), (.ref v1), (.ref b1), (.ref b1)]
    obtain ⟨_, _, ⟨T4, L4, k4, n4⟩, -, X4, sv4, sg4, ⟨Lc4, hQ4, l4, y4, z4, cr4⟩, st4⟩ := callSS X2 hx (y := (⟨"com/example/cartouche/cartouche/crosswalks/DcValueEqualsPinLaw", "make", "(IJ)Ljava/lang/String;"⟩ : MethodName)) hown (mvT hZ (own_w hw 42 rfl)) (mvT hZ (own_w hw 43 rfl)) (mvT hZ (own_w hw 6 rfl)) (mvT hZ (own_w hw 44 rfl)) (by decide) (backOfSH (W := 3) (rm_make0 l Z a0 hw [] qa T2.heap n0 (Nat.le_trans (Nat.le_trans Z0 E1.1) Kc2.1)  ) hZ (own_w hw 44 rfl) (own_w hw 6 rfl) (by decide) (by decide) hEL CH2) (g := (mkF m 92 #[vi p1, vi p2, vi p3, .val (.long qa), .second, .val (.long qb), .second, vi p6, vi i1, vi i2, vi 0, vi cp, vi l2, .val (.long q2), .second, .unset, .unset, .unset, .unset] [(.long qa), (.int 0), (.ref v1), (.ref b1), (.ref b1)])) rfl (by rw [hml]; rfl) (argsL := [(.int 0), (.long qa)]) (rest := [(.ref v1), (.ref b1), (.ref b1)]) (lenOf own_pd12 rfl) rfl (by show 2 * 0 + _ ≤ _; exact Nat.le_of_eq rfl) (hb hby at_92) (fun _ _ => ⟨rfl, rfl, (by decide : 2 + 4 ≤ _), (by decide : 17 + 8 ≤ _)⟩)
    dsimp only [Pt.U, Pt.locs, Pt.cells, Pt.slots] at X4 l4 y4 z4 st4 hQ4 sv4 sg4 cr4
    subst l4 y4 z4
    obtain ⟨X4, hS, hZ, hown⟩ := rebS hS (Nat.le_trans (Nat.le_trans hk0 E1.1) Kc2.1) X4 sv4 sg4 hZ hown
    obtain ⟨bS_4, tN_4, kN_4, rfl, Nq4, Kc4, P4_0, P4_1, P4_2, P4_3, P4_4⟩ := hQ4
    have N4 := Fr.app N2 Nq4
    have ne_b1_bS_4 : b1 ≠ bS_4 := Nat.ne_of_lt (Nat.lt_of_lt_of_le (A1.keep Kc2).lt P4_0)
    have ge_bS_4 : n0 ≤ bS_4 := Nat.le_trans (Nat.le_trans (Nat.le_trans Z0 E1.1) Kc2.1) P4_0
    have O4 := O2.keep Kc4 all0
    have ne_tN_4_b1 : tN_4 ≠ b1 := own_arne P4_4 ((A1.keep Kc2).keep Kc4) (own_w hw 2 rfl)
    have ne_tN_4_bS_4 : tN_4 ≠ bS_4 := own_arne P4_4 P4_1 (own_w hw 46 rfl)
    have CH4 := cr4.1
    refine own_tr st4 ?_
    show gs T4 m 95 #[vi p1, vi p2, vi p3, .val (.long qa), .second, .val (.long qb), .second, vi p6, vi i1, vi i2, vi 0, vi cp, vi l2, .val (.long q2), .second, .unset, .unset, .unset, .unset] [(.ref bS_4), (.ref v1), (.ref b1), (.ref b1)]
    obtain ⟨_, _, ⟨T5, L5, k5, n5⟩, -, X5, sv5, sg5, ⟨Lc5, hQ5, l5, y5, z5, cr5⟩, st5⟩ := X4.specialBackS hx (y := (⟨"com/example/cartouche/cartouche/crosswalks/DcValue", "<init>", "(Lcom/example/cartouche/cartouche/crosswalks/DcElement;Ljava/lang/String;)V"⟩ : MethodName)) rfl hown (mvT hZ (own_w hw 79 rfl)) (mvT hZ (own_w hw 80 rfl)) (mvT hZ (own_w hw 81 rfl)) (by decide) (backOfSH (W := 1) (rm_dcInit l Z a0 hw [] b1 v1 bS_4 T4.heap n0 (Nat.le_trans (Nat.le_trans (Nat.le_trans Z0 E1.1) Kc2.1) Kc4.1)  ((A1.keep Kc2).keep Kc4) ge_b1 (Exa.ext O4.2 E_v1) P4_1 ((F1_element.keep Kc2 nin0).keep Kc4 nin0) ((F1_text.keep Kc2 nin0).keep Kc4 nin0)) hZ (own_w hw 81 rfl) (own_w hw 3 rfl) (by decide) (by decide) hEL CH4) (g := (mkF m 95 #[vi p1, vi p2, vi p3, .val (.long qa), .second, .val (.long qb), .second, vi p6, vi i1, vi i2, vi 0, vi cp, vi l2, .val (.long q2), .second, .unset, .unset, .unset, .unset] [(.ref bS_4), (.ref v1), (.ref b1), (.ref b1)])) rfl (by rw [hml]; rfl) (Steps.refl _) (a := b1) (argsL := [(.ref v1), (.ref bS_4)]) (rest := [(.ref b1)]) (lenOf own_pd13 rfl) rfl (by show 2 * 0 + _ ≤ _; exact Nat.le_of_eq rfl) (hb hby at_95) (fun _ _ => ⟨rfl, rfl, (by decide : 6 + 4 ≤ _), (by decide : 25 + 52 ≤ _)⟩)
    dsimp only [Pt.U, Pt.locs, Pt.cells, Pt.slots] at X5 l5 y5 z5 st5 hQ5 sv5 sg5 cr5
    subst l5 y5 z5
    obtain ⟨X5, hS, hZ, hown⟩ := rebS hS (Nat.le_refl _) X5 sv5 sg5 hZ hown
    obtain ⟨rfl, Nq5, Kc5, P5_0, P5_1, P5_2⟩ := hQ5
    have N5 := Fr.app N4 Nq5
    have O5 := O4.keep Kc5 (allS ge_b1 all0)
    have CH5 := cr5.1
    refine own_tr st5 ?_
    show gs T5 m 98 #[vi p1, vi p2, vi p3, .val (.long qa), .second, .val (.long qb), .second, vi p6, vi i1, vi i2, vi 0, vi cp, vi l2, .val (.long q2), .second, .unset, .unset, .unset, .unset] [(.ref b1)]
    refine own_st (fun _ kS => XS.astore X5.here hx rfl (hb hby at_98) rfl rfl (l' := #[vi p1, vi p2, vi p3, .val (.long qa), .second, .val (.long qb), .second, vi p6, vi i1, vi i2, vi 0, vi cp, vi l2, .val (.long q2), .second, vr b1, .unset, .unset, .unset]) rfl kS) ?_
    show gs T5 m 100 #[vi p1, vi p2, vi p3, .val (.long qa), .second, .val (.long qb), .second, vi p6, vi i1, vi i2, vi 0, vi cp, vi l2, .val (.long q2), .second, vr b1, .unset, .unset, .unset] []
    exact sg_B0 hx hby hml hown hlk hret hZ hw (Nat.le_trans (Nat.le_trans (Nat.le_trans (Nat.le_trans Z0 E1.1) Kc2.1) Kc4.1) Kc5.1) hS (Nat.le_refl _) (X5.more (by decide) (by decide)) rfl N5 O5 p1 p2 p3 qa qb p6 i1 i2 cp l2 q2 v1 v2 b1 bS_4 tN_4 kN_4 w_TITLE w_CREATOR w_SUBJECT w_DESCRIPTION w_PUBLISHER w_CONTRIBUTOR w_DATE w_TYPE w_FORMAT w_IDENTIFIER w_SOURCE w_LANGUAGE w_RELATION w_COVERAGE w_RIGHTS zCS P5_0 P5_1 P5_2 (P4_1.keep Kc5) (P4_3.keep Kc5 (ninS (Ne.symm ne_b1_bS_4) nin0)) (P4_2.keep Kc5 (ninS (Ne.symm ne_b1_bS_4) nin0)) ge_b1 (P4_4.keep Kc5 (ninS ne_tN_4_b1 nin0)) hveq hvne S_TITLE S_CREATOR S_SUBJECT S_DESCRIPTION S_PUBLISHER S_CONTRIBUTOR S_DATE S_TYPE S_FORMAT S_IDENTIFIER S_SOURCE S_LANGUAGE S_RELATION S_COVERAGE S_RIGHTS E_TITLE E_CREATOR E_SUBJECT E_DESCRIPTION E_PUBLISHER E_CONTRIBUTOR E_DATE E_TYPE E_FORMAT E_IDENTIFIER E_SOURCE E_LANGUAGE E_RELATION E_COVERAGE E_RIGHTS hE2 E_v2 hL2 S_CS P_CS CH5
  · rw [hk3]
    show gs T2 m 89 #[vi p1, vi p2, vi p3, .val (.long qa), .second, .val (.long qb), .second, vi p6, vi i1, vi i2, vi 1, vi cp, vi l2, .val (.long q2), .second, .unset, .unset, .unset, .unset] [(.ref v1), (.ref b1), (.ref b1)]
    refine oiload X2 hx hby at_89 rfl ?_
    refine own_st (fun _ kS => XT.lloadN X2.here hx rfl (hb hby at_91) rfl kS) ?_
    show gs T2 m 92 #[vi p1, vi p2, vi p3, .val (.long qa), .second, .val (.long qb), .second, vi p6, vi i1, vi i2, vi 1, vi cp, vi l2, .val (.long q2), .second, .unset, .unset, .unset, .unset] [(.long qa), (.int 1), (.ref v1), (.ref b1), (.ref b1)]
    refine oS 3 X2 hx hZ hby hml hown (own_w hw 42 rfl) (own_w hw 43 rfl) (own_w hw 6 rfl) (own_w hw 44 rfl) (rm_make1 l Z a0 hw [] qa zCS T2.heap n0 (Nat.le_trans (Nat.le_trans Z0 E1.1) Kc2.1) O2 S_CS P_CS) rfl (by decide) own_pd12 at_92 rfl rfl rfl (fun T6 L6 v6 X6 hQ6 => ?_)
    obtain ⟨bS_6, tN_6, kN_6, rfl, Nq6, Kc6, P6_0, P6_1, P6_2, P6_3, P6_4⟩ := hQ6
    have N6 := Fr.app N2 Nq6
    have ne_b1_bS_6 : b1 ≠ bS_6 := Nat.ne_of_lt (Nat.lt_of_lt_of_le (A1.keep Kc2).lt P6_0)
    have ge_bS_6 : n0 ≤ bS_6 := Nat.le_trans (Nat.le_trans (Nat.le_trans Z0 E1.1) Kc2.1) P6_0
    have O6 := O2.keep Kc6 all0
    have ne_tN_6_b1 : tN_6 ≠ b1 := own_arne P6_4 ((A1.keep Kc2).keep Kc6) (own_w hw 2 rfl)
    have ne_tN_6_bS_6 : tN_6 ≠ bS_6 := own_arne P6_4 P6_1 (own_w hw 46 rfl)
    have CH6 := CHv.keep Kc6 sf0 CH2
    show gs T6 m 95 #[vi p1, vi p2, vi p3, .val (.long qa), .second, .val (.long qb), .second, vi p6, vi i1, vi i2, vi 1, vi cp, vi l2, .val (.long q2), .second, .unset, .unset, .unset, .unset] [(.ref bS_6), (.ref v1), (.ref b1), (.ref b1)]
    obtain ⟨_, _, ⟨T7, L7, k7, n7⟩, -, X7, sv7, sg7, ⟨Lc7, hQ7, l7, y7, z7, cr7⟩, st7⟩ := X6.specialBackS hx (y := (⟨"com/example/cartouche/cartouche/crosswalks/DcValue", "<init>", "(Lcom/example/cartouche/cartouche/crosswalks/DcElement;Ljava/lang/String;)V"⟩ : MethodName)) rfl hown (mvT hZ (own_w hw 79 rfl)) (mvT hZ (own_w hw 80 rfl)) (mvT hZ (own_w hw 81 rfl)) (by decide) (backOfSH (W := 1) (rm_dcInit l Z a0 hw [] b1 v1 bS_6 T6.heap n0 (Nat.le_trans (Nat.le_trans (Nat.le_trans Z0 E1.1) Kc2.1) Kc6.1)  ((A1.keep Kc2).keep Kc6) ge_b1 (Exa.ext O6.2 E_v1) P6_1 ((F1_element.keep Kc2 nin0).keep Kc6 nin0) ((F1_text.keep Kc2 nin0).keep Kc6 nin0)) hZ (own_w hw 81 rfl) (own_w hw 3 rfl) (by decide) (by decide) hEL CH6) (g := (mkF m 95 #[vi p1, vi p2, vi p3, .val (.long qa), .second, .val (.long qb), .second, vi p6, vi i1, vi i2, vi 1, vi cp, vi l2, .val (.long q2), .second, .unset, .unset, .unset, .unset] [(.ref bS_6), (.ref v1), (.ref b1), (.ref b1)])) rfl (by rw [hml]; rfl) (Steps.refl _) (a := b1) (argsL := [(.ref v1), (.ref bS_6)]) (rest := [(.ref b1)]) (lenOf own_pd13 rfl) rfl (by show 2 * 0 + _ ≤ _; exact Nat.le_of_eq rfl) (hb hby at_95) (fun _ _ => ⟨rfl, rfl, (by decide : 5 + 4 ≤ _), (by decide : 23 + 52 ≤ _)⟩)
    dsimp only [Pt.U, Pt.locs, Pt.cells, Pt.slots] at X7 l7 y7 z7 st7 hQ7 sv7 sg7 cr7
    subst l7 y7 z7
    obtain ⟨X7, hS, hZ, hown⟩ := rebS hS (Nat.le_trans (Nat.le_trans (Nat.le_trans hk0 E1.1) Kc2.1) Kc6.1) X7 sv7 sg7 hZ hown
    obtain ⟨rfl, Nq7, Kc7, P7_0, P7_1, P7_2⟩ := hQ7
    have N7 := Fr.app N6 Nq7
    have O7 := O6.keep Kc7 (allS ge_b1 all0)
    have CH7 := cr7.1
    refine own_tr st7 ?_
    show gs T7 m 98 #[vi p1, vi p2, vi p3, .val (.long qa), .second, .val (.long qb), .second, vi p6, vi i1, vi i2, vi 1, vi cp, vi l2, .val (.long q2), .second, .unset, .unset, .unset, .unset] [(.ref b1)]
    refine own_st (fun _ kS => XS.astore X7.here hx rfl (hb hby at_98) rfl rfl (l' := #[vi p1, vi p2, vi p3, .val (.long qa), .second, .val (.long qb), .second, vi p6, vi i1, vi i2, vi 1, vi cp, vi l2, .val (.long q2), .second, vr b1, .unset, .unset, .unset]) rfl kS) ?_
    show gs T7 m 100 #[vi p1, vi p2, vi p3, .val (.long qa), .second, .val (.long qb), .second, vi p6, vi i1, vi i2, vi 1, vi cp, vi l2, .val (.long q2), .second, vr b1, .unset, .unset, .unset] []
    exact sg_B1 hx hby hml hown hlk hret hZ hw (Nat.le_trans (Nat.le_trans (Nat.le_trans (Nat.le_trans Z0 E1.1) Kc2.1) Kc6.1) Kc7.1) hS (Nat.le_refl _) (X7.more (by decide) (by decide)) rfl N7 O7 p1 p2 p3 qa qb p6 i1 i2 cp l2 q2 v1 v2 b1 bS_6 tN_6 kN_6 w_TITLE w_CREATOR w_SUBJECT w_DESCRIPTION w_PUBLISHER w_CONTRIBUTOR w_DATE w_TYPE w_FORMAT w_IDENTIFIER w_SOURCE w_LANGUAGE w_RELATION w_COVERAGE w_RIGHTS zCS P7_0 P7_1 P7_2 (P6_1.keep Kc7) (P6_3.keep Kc7 (ninS (Ne.symm ne_b1_bS_6) nin0)) (P6_2.keep Kc7 (ninS (Ne.symm ne_b1_bS_6) nin0)) ge_b1 (P6_4.keep Kc7 (ninS ne_tN_6_b1 nin0)) hveq hvne S_TITLE S_CREATOR S_SUBJECT S_DESCRIPTION S_PUBLISHER S_CONTRIBUTOR S_DATE S_TYPE S_FORMAT S_IDENTIFIER S_SOURCE S_LANGUAGE S_RELATION S_COVERAGE S_RIGHTS E_TITLE E_CREATOR E_SUBJECT E_DESCRIPTION E_PUBLISHER E_CONTRIBUTOR E_DATE E_TYPE E_FORMAT E_IDENTIFIER E_SOURCE E_LANGUAGE E_RELATION E_COVERAGE E_RIGHTS hE2 E_v2 hL2 S_CS P_CS CH7
  · rw [hk3]
    show gs T2 m 89 #[vi p1, vi p2, vi p3, .val (.long qa), .second, .val (.long qb), .second, vi p6, vi i1, vi i2, vi 2, vi cp, vi l2, .val (.long q2), .second, .unset, .unset, .unset, .unset] [(.ref v1), (.ref b1), (.ref b1)]
    refine oiload X2 hx hby at_89 rfl ?_
    refine own_st (fun _ kS => XT.lloadN X2.here hx rfl (hb hby at_91) rfl kS) ?_
    show gs T2 m 92 #[vi p1, vi p2, vi p3, .val (.long qa), .second, .val (.long qb), .second, vi p6, vi i1, vi i2, vi 2, vi cp, vi l2, .val (.long q2), .second, .unset, .unset, .unset, .unset] [(.long qa), (.int 2), (.ref v1), (.ref b1), (.ref b1)]
    refine oS 3 X2 hx hZ hby hml hown (own_w hw 42 rfl) (own_w hw 43 rfl) (own_w hw 6 rfl) (own_w hw 44 rfl) (rm_make2 l Z a0 hw [] qa zCS T2.heap n0 (Nat.le_trans (Nat.le_trans Z0 E1.1) Kc2.1) O2 S_CS P_CS) rfl (by decide) own_pd12 at_92 rfl rfl rfl (fun T8 L8 v8 X8 hQ8 => ?_)
    obtain ⟨bS_8, tN_8, kN_8, rfl, Nq8, Kc8, P8_0, P8_1, P8_2, P8_3, P8_4⟩ := hQ8
    have N8 := Fr.app N2 Nq8
    have ne_b1_bS_8 : b1 ≠ bS_8 := Nat.ne_of_lt (Nat.lt_of_lt_of_le (A1.keep Kc2).lt P8_0)
    have ge_bS_8 : n0 ≤ bS_8 := Nat.le_trans (Nat.le_trans (Nat.le_trans Z0 E1.1) Kc2.1) P8_0
    have O8 := O2.keep Kc8 all0
    have ne_tN_8_b1 : tN_8 ≠ b1 := own_arne P8_4 ((A1.keep Kc2).keep Kc8) (own_w hw 2 rfl)
    have ne_tN_8_bS_8 : tN_8 ≠ bS_8 := own_arne P8_4 P8_1 (own_w hw 46 rfl)
    have CH8 := CHv.keep Kc8 sf0 CH2
    show gs T8 m 95 #[vi p1, vi p2, vi p3, .val (.long qa), .second, .val (.long qb), .second, vi p6, vi i1, vi i2, vi 2, vi cp, vi l2, .val (.long q2), .second, .unset, .unset, .unset, .unset] [(.ref bS_8), (.ref v1), (.ref b1), (.ref b1)]
    obtain ⟨_, _, ⟨T9, L9, k9, n9⟩, -, X9, sv9, sg9, ⟨Lc9, hQ9, l9, y9, z9, cr9⟩, st9⟩ := X8.specialBackS hx (y := (⟨"com/example/cartouche/cartouche/crosswalks/DcValue", "<init>", "(Lcom/example/cartouche/cartouche/crosswalks/DcElement;Ljava/lang/String;)V"⟩ : MethodName)) rfl hown (mvT hZ (own_w hw 79 rfl)) (mvT hZ (own_w hw 80 rfl)) (mvT hZ (own_w hw 81 rfl)) (by decide) (backOfSH (W := 1) (rm_dcInit l Z a0 hw [] b1 v1 bS_8 T8.heap n0 (Nat.le_trans (Nat.le_trans (Nat.le_trans Z0 E1.1) Kc2.1) Kc8.1)  ((A1.keep Kc2).keep Kc8) ge_b1 (Exa.ext O8.2 E_v1) P8_1 ((F1_element.keep Kc2 nin0).keep Kc8 nin0) ((F1_text.keep Kc2 nin0).keep Kc8 nin0)) hZ (own_w hw 81 rfl) (own_w hw 3 rfl) (by decide) (by decide) hEL CH8) (g := (mkF m 95 #[vi p1, vi p2, vi p3, .val (.long qa), .second, .val (.long qb), .second, vi p6, vi i1, vi i2, vi 2, vi cp, vi l2, .val (.long q2), .second, .unset, .unset, .unset, .unset] [(.ref bS_8), (.ref v1), (.ref b1), (.ref b1)])) rfl (by rw [hml]; rfl) (Steps.refl _) (a := b1) (argsL := [(.ref v1), (.ref bS_8)]) (rest := [(.ref b1)]) (lenOf own_pd13 rfl) rfl (by show 2 * 0 + _ ≤ _; exact Nat.le_of_eq rfl) (hb hby at_95) (fun _ _ => ⟨rfl, rfl, (by decide : 5 + 4 ≤ _), (by decide : 25 + 52 ≤ _)⟩)
    dsimp only [Pt.U, Pt.locs, Pt.cells, Pt.slots] at X9 l9 y9 z9 st9 hQ9 sv9 sg9 cr9
    subst l9 y9 z9
    obtain ⟨X9, hS, hZ, hown⟩ := rebS hS (Nat.le_trans (Nat.le_trans (Nat.le_trans hk0 E1.1) Kc2.1) Kc8.1) X9 sv9 sg9 hZ hown
    obtain ⟨rfl, Nq9, Kc9, P9_0, P9_1, P9_2⟩ := hQ9
    have N9 := Fr.app N8 Nq9
    have O9 := O8.keep Kc9 (allS ge_b1 all0)
    have CH9 := cr9.1
    refine own_tr st9 ?_
    show gs T9 m 98 #[vi p1, vi p2, vi p3, .val (.long qa), .second, .val (.long qb), .second, vi p6, vi i1, vi i2, vi 2, vi cp, vi l2, .val (.long q2), .second, .unset, .unset, .unset, .unset] [(.ref b1)]
    refine own_st (fun _ kS => XS.astore X9.here hx rfl (hb hby at_98) rfl rfl (l' := #[vi p1, vi p2, vi p3, .val (.long qa), .second, .val (.long qb), .second, vi p6, vi i1, vi i2, vi 2, vi cp, vi l2, .val (.long q2), .second, vr b1, .unset, .unset, .unset]) rfl kS) ?_
    show gs T9 m 100 #[vi p1, vi p2, vi p3, .val (.long qa), .second, .val (.long qb), .second, vi p6, vi i1, vi i2, vi 2, vi cp, vi l2, .val (.long q2), .second, vr b1, .unset, .unset, .unset] []
    exact sg_B2 hx hby hml hown hlk hret hZ hw (Nat.le_trans (Nat.le_trans (Nat.le_trans (Nat.le_trans Z0 E1.1) Kc2.1) Kc8.1) Kc9.1) hS (Nat.le_refl _) (X9.more (by decide) (by decide)) rfl N9 O9 p1 p2 p3 qa qb p6 i1 i2 cp l2 q2 v1 v2 b1 bS_8 tN_8 kN_8 w_TITLE w_CREATOR w_SUBJECT w_DESCRIPTION w_PUBLISHER w_CONTRIBUTOR w_DATE w_TYPE w_FORMAT w_IDENTIFIER w_SOURCE w_LANGUAGE w_RELATION w_COVERAGE w_RIGHTS zCS P9_0 P9_1 P9_2 (P8_1.keep Kc9) (P8_3.keep Kc9 (ninS (Ne.symm ne_b1_bS_8) nin0)) (P8_2.keep Kc9 (ninS (Ne.symm ne_b1_bS_8) nin0)) ge_b1 (P8_4.keep Kc9 (ninS ne_tN_8_b1 nin0)) hveq hvne S_TITLE S_CREATOR S_SUBJECT S_DESCRIPTION S_PUBLISHER S_CONTRIBUTOR S_DATE S_TYPE S_FORMAT S_IDENTIFIER S_SOURCE S_LANGUAGE S_RELATION S_COVERAGE S_RIGHTS E_TITLE E_CREATOR E_SUBJECT E_DESCRIPTION E_PUBLISHER E_CONTRIBUTOR E_DATE E_TYPE E_FORMAT E_IDENTIFIER E_SOURCE E_LANGUAGE E_RELATION E_COVERAGE E_RIGHTS hE2 E_v2 hL2 S_CS P_CS CH9
  · rw [hk3]
    show gs T2 m 89 #[vi p1, vi p2, vi p3, .val (.long qa), .second, .val (.long qb), .second, vi p6, vi i1, vi i2, vi 3, vi cp, vi l2, .val (.long q2), .second, .unset, .unset, .unset, .unset] [(.ref v1), (.ref b1), (.ref b1)]
    refine oiload X2 hx hby at_89 rfl ?_
    refine own_st (fun _ kS => XT.lloadN X2.here hx rfl (hb hby at_91) rfl kS) ?_
    show gs T2 m 92 #[vi p1, vi p2, vi p3, .val (.long qa), .second, .val (.long qb), .second, vi p6, vi i1, vi i2, vi 3, vi cp, vi l2, .val (.long q2), .second, .unset, .unset, .unset, .unset] [(.long qa), (.int 3), (.ref v1), (.ref b1), (.ref b1)]
    refine oS 3 X2 hx hZ hby hml hown (own_w hw 42 rfl) (own_w hw 43 rfl) (own_w hw 6 rfl) (own_w hw 44 rfl) (rm_make3 l Z a0 hw [] qa zCS T2.heap n0 (Nat.le_trans (Nat.le_trans Z0 E1.1) Kc2.1) O2 S_CS P_CS) rfl (by decide) own_pd12 at_92 rfl rfl rfl (fun T10 L10 v10 X10 hQ10 => ?_)
    obtain ⟨bS_10, tN_10, kN_10, rfl, Nq10, Kc10, P10_0, P10_1, P10_2, P10_3, P10_4⟩ := hQ10
    have N10 := Fr.app N2 Nq10
    have ne_b1_bS_10 : b1 ≠ bS_10 := Nat.ne_of_lt (Nat.lt_of_lt_of_le (A1.keep Kc2).lt P10_0)
    have ge_bS_10 : n0 ≤ bS_10 := Nat.le_trans (Nat.le_trans (Nat.le_trans Z0 E1.1) Kc2.1) P10_0
    have O10 := O2.keep Kc10 all0
    have ne_tN_10_b1 : tN_10 ≠ b1 := own_arne P10_4 ((A1.keep Kc2).keep Kc10) (own_w hw 2 rfl)
    have ne_tN_10_bS_10 : tN_10 ≠ bS_10 := own_arne P10_4 P10_1 (own_w hw 46 rfl)
    have CH10 := CHv.keep Kc10 sf0 CH2
    show gs T10 m 95 #[vi p1, vi p2, vi p3, .val (.long qa), .second, .val (.long qb), .second, vi p6, vi i1, vi i2, vi 3, vi cp, vi l2, .val (.long q2), .second, .unset, .unset, .unset, .unset] [(.ref bS_10), (.ref v1), (.ref b1), (.ref b1)]
    obtain ⟨_, _, ⟨T11, L11, k11, n11⟩, -, X11, sv11, sg11, ⟨Lc11, hQ11, l11, y11, z11, cr11⟩, st11⟩ := X10.specialBackS hx (y := (⟨"com/example/cartouche/cartouche/crosswalks/DcValue", "<init>", "(Lcom/example/cartouche/cartouche/crosswalks/DcElement;Ljava/lang/String;)V"⟩ : MethodName)) rfl hown (mvT hZ (own_w hw 79 rfl)) (mvT hZ (own_w hw 80 rfl)) (mvT hZ (own_w hw 81 rfl)) (by decide) (backOfSH (W := 1) (rm_dcInit l Z a0 hw [] b1 v1 bS_10 T10.heap n0 (Nat.le_trans (Nat.le_trans (Nat.le_trans Z0 E1.1) Kc2.1) Kc10.1)  ((A1.keep Kc2).keep Kc10) ge_b1 (Exa.ext O10.2 E_v1) P10_1 ((F1_element.keep Kc2 nin0).keep Kc10 nin0) ((F1_text.keep Kc2 nin0).keep Kc10 nin0)) hZ (own_w hw 81 rfl) (own_w hw 3 rfl) (by decide) (by decide) hEL CH10) (g := (mkF m 95 #[vi p1, vi p2, vi p3, .val (.long qa), .second, .val (.long qb), .second, vi p6, vi i1, vi i2, vi 3, vi cp, vi l2, .val (.long q2), .second, .unset, .unset, .unset, .unset] [(.ref bS_10), (.ref v1), (.ref b1), (.ref b1)])) rfl (by rw [hml]; rfl) (Steps.refl _) (a := b1) (argsL := [(.ref v1), (.ref bS_10)]) (rest := [(.ref b1)]) (lenOf own_pd13 rfl) rfl (by show 2 * 0 + _ ≤ _; exact Nat.le_of_eq rfl) (hb hby at_95) (fun _ _ => ⟨rfl, rfl, (by decide : 5 + 4 ≤ _), (by decide : 27 + 52 ≤ _)⟩)
    dsimp only [Pt.U, Pt.locs, Pt.cells, Pt.slots] at X11 l11 y11 z11 st11 hQ11 sv11 sg11 cr11
    subst l11 y11 z11
    obtain ⟨X11, hS, hZ, hown⟩ := rebS hS (Nat.le_trans (Nat.le_trans (Nat.le_trans hk0 E1.1) Kc2.1) Kc10.1) X11 sv11 sg11 hZ hown
    obtain ⟨rfl, Nq11, Kc11, P11_0, P11_1, P11_2⟩ := hQ11
    have N11 := Fr.app N10 Nq11
    have O11 := O10.keep Kc11 (allS ge_b1 all0)
    have CH11 := cr11.1
    refine own_tr st11 ?_
    show gs T11 m 98 #[vi p1, vi p2, vi p3, .val (.long qa), .second, .val (.long qb), .second, vi p6, vi i1, vi i2, vi 3, vi cp, vi l2, .val (.long q2), .second, .unset, .unset, .unset, .unset] [(.ref b1)]
    refine own_st (fun _ kS => XS.astore X11.here hx rfl (hb hby at_98) rfl rfl (l' := #[vi p1, vi p2, vi p3, .val (.long qa), .second, .val (.long qb), .second, vi p6, vi i1, vi i2, vi 3, vi cp, vi l2, .val (.long q2), .second, vr b1, .unset, .unset, .unset]) rfl kS) ?_
    show gs T11 m 100 #[vi p1, vi p2, vi p3, .val (.long qa), .second, .val (.long qb), .second, vi p6, vi i1, vi i2, vi 3, vi cp, vi l2, .val (.long q2), .second, vr b1, .unset, .unset, .unset] []
    exact sg_B3 hx hby hml hown hlk hret hZ hw (Nat.le_trans (Nat.le_trans (Nat.le_trans (Nat.le_trans Z0 E1.1) Kc2.1) Kc10.1) Kc11.1) hS (Nat.le_refl _) (X11.more (by decide) (by decide)) rfl N11 O11 p1 p2 p3 qa qb p6 i1 i2 cp l2 q2 v1 v2 b1 bS_10 tN_10 kN_10 w_TITLE w_CREATOR w_SUBJECT w_DESCRIPTION w_PUBLISHER w_CONTRIBUTOR w_DATE w_TYPE w_FORMAT w_IDENTIFIER w_SOURCE w_LANGUAGE w_RELATION w_COVERAGE w_RIGHTS zCS P11_0 P11_1 P11_2 (P10_1.keep Kc11) (P10_3.keep Kc11 (ninS (Ne.symm ne_b1_bS_10) nin0)) (P10_2.keep Kc11 (ninS (Ne.symm ne_b1_bS_10) nin0)) ge_b1 (P10_4.keep Kc11 (ninS ne_tN_10_b1 nin0)) hveq hvne S_TITLE S_CREATOR S_SUBJECT S_DESCRIPTION S_PUBLISHER S_CONTRIBUTOR S_DATE S_TYPE S_FORMAT S_IDENTIFIER S_SOURCE S_LANGUAGE S_RELATION S_COVERAGE S_RIGHTS E_TITLE E_CREATOR E_SUBJECT E_DESCRIPTION E_PUBLISHER E_CONTRIBUTOR E_DATE E_TYPE E_FORMAT E_IDENTIFIER E_SOURCE E_LANGUAGE E_RELATION E_COVERAGE E_RIGHTS hE2 E_v2 hL2 S_CS P_CS CH11
theorem ef_law (m : MethodId) (x0 : Int32) (x1 : Int32) (x2 : Int32) (x3 : Int64) (x4 : Int64) (x5 : Int32) : entryFrame m #[(.int x0), (.int x1), (.int x2), (.long x3), (.long x4), (.int x5)] maxLocals = mkF m 0 #[.val (.int x0), .val (.int x1), .val (.int x2), .val (.long x3), .second, .val (.long x4), .second, .val (.int x5), .unset, .unset, .unset, .unset, .unset, .unset, .unset, .unset, .unset, .unset, .unset] [] := by first | (simp [entryFrame, mkF, argsToLocals, Value.category, maxLocals]; done) | rfl
theorem rm_law (l : Launch) (Z : State) (a0 : Array Value) (hw : HW a0 Z) (ws : List Jvm.Cond) (p1 : Int32) (p2 : Int32) (p3 : Int32) (qa : Int64) (qb : Int64) (p6 : Int32) (w_TITLE : Addr) (w_CREATOR : Addr) (w_SUBJECT : Addr) (w_DESCRIPTION : Addr) (w_PUBLISHER : Addr) (w_CONTRIBUTOR : Addr) (w_DATE : Addr) (w_TYPE : Addr) (w_FORMAT : Addr) (w_IDENTIFIER : Addr) (w_SOURCE : Addr) (w_LANGUAGE : Addr) (w_RELATION : Addr) (w_COVERAGE : Addr) (w_RIGHTS : Addr) (zCS : Int32) (h0 : Heap) (n0 : Nat) (Z0 : n0 ≤ h0.size) (O0 : Old Z n0 h0) (S_TITLE : sk1 Z Z.heap (.ref w_TITLE)) (S_CREATOR : sk2 Z Z.heap (.ref w_CREATOR)) (S_SUBJECT : sk3 Z Z.heap (.ref w_SUBJECT)) (S_DESCRIPTION : sk4 Z Z.heap (.ref w_DESCRIPTION)) (S_PUBLISHER : sk5 Z Z.heap (.ref w_PUBLISHER)) (S_CONTRIBUTOR : sk6 Z Z.heap (.ref w_CONTRIBUTOR)) (S_DATE : sk7 Z Z.heap (.ref w_DATE)) (S_TYPE : sk8 Z Z.heap (.ref w_TYPE)) (S_FORMAT : sk9 Z Z.heap (.ref w_FORMAT)) (S_IDENTIFIER : sk10 Z Z.heap (.ref w_IDENTIFIER)) (S_SOURCE : sk11 Z Z.heap (.ref w_SOURCE)) (S_LANGUAGE : sk12 Z Z.heap (.ref w_LANGUAGE)) (S_RELATION : sk13 Z Z.heap (.ref w_RELATION)) (S_COVERAGE : sk14 Z Z.heap (.ref w_COVERAGE)) (S_RIGHTS : sk15 Z Z.heap (.ref w_RIGHTS)) (E_TITLE : ek23 Z Z.heap w_TITLE) (E_CREATOR : ek23 Z Z.heap w_CREATOR) (E_SUBJECT : ek23 Z Z.heap w_SUBJECT) (E_DESCRIPTION : ek23 Z Z.heap w_DESCRIPTION) (E_PUBLISHER : ek23 Z Z.heap w_PUBLISHER) (E_CONTRIBUTOR : ek23 Z Z.heap w_CONTRIBUTOR) (E_DATE : ek23 Z Z.heap w_DATE) (E_TYPE : ek23 Z Z.heap w_TYPE) (E_FORMAT : ek23 Z Z.heap w_FORMAT) (E_IDENTIFIER : ek23 Z Z.heap w_IDENTIFIER) (E_SOURCE : ek23 Z Z.heap w_SOURCE) (E_LANGUAGE : ek23 Z Z.heap w_LANGUAGE) (E_RELATION : ek23 Z Z.heap w_RELATION) (E_COVERAGE : ek23 Z Z.heap w_COVERAGE) (E_RIGHTS : ek23 Z Z.heap w_RIGHTS) (F_TITLE_ordinal : fk20 Z Z.heap w_TITLE (.int 0)) (F_CREATOR_ordinal : fk20 Z Z.heap w_CREATOR (.int 1)) (F_SUBJECT_ordinal : fk20 Z Z.heap w_SUBJECT (.int 2)) (F_DESCRIPTION_ordinal : fk20 Z Z.heap w_DESCRIPTION (.int 3)) (F_PUBLISHER_ordinal : fk20 Z Z.heap w_PUBLISHER (.int 4)) (F_CONTRIBUTOR_ordinal : fk20 Z Z.heap w_CONTRIBUTOR (.int 5)) (F_DATE_ordinal : fk20 Z Z.heap w_DATE (.int 6)) (F_TYPE_ordinal : fk20 Z Z.heap w_TYPE (.int 7)) (F_FORMAT_ordinal : fk20 Z Z.heap w_FORMAT (.int 8)) (F_IDENTIFIER_ordinal : fk20 Z Z.heap w_IDENTIFIER (.int 9)) (F_SOURCE_ordinal : fk20 Z Z.heap w_SOURCE (.int 10)) (F_LANGUAGE_ordinal : fk20 Z Z.heap w_LANGUAGE (.int 11)) (F_RELATION_ordinal : fk20 Z Z.heap w_RELATION (.int 12)) (F_COVERAGE_ordinal : fk20 Z Z.heap w_COVERAGE (.int 13)) (F_RIGHTS_ordinal : fk20 Z Z.heap w_RIGHTS (.int 14)) (S_CS : sk0 Z Z.heap (.int zCS)) (P_CS : ¬ zCS = 0) :
    MetFree l x (head1 (Jvm.Cond.code x code maxLocals ret :: ws) room_1) (fun a U => a = #[(.int p1), (.int p2), (.int p3), (.long qa), (.long qb), (.int p6)] ∧ Z.Warmed39 U.vm ∧ U.heap = h0 ∧ CHv Z EL0 U.vm h0) (fun _ _ _ _ _ => True) (fun _ U o U' => ∃ v L, o = .returned v ∧ Q_law n0 v U'.heap L ∧ ReturnedEndW U o U' L room_1.cells room_1.slots) := by
  refine MetFree.of_bodySF (plainFor_of_name pn_0) hisR ?_
  intro p e s m args below meth c s₁ Bd hml0 hP hK
  obtain ⟨rfl, hZ, hh, hCH⟩ := hP
  have hx := Bd.exec
  have hby := Bd.bytes
  have hml : c.maxLocals = 19 := hml0
  have hown : s.vm.findClass "com/example/cartouche/cartouche/crosswalks/DcValueEqualsPinLaw" = some m.cls := findClass_of_methodNamed Bd.named
  have hnm := (name_of_methodNamed Bd.named Bd.method).1
  have hlk := Bd.notSynchronized
  have hret := Bd.returns
  have X0 : Stand p l e room_1 (s.setVm s.vm) m #[(.int p1), (.int p2), (.int p3), (.long qa), (.long qb), (.int p6)] below meth c s₁ [] 0 0 := Stand.of_body Bd
  have hS : s.Since s.vm 0 := (State.WarmedH.refl s).since 0
  have e0 : s₁.heap = h0 := by rw [← hh, Bd.state]; rfl
  have N0 := Fr.nil n0
  have hEL : EW Z a0 EL0 := own_ELw hw
  refine own_inW room_1.cells room_1.slots (Q_law n0) (ef_law m p1 p2 p3 qa qb p6) ?_
  show gs s₁ m 0 #[vi p1, vi p2, vi p3, .val (.long qa), .second, .val (.long qb), .second, vi p6, .unset, .unset, .unset, .unset, .unset, .unset, .unset, .unset, .unset, .unset, .unset] []
  refine oiloadN X0 hx hby at_0 rfl ?_
  show gs s₁ m 1 #[vi p1, vi p2, vi p3, .val (.long qa), .second, .val (.long qb), .second, vi p6, .unset, .unset, .unset, .unset, .unset, .unset, .unset, .unset, .unset, .unset, .unset] [(.int p1)]
  refine own_st (fun _ kS => X0.ldcInt hx hown (mvT hZ (own_w hw 0 rfl)) (g := (mkF m 1 #[vi p1, vi p2, vi p3, .val (.long qa), .second, .val (.long qb), .second, vi p6, .unset, .unset, .unset, .unset, .unset, .unset, .unset, .unset, .unset, .unset, .unset] [(.int p1)])) rfl (hb hby at_1) _ kS) ?_
  show gs s₁ m 3 #[vi p1, vi p2, vi p3, .val (.long qa), .second, .val (.long qb), .second, vi p6, .unset, .unset, .unset, .unset, .unset, .unset, .unset, .unset, .unset, .unset, .unset] [(.int 2147483647), (.int p1)]
  refine own_st (fun _ kS => XS.iand X0.here hx rfl (hb hby at_3) rfl kS) ?_
  refine own_st (fun _ kS => XS.bipush X0.here hx rfl (hb hby at_4) kS) ?_
  show gs s₁ m 6 #[vi p1, vi p2, vi p3, .val (.long qa), .second, .val (.long qb), .second, vi p6, .unset, .unset, .unset, .unset, .unset, .unset, .unset, .unset, .unset, .unset, .unset] [(.int 15), (.int (p1 &&& (2147483647 : Int32)))]
  refine own_st (fun _ kS => iremM (g := (mkF m 6 #[vi p1, vi p2, vi p3, .val (.long qa), .second, .val (.long qb), .second, vi p6, .unset, .unset, .unset, .unset, .unset, .unset, .unset, .unset, .unset, .unset, .unset] [(.int 15), (.int (p1 &&& (2147483647 : Int32)))])) X0 hx rfl (hb hby at_6) rfl (by decide) kS) ?_
  show gs s₁ m 7 #[vi p1, vi p2, vi p3, .val (.long qa), .second, .val (.long qb), .second, vi p6, .unset, .unset, .unset, .unset, .unset, .unset, .unset, .unset, .unset, .unset, .unset] [(.int ((p1 &&& (2147483647 : Int32)) % (15 : Int32)))]
  obtain ⟨i1, hi1⟩ : ∃ z, z = ((p1 &&& (2147483647 : Int32)) % (15 : Int32)) := ⟨_, rfl⟩
  obtain ⟨v1, hv1⟩ : ∃ z, z = own_elF i1 w_TITLE w_CREATOR w_SUBJECT w_DESCRIPTION w_PUBLISHER w_CONTRIBUTOR w_DATE w_TYPE w_FORMAT w_IDENTIFIER w_SOURCE w_LANGUAGE w_RELATION w_COVERAGE w_RIGHTS := ⟨_, rfl⟩
  have hE1 : own_el i1 v1 w_TITLE w_CREATOR w_SUBJECT w_DESCRIPTION w_PUBLISHER w_CONTRIBUTOR w_DATE w_TYPE w_FORMAT w_IDENTIFIER w_SOURCE w_LANGUAGE w_RELATION w_COVERAGE w_RIGHTS := hv1 ▸ own_elx i1 w_TITLE w_CREATOR w_SUBJECT w_DESCRIPTION w_PUBLISHER w_CONTRIBUTOR w_DATE w_TYPE w_FORMAT w_IDENTIFIER w_SOURCE w_LANGUAGE w_RELATION w_COVERAGE w_RIGHTS (hi1 ▸ own_mod15 p1)
  have E_v1 : ek23 Z Z.heap v1 := own_elp (P := fun _ z => ek23 Z Z.heap z) hE1 E_TITLE E_CREATOR E_SUBJECT E_DESCRIPTION E_PUBLISHER E_CONTRIBUTOR E_DATE E_TYPE E_FORMAT E_IDENTIFIER E_SOURCE E_LANGUAGE E_RELATION E_COVERAGE E_RIGHTS
  have Fo1 : fk20 Z Z.heap v1 (.int i1) := own_elp (P := fun y z => fk20 Z Z.heap z (.int y)) hE1 F_TITLE_ordinal F_CREATOR_ordinal F_SUBJECT_ordinal F_DESCRIPTION_ordinal F_PUBLISHER_ordinal F_CONTRIBUTOR_ordinal F_DATE_ordinal F_TYPE_ordinal F_FORMAT_ordinal F_IDENTIFIER_ordinal F_SOURCE_ordinal F_LANGUAGE_ordinal F_RELATION_ordinal F_COVERAGE_ordinal F_RIGHTS_ordinal
  rw [← hi1]
  show gs s₁ m 7 #[vi p1, vi p2, vi p3, .val (.long qa), .second, .val (.long qb), .second, vi p6, .unset, .unset, .unset, .unset, .unset, .unset, .unset, .unset, .unset, .unset, .unset] [(.int i1)]
  refine own_st (fun _ kS => XS.istore X0.here hx rfl (hb hby at_7) rfl (l' := #[vi p1, vi p2, vi p3, .val (.long qa), .second, .val (.long qb), .second, vi p6, vi i1, .unset, .unset, .unset, .unset, .unset, .unset, .unset, .unset, .unset, .unset]) rfl kS) ?_
  refine oiload X0 hx hby at_9 rfl ?_
  refine own_st (fun _ kS => XS.bipush X0.here hx rfl (hb hby at_11) kS) ?_
  refine own_st (fun _ kS => XS.iand X0.here hx rfl (hb hby at_13) rfl kS) ?_
  show gs s₁ m 14 #[vi p1, vi p2, vi p3, .val (.long qa), .second, .val (.long qb), .second, vi p6, vi i1, .unset, .unset, .unset, .unset, .unset, .unset, .unset, .unset, .unset, .unset] [(.int (p6 &&& (8 : Int32)))]
  by_cases hc14_1 : (p6 &&& (8 : Int32)) = (0 : Int32)
  · skip
    refine own_st (fun _ kS => XS.ifYes X0.here hx rfl (pc0 := 14) (pc' := 22) rfl (hb hby at_14) rfl ((if0 _ _).trans (teq hc14_1).1) (by decide) (by decide) kS) ?_
    show gs s₁ m 22 #[vi p1, vi p2, vi p3, .val (.long qa), .second, .val (.long qb), .second, vi p6, vi i1, .unset, .unset, .unset, .unset, .unset, .unset, .unset, .unset, .unset, .unset] []
    refine oiloadN X0 hx hby at_22 rfl ?_
    show gs s₁ m 23 #[vi p1, vi p2, vi p3, .val (.long qa), .second, .val (.long qb), .second, vi p6, vi i1, .unset, .unset, .unset, .unset, .unset, .unset, .unset, .unset, .unset, .unset] [(.int p2)]
    refine own_st (fun _ kS => X0.ldcInt hx hown (mvT hZ (own_w hw 0 rfl)) (g := (mkF m 23 #[vi p1, vi p2, vi p3, .val (.long qa), .second, .val (.long qb), .second, vi p6, vi i1, .unset, .unset, .unset, .unset, .unset, .unset, .unset, .unset, .unset, .unset] [(.int p2)])) rfl (hb hby at_23) _ kS) ?_
    show gs s₁ m 25 #[vi p1, vi p2, vi p3, .val (.long qa), .second, .val (.long qb), .second, vi p6, vi i1, .unset, .unset, .unset, .unset, .unset, .unset, .unset, .unset, .unset, .unset] [(.int 2147483647), (.int p2)]
    refine own_st (fun _ kS => XS.iand X0.here hx rfl (hb hby at_25) rfl kS) ?_
    refine own_st (fun _ kS => XS.bipush X0.here hx rfl (hb hby at_26) kS) ?_
    show gs s₁ m 28 #[vi p1, vi p2, vi p3, .val (.long qa), .second, .val (.long qb), .second, vi p6, vi i1, .unset, .unset, .unset, .unset, .unset, .unset, .unset, .unset, .unset, .unset] [(.int 15), (.int (p2 &&& (2147483647 : Int32)))]
    refine own_st (fun _ kS => iremM (g := (mkF m 28 #[vi p1, vi p2, vi p3, .val (.long qa), .second, .val (.long qb), .second, vi p6, vi i1, .unset, .unset, .unset, .unset, .unset, .unset, .unset, .unset, .unset, .unset] [(.int 15), (.int (p2 &&& (2147483647 : Int32)))])) X0 hx rfl (hb hby at_28) rfl (by decide) kS) ?_
    show gs s₁ m 29 #[vi p1, vi p2, vi p3, .val (.long qa), .second, .val (.long qb), .second, vi p6, vi i1, .unset, .unset, .unset, .unset, .unset, .unset, .unset, .unset, .unset, .unset] [(.int ((p2 &&& (2147483647 : Int32)) % (15 : Int32)))]
    obtain ⟨i2, hi2⟩ : ∃ z, z = ((p2 &&& (2147483647 : Int32)) % (15 : Int32)) := ⟨_, rfl⟩
    obtain ⟨v2, hv2⟩ : ∃ z, z = own_elF i2 w_TITLE w_CREATOR w_SUBJECT w_DESCRIPTION w_PUBLISHER w_CONTRIBUTOR w_DATE w_TYPE w_FORMAT w_IDENTIFIER w_SOURCE w_LANGUAGE w_RELATION w_COVERAGE w_RIGHTS := ⟨_, rfl⟩
    have hE2 : own_el i2 v2 w_TITLE w_CREATOR w_SUBJECT w_DESCRIPTION w_PUBLISHER w_CONTRIBUTOR w_DATE w_TYPE w_FORMAT w_IDENTIFIER w_SOURCE w_LANGUAGE w_RELATION w_COVERAGE w_RIGHTS := hv2 ▸ own_elx i2 w_TITLE w_CREATOR w_SUBJECT w_DESCRIPTION w_PUBLISHER w_CONTRIBUTOR w_DATE w_TYPE w_FORMAT w_IDENTIFIER w_SOURCE w_LANGUAGE w_RELATION w_COVERAGE w_RIGHTS (hi2 ▸ own_mod15 p2)
    have E_v2 : ek23 Z Z.heap v2 := own_elp (P := fun _ z => ek23 Z Z.heap z) hE2 E_TITLE E_CREATOR E_SUBJECT E_DESCRIPTION E_PUBLISHER E_CONTRIBUTOR E_DATE E_TYPE E_FORMAT E_IDENTIFIER E_SOURCE E_LANGUAGE E_RELATION E_COVERAGE E_RIGHTS
    have Fo2 : fk20 Z Z.heap v2 (.int i2) := own_elp (P := fun y z => fk20 Z Z.heap z (.int y)) hE2 F_TITLE_ordinal F_CREATOR_ordinal F_SUBJECT_ordinal F_DESCRIPTION_ordinal F_PUBLISHER_ordinal F_CONTRIBUTOR_ordinal F_DATE_ordinal F_TYPE_ordinal F_FORMAT_ordinal F_IDENTIFIER_ordinal F_SOURCE_ordinal F_LANGUAGE_ordinal F_RELATION_ordinal F_COVERAGE_ordinal F_RIGHTS_ordinal
    rw [← hi2]
    show gs s₁ m 29 #[vi p1, vi p2, vi p3, .val (.long qa), .second, .val (.long qb), .second, vi p6, vi i1, .unset, .unset, .unset, .unset, .unset, .unset, .unset, .unset, .unset, .unset] [(.int i2)]
    refine own_st (fun _ kS => XS.istore X0.here hx rfl (hb hby at_29) rfl (l' := #[vi p1, vi p2, vi p3, .val (.long qa), .second, .val (.long qb), .second, vi p6, vi i1, vi i2, .unset, .unset, .unset, .unset, .unset, .unset, .unset, .unset, .unset]) rfl kS) ?_
    refine oiloadN X0 hx hby at_31 rfl ?_
    refine oiconst X0 hx hby at_32 ?_
    refine own_st (fun _ kS => XS.iand X0.here hx rfl (hb hby at_33) rfl kS) ?_
    show gs s₁ m 34 #[vi p1, vi p2, vi p3, .val (.long qa), .second, .val (.long qb), .second, vi p6, vi i1, vi i2, .unset, .unset, .unset, .unset, .unset, .unset, .unset, .unset, .unset] [(.int (p3 &&& (3 : Int32)))]
    obtain ⟨l1, hl1⟩ : ∃ z, z = (p3 &&& (3 : Int32)) := ⟨_, rfl⟩
    have hL1 : l1 = (0 : Int32) ∨ l1 = (1 : Int32) ∨ l1 = (2 : Int32) ∨ l1 = (3 : Int32) := hl1 ▸ own_and3 p3
    rw [← hl1]
    show gs s₁ m 34 #[vi p1, vi p2, vi p3, .val (.long qa), .second, .val (.long qb), .second, vi p6, vi i1, vi i2, .unset, .unset, .unset, .unset, .unset, .unset, .unset, .unset, .unset] [(.int l1)]
    refine own_st (fun _ kS => XS.istore X0.here hx rfl (hb hby at_34) rfl (l' := #[vi p1, vi p2, vi p3, .val (.long qa), .second, .val (.long qb), .second, vi p6, vi i1, vi i2, vi l1, .unset, .unset, .unset, .unset, .unset, .unset, .unset, .unset]) rfl kS) ?_
    refine oiload X0 hx hby at_36 rfl ?_
    refine oiconst X0 hx hby at_38 ?_
    refine own_st (fun _ kS => XS.iand X0.here hx rfl (hb hby at_39) rfl kS) ?_
    show gs s₁ m 40 #[vi p1, vi p2, vi p3, .val (.long qa), .second, .val (.long qb), .second, vi p6, vi i1, vi i2, vi l1, .unset, .unset, .unset, .unset, .unset, .unset, .unset, .unset] [(.int (p6 &&& (4 : Int32)))]
    by_cases hc40_2 : (p6 &&& (4 : Int32)) = (0 : Int32)
    · skip
      refine own_st (fun _ kS => XS.ifYes X0.here hx rfl (pc0 := 40) (pc' := 47) rfl (hb hby at_40) rfl ((if0 _ _).trans (teq hc40_2).1) (by decide) (by decide) kS) ?_
      show gs s₁ m 47 #[vi p1, vi p2, vi p3, .val (.long qa), .second, .val (.long qb), .second, vi p6, vi i1, vi i2, vi l1, .unset, .unset, .unset, .unset, .unset, .unset, .unset, .unset] []
      refine oiconst X0 hx hby at_47 ?_
      refine own_st (fun _ kS => XS.istore X0.here hx rfl (hb hby at_48) rfl (l' := #[vi p1, vi p2, vi p3, .val (.long qa), .second, .val (.long qb), .second, vi p6, vi i1, vi i2, vi l1, vi 0, .unset, .unset, .unset, .unset, .unset, .unset, .unset]) rfl kS) ?_
      refine oiload X0 hx hby at_50 rfl ?_
      refine own_st (fun _ kS => XS.ifYes X0.here hx rfl (pc0 := 52) (pc' := 60) rfl (hb hby at_52) rfl ((if0 _ _).trans (teq (by decide : (0 : Int32) = (0 : Int32))).1) (by decide) (by decide) kS) ?_
      show gs s₁ m 60 #[vi p1, vi p2, vi p3, .val (.long qa), .second, .val (.long qb), .second, vi p6, vi i1, vi i2, vi l1, vi 0, .unset, .unset, .unset, .unset, .unset, .unset, .unset] []
      refine oiloadN X0 hx hby at_60 rfl ?_
      refine oiconst X0 hx hby at_61 ?_
      refine own_st (fun _ kS => XT.iushr X0.here hx rfl (hb hby at_62) rfl kS) ?_
      refine oiconst X0 hx hby at_63 ?_
      refine own_st (fun _ kS => XS.iand X0.here hx rfl (hb hby at_64) rfl kS) ?_
      show gs s₁ m 65 #[vi p1, vi p2, vi p3, .val (.long qa), .second, .val (.long qb), .second, vi p6, vi i1, vi i2, vi l1, vi 0, .unset, .unset, .unset, .unset, .unset, .unset, .unset] [(.int ((XT.ushr p3 (2 : Int32)) &&& (3 : Int32)))]
      obtain ⟨l2, hl2⟩ : ∃ z, z = ((XT.ushr p3 (2 : Int32)) &&& (3 : Int32)) := ⟨_, rfl⟩
      have hL2 : l2 = (0 : Int32) ∨ l2 = (1 : Int32) ∨ l2 = (2 : Int32) ∨ l2 = (3 : Int32) := hl2 ▸ own_and3 _
      rw [← hl2]
      show gs s₁ m 65 #[vi p1, vi p2, vi p3, .val (.long qa), .second, .val (.long qb), .second, vi p6, vi i1, vi i2, vi l1, vi 0, .unset, .unset, .unset, .unset, .unset, .unset, .unset] [(.int l2)]
      refine own_st (fun _ kS => XS.istore X0.here hx rfl (hb hby at_65) rfl (l' := #[vi p1, vi p2, vi p3, .val (.long qa), .second, .val (.long qb), .second, vi p6, vi i1, vi i2, vi l1, vi 0, vi l2, .unset, .unset, .unset, .unset, .unset, .unset]) rfl kS) ?_
      refine oiload X0 hx hby at_67 rfl ?_
      refine own_st (fun _ kS => XS.ifYes X0.here hx rfl (pc0 := 69) (pc' := 76) rfl (hb hby at_69) rfl ((if0 _ _).trans (teq (by decide : (0 : Int32) = (0 : Int32))).1) (by decide) (by decide) kS) ?_
      show gs s₁ m 76 #[vi p1, vi p2, vi p3, .val (.long qa), .second, .val (.long qb), .second, vi p6, vi i1, vi i2, vi l1, vi 0, vi l2, .unset, .unset, .unset, .unset, .unset, .unset] []
      refine own_st (fun _ kS => XT.lload X0.here hx rfl (hb hby at_76) rfl kS) ?_
      refine own_st (fun _ kS => XT.lstore X0.here hx rfl (hb hby at_78) rfl (l' := #[vi p1, vi p2, vi p3, .val (.long qa), .second, .val (.long qb), .second, vi p6, vi i1, vi i2, vi l1, vi 0, vi l2, .val (.long qb), .second, .unset, .unset, .unset, .unset]) rfl kS) ?_
      show gs s₁ m 80 #[vi p1, vi p2, vi p3, .val (.long qa), .second, .val (.long qb), .second, vi p6, vi i1, vi i2, vi l1, vi 0, vi l2, .val (.long qb), .second, .unset, .unset, .unset, .unset] []
      exact sg_A hx hby hml hown hlk hret hZ hw Z0 hS (Nat.zero_le _) X0 e0 N0 O0 p1 p2 p3 qa qb p6 i1 i2 l1 (0 : Int32) l2 qb v1 v2 w_TITLE w_CREATOR w_SUBJECT w_DESCRIPTION w_PUBLISHER w_CONTRIBUTOR w_DATE w_TYPE w_FORMAT w_IDENTIFIER w_SOURCE w_LANGUAGE w_RELATION w_COVERAGE w_RIGHTS zCS (fun q => by rw [hv1, hv2, q]) (fun q => Fld.ne Fo1 Fo2 (fun w => q (Value.int.inj w))) S_TITLE S_CREATOR S_SUBJECT S_DESCRIPTION S_PUBLISHER S_CONTRIBUTOR S_DATE S_TYPE S_FORMAT S_IDENTIFIER S_SOURCE S_LANGUAGE S_RELATION S_COVERAGE S_RIGHTS E_TITLE E_CREATOR E_SUBJECT E_DESCRIPTION E_PUBLISHER E_CONTRIBUTOR E_DATE E_TYPE E_FORMAT E_IDENTIFIER E_SOURCE E_LANGUAGE E_RELATION E_COVERAGE E_RIGHTS hE1 E_v1 hE2 E_v2 hL1 hL2 S_CS P_CS hCH
    · skip
      refine own_st (fun _ kS => XS.ifNo X0.here hx rfl (hb hby at_40) rfl ((if0 _ _).trans (feq hc40_2).1) kS) ?_
      show gs s₁ m 43 #[vi p1, vi p2, vi p3, .val (.long qa), .second, .val (.long qb), .second, vi p6, vi i1, vi i2, vi l1, .unset, .unset, .unset, .unset, .unset, .unset, .unset, .unset] []
      refine oiconst X0 hx hby at_43 ?_
      refine own_st (fun _ kS => XS.goto X0.here hx rfl (pc0 := 44) (pc' := 48) rfl (hb hby at_44) (by decide) (by decide) kS) ?_
      refine own_st (fun _ kS => XS.istore X0.here hx rfl (hb hby at_48) rfl (l' := #[vi p1, vi p2, vi p3, .val (.long qa), .second, .val (.long qb), .second, vi p6, vi i1, vi i2, vi l1, vi 1, .unset, .unset, .unset, .unset, .unset, .unset, .unset]) rfl kS) ?_
      refine oiload X0 hx hby at_50 rfl ?_
      refine own_st (fun _ kS => XS.ifNo X0.here hx rfl (hb hby at_52) rfl ((if0 _ _).trans (feq (by decide : ¬ ((1 : Int32) = (0 : Int32)))).1) kS) ?_
      show gs s₁ m 55 #[vi p1, vi p2, vi p3, .val (.long qa), .second, .val (.long qb), .second, vi p6, vi i1, vi i2, vi l1, vi 1, .unset, .unset, .unset, .unset, .unset, .unset, .unset] []
      refine oiload X0 hx hby at_55 rfl ?_
      refine own_st (fun _ kS => XS.goto X0.here hx rfl (pc0 := 57) (pc' := 65) rfl (hb hby at_57) (by decide) (by decide) kS) ?_
      show gs s₁ m 65 #[vi p1, vi p2, vi p3, .val (.long qa), .second, .val (.long qb), .second, vi p6, vi i1, vi i2, vi l1, vi 1, .unset, .unset, .unset, .unset, .unset, .unset, .unset] [(.int l1)]
      refine own_st (fun _ kS => XS.istore X0.here hx rfl (hb hby at_65) rfl (l' := #[vi p1, vi p2, vi p3, .val (.long qa), .second, .val (.long qb), .second, vi p6, vi i1, vi i2, vi l1, vi 1, vi l1, .unset, .unset, .unset, .unset, .unset, .unset]) rfl kS) ?_
      refine oiload X0 hx hby at_67 rfl ?_
      refine own_st (fun _ kS => XS.ifNo X0.here hx rfl (hb hby at_69) rfl ((if0 _ _).trans (feq (by decide : ¬ ((1 : Int32) = (0 : Int32)))).1) kS) ?_
      show gs s₁ m 72 #[vi p1, vi p2, vi p3, .val (.long qa), .second, .val (.long qb), .second, vi p6, vi i1, vi i2, vi l1, vi 1, vi l1, .unset, .unset, .unset, .unset, .unset, .unset] []
      refine own_st (fun _ kS => XT.lloadN X0.here hx rfl (hb hby at_72) rfl kS) ?_
      refine own_st (fun _ kS => XS.goto X0.here hx rfl (pc0 := 73) (pc' := 78) rfl (hb hby at_73) (by decide) (by decide) kS) ?_
      refine own_st (fun _ kS => XT.lstore X0.here hx rfl (hb hby at_78) rfl (l' := #[vi p1, vi p2, vi p3, .val (.long qa), .second, .val (.long qb), .second, vi p6, vi i1, vi i2, vi l1, vi 1, vi l1, .val (.long qa), .second, .unset, .unset, .unset, .unset]) rfl kS) ?_
      show gs s₁ m 80 #[vi p1, vi p2, vi p3, .val (.long qa), .second, .val (.long qb), .second, vi p6, vi i1, vi i2, vi l1, vi 1, vi l1, .val (.long qa), .second, .unset, .unset, .unset, .unset] []
      exact sg_A hx hby hml hown hlk hret hZ hw Z0 hS (Nat.zero_le _) X0 e0 N0 O0 p1 p2 p3 qa qb p6 i1 i2 l1 (1 : Int32) l1 qa v1 v2 w_TITLE w_CREATOR w_SUBJECT w_DESCRIPTION w_PUBLISHER w_CONTRIBUTOR w_DATE w_TYPE w_FORMAT w_IDENTIFIER w_SOURCE w_LANGUAGE w_RELATION w_COVERAGE w_RIGHTS zCS (fun q => by rw [hv1, hv2, q]) (fun q => Fld.ne Fo1 Fo2 (fun w => q (Value.int.inj w))) S_TITLE S_CREATOR S_SUBJECT S_DESCRIPTION S_PUBLISHER S_CONTRIBUTOR S_DATE S_TYPE S_FORMAT S_IDENTIFIER S_SOURCE S_LANGUAGE S_RELATION S_COVERAGE S_RIGHTS E_TITLE E_CREATOR E_SUBJECT E_DESCRIPTION E_PUBLISHER E_CONTRIBUTOR E_DATE E_TYPE E_FORMAT E_IDENTIFIER E_SOURCE E_LANGUAGE E_RELATION E_COVERAGE E_RIGHTS hE1 E_v1 hE2 E_v2 hL1 hL1 S_CS P_CS hCH
  · skip
    refine own_st (fun _ kS => XS.ifNo X0.here hx rfl (hb hby at_14) rfl ((if0 _ _).trans (feq hc14_1).1) kS) ?_
    show gs s₁ m 17 #[vi p1, vi p2, vi p3, .val (.long qa), .second, .val (.long qb), .second, vi p6, vi i1, .unset, .unset, .unset, .unset, .unset, .unset, .unset, .unset, .unset, .unset] []
    refine oiload X0 hx hby at_17 rfl ?_
    refine own_st (fun _ kS => XS.goto X0.here hx rfl (pc0 := 19) (pc' := 29) rfl (hb hby at_19) (by decide) (by decide) kS) ?_
    show gs s₁ m 29 #[vi p1, vi p2, vi p3, .val (.long qa), .second, .val (.long qb), .second, vi p6, vi i1, .unset, .unset, .unset, .unset, .unset, .unset, .unset, .unset, .unset, .unset] [(.int i1)]
    refine own_st (fun _ kS => XS.istore X0.here hx rfl (hb hby at_29) rfl (l' := #[vi p1, vi p2, vi p3, .val (.long qa), .second, .val (.long qb), .second, vi p6, vi i1, vi i1, .unset, .unset, .unset, .unset, .unset, .unset, .unset, .unset, .unset]) rfl kS) ?_
    refine oiloadN X0 hx hby at_31 rfl ?_
    refine oiconst X0 hx hby at_32 ?_
    refine own_st (fun _ kS => XS.iand X0.here hx rfl (hb hby at_33) rfl kS) ?_
    show gs s₁ m 34 #[vi p1, vi p2, vi p3, .val (.long qa), .second, .val (.long qb), .second, vi p6, vi i1, vi i1, .unset, .unset, .unset, .unset, .unset, .unset, .unset, .unset, .unset] [(.int (p3 &&& (3 : Int32)))]
    obtain ⟨l1, hl1⟩ : ∃ z, z = (p3 &&& (3 : Int32)) := ⟨_, rfl⟩
    have hL1 : l1 = (0 : Int32) ∨ l1 = (1 : Int32) ∨ l1 = (2 : Int32) ∨ l1 = (3 : Int32) := hl1 ▸ own_and3 p3
    rw [← hl1]
    show gs s₁ m 34 #[vi p1, vi p2, vi p3, .val (.long qa), .second, .val (.long qb), .second, vi p6, vi i1, vi i1, .unset, .unset, .unset, .unset, .unset, .unset, .unset, .unset, .unset] [(.int l1)]
    refine own_st (fun _ kS => XS.istore X0.here hx rfl (hb hby at_34) rfl (l' := #[vi p1, vi p2, vi p3, .val (.long qa), .second, .val (.long qb), .second, vi p6, vi i1, vi i1, vi l1, .unset, .unset, .unset, .unset, .unset, .unset, .unset, .unset]) rfl kS) ?_
    refine oiload X0 hx hby at_36 rfl ?_
    refine oiconst X0 hx hby at_38 ?_
    refine own_st (fun _ kS => XS.iand X0.here hx rfl (hb hby at_39) rfl kS) ?_
    show gs s₁ m 40 #[vi p1, vi p2, vi p3, .val (.long qa), .second, .val (.long qb), .second, vi p6, vi i1, vi i1, vi l1, .unset, .unset, .unset, .unset, .unset, .unset, .unset, .unset] [(.int (p6 &&& (4 : Int32)))]
    by_cases hc40_3 : (p6 &&& (4 : Int32)) = (0 : Int32)
    · skip
      refine own_st (fun _ kS => XS.ifYes X0.here hx rfl (pc0 := 40) (pc' := 47) rfl (hb hby at_40) rfl ((if0 _ _).trans (teq hc40_3).1) (by decide) (by decide) kS) ?_
      show gs s₁ m 47 #[vi p1, vi p2, vi p3, .val (.long qa), .second, .val (.long qb), .second, vi p6, vi i1, vi i1, vi l1, .unset, .unset, .unset, .unset, .unset, .unset, .unset, .unset] []
      refine oiconst X0 hx hby at_47 ?_
      refine own_st (fun _ kS => XS.istore X0.here hx rfl (hb hby at_48) rfl (l' := #[vi p1, vi p2, vi p3, .val (.long qa), .second, .val (.long qb), .second, vi p6, vi i1, vi i1, vi l1, vi 0, .unset, .unset, .unset, .unset, .unset, .unset, .unset]) rfl kS) ?_
      refine oiload X0 hx hby at_50 rfl ?_
      refine own_st (fun _ kS => XS.ifYes X0.here hx rfl (pc0 := 52) (pc' := 60) rfl (hb hby at_52) rfl ((if0 _ _).trans (teq (by decide : (0 : Int32) = (0 : Int32))).1) (by decide) (by decide) kS) ?_
      show gs s₁ m 60 #[vi p1, vi p2, vi p3, .val (.long qa), .second, .val (.long qb), .second, vi p6, vi i1, vi i1, vi l1, vi 0, .unset, .unset, .unset, .unset, .unset, .unset, .unset] []
      refine oiloadN X0 hx hby at_60 rfl ?_
      refine oiconst X0 hx hby at_61 ?_
      refine own_st (fun _ kS => XT.iushr X0.here hx rfl (hb hby at_62) rfl kS) ?_
      refine oiconst X0 hx hby at_63 ?_
      refine own_st (fun _ kS => XS.iand X0.here hx rfl (hb hby at_64) rfl kS) ?_
      show gs s₁ m 65 #[vi p1, vi p2, vi p3, .val (.long qa), .second, .val (.long qb), .second, vi p6, vi i1, vi i1, vi l1, vi 0, .unset, .unset, .unset, .unset, .unset, .unset, .unset] [(.int ((XT.ushr p3 (2 : Int32)) &&& (3 : Int32)))]
      obtain ⟨l2, hl2⟩ : ∃ z, z = ((XT.ushr p3 (2 : Int32)) &&& (3 : Int32)) := ⟨_, rfl⟩
      have hL2 : l2 = (0 : Int32) ∨ l2 = (1 : Int32) ∨ l2 = (2 : Int32) ∨ l2 = (3 : Int32) := hl2 ▸ own_and3 _
      rw [← hl2]
      show gs s₁ m 65 #[vi p1, vi p2, vi p3, .val (.long qa), .second, .val (.long qb), .second, vi p6, vi i1, vi i1, vi l1, vi 0, .unset, .unset, .unset, .unset, .unset, .unset, .unset] [(.int l2)]
      refine own_st (fun _ kS => XS.istore X0.here hx rfl (hb hby at_65) rfl (l' := #[vi p1, vi p2, vi p3, .val (.long qa), .second, .val (.long qb), .second, vi p6, vi i1, vi i1, vi l1, vi 0, vi l2, .unset, .unset, .unset, .unset, .unset, .unset]) rfl kS) ?_
      refine oiload X0 hx hby at_67 rfl ?_
      refine own_st (fun _ kS => XS.ifYes X0.here hx rfl (pc0 := 69) (pc' := 76) rfl (hb hby at_69) rfl ((if0 _ _).trans (teq (by decide : (0 : Int32) = (0 : Int32))).1) (by decide) (by decide) kS) ?_
      show gs s₁ m 76 #[vi p1, vi p2, vi p3, .val (.long qa), .second, .val (.long qb), .second, vi p6, vi i1, vi i1, vi l1, vi 0, vi l2, .unset, .unset, .unset, .unset, .unset, .unset] []
      refine own_st (fun _ kS => XT.lload X0.here hx rfl (hb hby at_76) rfl kS) ?_
      refine own_st (fun _ kS => XT.lstore X0.here hx rfl (hb hby at_78) rfl (l' := #[vi p1, vi p2, vi p3, .val (.long qa), .second, .val (.long qb), .second, vi p6, vi i1, vi i1, vi l1, vi 0, vi l2, .val (.long qb), .second, .unset, .unset, .unset, .unset]) rfl kS) ?_
      show gs s₁ m 80 #[vi p1, vi p2, vi p3, .val (.long qa), .second, .val (.long qb), .second, vi p6, vi i1, vi i1, vi l1, vi 0, vi l2, .val (.long qb), .second, .unset, .unset, .unset, .unset] []
      exact sg_A hx hby hml hown hlk hret hZ hw Z0 hS (Nat.zero_le _) X0 e0 N0 O0 p1 p2 p3 qa qb p6 i1 i1 l1 (0 : Int32) l2 qb v1 v1 w_TITLE w_CREATOR w_SUBJECT w_DESCRIPTION w_PUBLISHER w_CONTRIBUTOR w_DATE w_TYPE w_FORMAT w_IDENTIFIER w_SOURCE w_LANGUAGE w_RELATION w_COVERAGE w_RIGHTS zCS (fun _ => rfl) (fun q => absurd rfl q) S_TITLE S_CREATOR S_SUBJECT S_DESCRIPTION S_PUBLISHER S_CONTRIBUTOR S_DATE S_TYPE S_FORMAT S_IDENTIFIER S_SOURCE S_LANGUAGE S_RELATION S_COVERAGE S_RIGHTS E_TITLE E_CREATOR E_SUBJECT E_DESCRIPTION E_PUBLISHER E_CONTRIBUTOR E_DATE E_TYPE E_FORMAT E_IDENTIFIER E_SOURCE E_LANGUAGE E_RELATION E_COVERAGE E_RIGHTS hE1 E_v1 hE1 E_v1 hL1 hL2 S_CS P_CS hCH
    · skip
      refine own_st (fun _ kS => XS.ifNo X0.here hx rfl (hb hby at_40) rfl ((if0 _ _).trans (feq hc40_3).1) kS) ?_
      show gs s₁ m 43 #[vi p1, vi p2, vi p3, .val (.long qa), .second, .val (.long qb), .second, vi p6, vi i1, vi i1, vi l1, .unset, .unset, .unset, .unset, .unset, .unset, .unset, .unset] []
      refine oiconst X0 hx hby at_43 ?_
      refine own_st (fun _ kS => XS.goto X0.here hx rfl (pc0 := 44) (pc' := 48) rfl (hb hby at_44) (by decide) (by decide) kS) ?_
      refine own_st (fun _ kS => XS.istore X0.here hx rfl (hb hby at_48) rfl (l' := #[vi p1, vi p2, vi p3, .val (.long qa), .second, .val (.long qb), .second, vi p6, vi i1, vi i1, vi l1, vi 1, .unset, .unset, .unset, .unset, .unset, .unset, .unset]) rfl kS) ?_
      refine oiload X0 hx hby at_50 rfl ?_
      refine own_st (fun _ kS => XS.ifNo X0.here hx rfl (hb hby at_52) rfl ((if0 _ _).trans (feq (by decide : ¬ ((1 : Int32) = (0 : Int32)))).1) kS) ?_
      show gs s₁ m 55 #[vi p1, vi p2, vi p3, .val (.long qa), .second, .val (.long qb), .second, vi p6, vi i1, vi i1, vi l1, vi 1, .unset, .unset, .unset, .unset, .unset, .unset, .unset] []
      refine oiload X0 hx hby at_55 rfl ?_
      refine own_st (fun _ kS => XS.goto X0.here hx rfl (pc0 := 57) (pc' := 65) rfl (hb hby at_57) (by decide) (by decide) kS) ?_
      show gs s₁ m 65 #[vi p1, vi p2, vi p3, .val (.long qa), .second, .val (.long qb), .second, vi p6, vi i1, vi i1, vi l1, vi 1, .unset, .unset, .unset, .unset, .unset, .unset, .unset] [(.int l1)]
      refine own_st (fun _ kS => XS.istore X0.here hx rfl (hb hby at_65) rfl (l' := #[vi p1, vi p2, vi p3, .val (.long qa), .second, .val (.long qb), .second, vi p6, vi i1, vi i1, vi l1, vi 1, vi l1, .unset, .unset, .unset, .unset, .unset, .unset]) rfl kS) ?_
      refine oiload X0 hx hby at_67 rfl ?_
      refine own_st (fun _ kS => XS.ifNo X0.here hx rfl (hb hby at_69) rfl ((if0 _ _).trans (feq (by decide : ¬ ((1 : Int32) = (0 : Int32)))).1) kS) ?_
      show gs s₁ m 72 #[vi p1, vi p2, vi p3, .val (.long qa), .second, .val (.long qb), .second, vi p6, vi i1, vi i1, vi l1, vi 1, vi l1, .unset, .unset, .unset, .unset, .unset, .unset] []
      refine own_st (fun _ kS => XT.lloadN X0.here hx rfl (hb hby at_72) rfl kS) ?_
      refine own_st (fun _ kS => XS.goto X0.here hx rfl (pc0 := 73) (pc' := 78) rfl (hb hby at_73) (by decide) (by decide) kS) ?_
      refine own_st (fun _ kS => XT.lstore X0.here hx rfl (hb hby at_78) rfl (l' := #[vi p1, vi p2, vi p3, .val (.long qa), .second, .val (.long qb), .second, vi p6, vi i1, vi i1, vi l1, vi 1, vi l1, .val (.long qa), .second, .unset, .unset, .unset, .unset]) rfl kS) ?_
      show gs s₁ m 80 #[vi p1, vi p2, vi p3, .val (.long qa), .second, .val (.long qb), .second, vi p6, vi i1, vi i1, vi l1, vi 1, vi l1, .val (.long qa), .second, .unset, .unset, .unset, .unset] []
      exact sg_A hx hby hml hown hlk hret hZ hw Z0 hS (Nat.zero_le _) X0 e0 N0 O0 p1 p2 p3 qa qb p6 i1 i1 l1 (1 : Int32) l1 qa v1 v1 w_TITLE w_CREATOR w_SUBJECT w_DESCRIPTION w_PUBLISHER w_CONTRIBUTOR w_DATE w_TYPE w_FORMAT w_IDENTIFIER w_SOURCE w_LANGUAGE w_RELATION w_COVERAGE w_RIGHTS zCS (fun _ => rfl) (fun q => absurd rfl q) S_TITLE S_CREATOR S_SUBJECT S_DESCRIPTION S_PUBLISHER S_CONTRIBUTOR S_DATE S_TYPE S_FORMAT S_IDENTIFIER S_SOURCE S_LANGUAGE S_RELATION S_COVERAGE S_RIGHTS E_TITLE E_CREATOR E_SUBJECT E_DESCRIPTION E_PUBLISHER E_CONTRIBUTOR E_DATE E_TYPE E_FORMAT E_IDENTIFIER E_SOURCE E_LANGUAGE E_RELATION E_COVERAGE E_RIGHTS hE1 E_v1 hE1 E_v1 hL1 hL1 S_CS P_CS hCH
set_option maxRecDepth 65536 in
set_option maxHeartbeats 40000000 in
theorem comes_1 {Post : Tables → Env → Array Value → State → Outcome → State → Prop} (hpost : ∀ tb e args s v u, (limb_1_1.after args s (.returned v) u = true ∧ limb_1_2.after args s (.returned v) u = true ∧ True) → ReturnedEndW s (.returned v) u (Jvm.fieldLocs frame_1_writes args s ++ Jvm.arrayLocs frame_1_arrays args s ++ Jvm.staticLocs frame_1_statics s) 40 3264 → Post tb e args s (.returned v) u) :
    ArmFor flags0 classFile x code maxLocals ret World_1 tables_1 room_1 Calls_1 rest_1 Pre_1 Post := by
  intro l hfl _ _ p e ha hc hk s m args below hf hA hF happ hP
  obtain ⟨hcalls, hrest, hpre⟩ := hP
  obtain ⟨-, -, -, hnamed, -, -, -, hat⟩ := (Spec.applies_iff hf).mp happ
  obtain ⟨hg, hn⟩ := and_e (Cond.before_iff.mp (show (Jvm.Cond.and given_1 narrow_1).before args s = true from hpre))
  obtain ⟨g1a, g1b⟩ := and_e hg
  obtain ⟨g2a, g2b⟩ := and_e g1b
  obtain ⟨g3a, g3b⟩ := and_e g2b
  obtain ⟨g4a, g4b⟩ := and_e g3b
  obtain ⟨g5a, g5b⟩ := and_e g4b
  obtain ⟨g6a, g6b⟩ := and_e g5b
  obtain ⟨w0, w1, w2, w3, w4, w5, rfl⟩ : ∃ w0 w1 w2 w3 w4 w5 : Value, args = #[w0, w1, w2, w3, w4, w5] := by
    have hs : args.size = 6 := by simpa [Cond.value, given_1] using g1a
    obtain ⟨L⟩ := args
    match L, hs with
    | [w0, w1, w2, w3, w4, w5], _ => exact ⟨w0, w1, w2, w3, w4, w5, rfl⟩
  have hw := fun d (hd : d ∈ tables_1) => atoms_spec (ws := Jvm.Cond.code x code maxLocals ret :: tables_1) hat d (List.mem_cons_of_mem _ hd)
  have hfit : Fit s := fun {y c} hc i hi => by
    obtain ⟨ha, rfl⟩ := Array.getElem?_eq_some_iff.mp hc
    have q := List.all_eq_true.mp ((Array.all_eq_true_iff_forall_mem.mp hF) _ (Array.getElem_mem ha)) i (List.mem_range.mpr hi)
    simpa [Array.getElem?_eq_getElem hi] using q
  obtain ⟨hsets, hown0⟩ := atoms_of _ (rest_1_c_eq ▸ (show rest_1_c.before _ s = true from hrest))
  have hr0 := Cond.before_iff.mp hown0
  obtain ⟨i0, ei0⟩ := is_v g2a
  obtain rfl : w0 = (.int i0) := Option.some.inj ei0
  obtain ⟨i1, ei1⟩ := is_v g3a
  obtain rfl : w1 = (.int i1) := Option.some.inj ei1
  obtain ⟨i2, ei2⟩ := is_v g4a
  obtain rfl : w2 = (.int i2) := Option.some.inj ei2
  obtain ⟨i3, ei3⟩ := isL_v g5a
  obtain rfl : w3 = (.long i3) := Option.some.inj ei3
  obtain ⟨i4, ei4⟩ := isL_v g6a
  obtain rfl : w4 = (.long i4) := Option.some.inj ei4
  obtain ⟨i5, ei5⟩ := is_v g6b
  obtain rfl : w5 = (.int i5) := Option.some.inj ei5
  obtain ⟨g7a, g7b⟩ := and_e hn
  obtain ⟨g8a, g8b⟩ := and_e g7b
  obtain ⟨g9a, g9b⟩ := and_e g8b
  obtain ⟨g10a, g10b⟩ := and_e g9b
  obtain ⟨g11a, g11b⟩ := and_e g10b
  obtain ⟨g12a, g12b⟩ := and_e g11b
  obtain ⟨g13a, g13b⟩ := and_e g12b
  obtain ⟨g14a, g14b⟩ := and_e g13b
  obtain ⟨g15a, g15b⟩ := and_e g14b
  obtain ⟨g16a, g16b⟩ := and_e g15b
  obtain ⟨g17a, g17b⟩ := and_e g16b
  obtain ⟨g18a, g18b⟩ := and_e g17b
  obtain ⟨g19a, g19b⟩ := and_e g18b
  obtain ⟨g20a, g20b⟩ := and_e g19b
  obtain ⟨g21a, g21b⟩ := and_e g20b
  obtain ⟨g22a, g22b⟩ := and_e g21b
  obtain ⟨g23a, g23b⟩ := and_e g22b
  obtain ⟨g24a, g24b⟩ := and_e g23b
  obtain ⟨g25a, g25b⟩ := and_e g24b
  obtain ⟨g26a, g26b⟩ := and_e g25b
  obtain ⟨g27a, g27b⟩ := and_e g26b
  obtain ⟨g28a, g28b⟩ := and_e g27b
  obtain ⟨g29a, g29b⟩ := and_e g28b
  obtain ⟨g30a, g30b⟩ := and_e g29b
  obtain ⟨g31a, g31b⟩ := and_e g30b
  obtain ⟨g32a, g32b⟩ := and_e g31b
  obtain ⟨g33a, g33b⟩ := and_e g32b
  obtain ⟨g34a, g34b⟩ := and_e g33b
  obtain ⟨g35a, g35b⟩ := and_e g34b
  obtain ⟨w_TITLE, v_TITLE⟩ := exa_v g7a
  have E_TITLE := Exa.start v_TITLE g7a
  have S_TITLE := Sta.start v_TITLE (Or.inr ⟨(own_w hw 11 rfl), (own_w hw 12 rfl)⟩)
  obtain ⟨w_CREATOR, v_CREATOR⟩ := exa_v g8a
  have E_CREATOR := Exa.start v_CREATOR g8a
  have S_CREATOR := Sta.start v_CREATOR (Or.inr ⟨(own_w hw 11 rfl), (own_w hw 15 rfl)⟩)
  obtain ⟨w_SUBJECT, v_SUBJECT⟩ := exa_v g9a
  have E_SUBJECT := Exa.start v_SUBJECT g9a
  have S_SUBJECT := Sta.start v_SUBJECT (Or.inr ⟨(own_w hw 11 rfl), (own_w hw 17 rfl)⟩)
  obtain ⟨w_DESCRIPTION, v_DESCRIPTION⟩ := exa_v g10a
  have E_DESCRIPTION := Exa.start v_DESCRIPTION g10a
  have S_DESCRIPTION := Sta.start v_DESCRIPTION (Or.inr ⟨(own_w hw 11 rfl), (own_w hw 19 rfl)⟩)
  obtain ⟨w_PUBLISHER, v_PUBLISHER⟩ := exa_v g11a
  have E_PUBLISHER := Exa.start v_PUBLISHER g11a
  have S_PUBLISHER := Sta.start v_PUBLISHER (Or.inr ⟨(own_w hw 11 rfl), (own_w hw 21 rfl)⟩)
  obtain ⟨w_CONTRIBUTOR, v_CONTRIBUTOR⟩ := exa_v g12a
  have E_CONTRIBUTOR := Exa.start v_CONTRIBUTOR g12a
  have S_CONTRIBUTOR := Sta.start v_CONTRIBUTOR (Or.inr ⟨(own_w hw 11 rfl), (own_w hw 23 rfl)⟩)
  obtain ⟨w_DATE, v_DATE⟩ := exa_v g13a
  have E_DATE := Exa.start v_DATE g13a
  have S_DATE := Sta.start v_DATE (Or.inr ⟨(own_w hw 11 rfl), (own_w hw 25 rfl)⟩)
  obtain ⟨w_TYPE, v_TYPE⟩ := exa_v g14a
  have E_TYPE := Exa.start v_TYPE g14a
  have S_TYPE := Sta.start v_TYPE (Or.inr ⟨(own_w hw 11 rfl), (own_w hw 27 rfl)⟩)
  obtain ⟨w_FORMAT, v_FORMAT⟩ := exa_v g15a
  have E_FORMAT := Exa.start v_FORMAT g15a
  have S_FORMAT := Sta.start v_FORMAT (Or.inr ⟨(own_w hw 11 rfl), (own_w hw 29 rfl)⟩)
  obtain ⟨w_IDENTIFIER, v_IDENTIFIER⟩ := exa_v g16a
  have E_IDENTIFIER := Exa.start v_IDENTIFIER g16a
  have S_IDENTIFIER := Sta.start v_IDENTIFIER (Or.inr ⟨(own_w hw 11 rfl), (own_w hw 31 rfl)⟩)
  obtain ⟨w_SOURCE, v_SOURCE⟩ := exa_v g17a
  have E_SOURCE := Exa.start v_SOURCE g17a
  have S_SOURCE := Sta.start v_SOURCE (Or.inr ⟨(own_w hw 11 rfl), (own_w hw 33 rfl)⟩)
  obtain ⟨w_LANGUAGE, v_LANGUAGE⟩ := exa_v g18a
  have E_LANGUAGE := Exa.start v_LANGUAGE g18a
  have S_LANGUAGE := Sta.start v_LANGUAGE (Or.inr ⟨(own_w hw 11 rfl), (own_w hw 35 rfl)⟩)
  obtain ⟨w_RELATION, v_RELATION⟩ := exa_v g19a
  have E_RELATION := Exa.start v_RELATION g19a
  have S_RELATION := Sta.start v_RELATION (Or.inr ⟨(own_w hw 11 rfl), (own_w hw 37 rfl)⟩)
  obtain ⟨w_COVERAGE, v_COVERAGE⟩ := exa_v g20a
  have E_COVERAGE := Exa.start v_COVERAGE g20a
  have S_COVERAGE := Sta.start v_COVERAGE (Or.inr ⟨(own_w hw 11 rfl), (own_w hw 39 rfl)⟩)
  obtain ⟨w_RIGHTS, v_RIGHTS⟩ := exa_v g21a
  have E_RIGHTS := Exa.start v_RIGHTS g21a
  have S_RIGHTS := Sta.start v_RIGHTS (Or.inr ⟨(own_w hw 11 rfl), (own_w hw 41 rfl)⟩)
  have F_CREATOR_ordinal : Fld s s.heap w_CREATOR "java/lang/Enum" "ordinal" "I" (.int (1 : Int32)) := Fld.start ((fld_at v_CREATOR).symm.trans (eqv_i (Term.int_eval (1)) g22a))
  have F_TITLE_ordinal : Fld s s.heap w_TITLE "java/lang/Enum" "ordinal" "I" (.int (0 : Int32)) := Fld.start ((fld_at v_TITLE).symm.trans (eqv_i (Term.int_eval (0)) g23a))
  have F_SUBJECT_ordinal : Fld s s.heap w_SUBJECT "java/lang/Enum" "ordinal" "I" (.int (2 : Int32)) := Fld.start ((fld_at v_SUBJECT).symm.trans (eqv_i (Term.int_eval (2)) g24a))
  have F_DESCRIPTION_ordinal : Fld s s.heap w_DESCRIPTION "java/lang/Enum" "ordinal" "I" (.int (3 : Int32)) := Fld.start ((fld_at v_DESCRIPTION).symm.trans (eqv_i (Term.int_eval (3)) g25a))
  have F_FORMAT_ordinal : Fld s s.heap w_FORMAT "java/lang/Enum" "ordinal" "I" (.int (8 : Int32)) := Fld.start ((fld_at v_FORMAT).symm.trans (eqv_i (Term.int_eval (8)) g26a))
  have F_TYPE_ordinal : Fld s s.heap w_TYPE "java/lang/Enum" "ordinal" "I" (.int (7 : Int32)) := Fld.start ((fld_at v_TYPE).symm.trans (eqv_i (Term.int_eval (7)) g27a))
  have F_RELATION_ordinal : Fld s s.heap w_RELATION "java/lang/Enum" "ordinal" "I" (.int (12 : Int32)) := Fld.start ((fld_at v_RELATION).symm.trans (eqv_i (Term.int_eval (12)) g28a))
  have F_CONTRIBUTOR_ordinal : Fld s s.heap w_CONTRIBUTOR "java/lang/Enum" "ordinal" "I" (.int (5 : Int32)) := Fld.start ((fld_at v_CONTRIBUTOR).symm.trans (eqv_i (Term.int_eval (5)) g29a))
  have F_IDENTIFIER_ordinal : Fld s s.heap w_IDENTIFIER "java/lang/Enum" "ordinal" "I" (.int (9 : Int32)) := Fld.start ((fld_at v_IDENTIFIER).symm.trans (eqv_i (Term.int_eval (9)) g30a))
  have F_RIGHTS_ordinal : Fld s s.heap w_RIGHTS "java/lang/Enum" "ordinal" "I" (.int (14 : Int32)) := Fld.start ((fld_at v_RIGHTS).symm.trans (eqv_i (Term.int_eval (14)) g31a))
  have F_PUBLISHER_ordinal : Fld s s.heap w_PUBLISHER "java/lang/Enum" "ordinal" "I" (.int (4 : Int32)) := Fld.start ((fld_at v_PUBLISHER).symm.trans (eqv_i (Term.int_eval (4)) g32a))
  have F_COVERAGE_ordinal : Fld s s.heap w_COVERAGE "java/lang/Enum" "ordinal" "I" (.int (13 : Int32)) := Fld.start ((fld_at v_COVERAGE).symm.trans (eqv_i (Term.int_eval (13)) g33a))
  have F_LANGUAGE_ordinal : Fld s s.heap w_LANGUAGE "java/lang/Enum" "ordinal" "I" (.int (11 : Int32)) := Fld.start ((fld_at v_LANGUAGE).symm.trans (eqv_i (Term.int_eval (11)) g34a))
  have F_DATE_ordinal : Fld s s.heap w_DATE "java/lang/Enum" "ordinal" "I" (.int (6 : Int32)) := Fld.start ((fld_at v_DATE).symm.trans (eqv_i (Term.int_eval (6)) g35a))
  have F_SOURCE_ordinal : Fld s s.heap w_SOURCE "java/lang/Enum" "ordinal" "I" (.int (10 : Int32)) := Fld.start ((fld_at v_SOURCE).symm.trans (eqv_i (Term.int_eval (10)) g35b))
  obtain ⟨zCS, eCS⟩ := is_v (Cond.before_iff.mp (hsets _ (List.mem_of_getElem? (i := 1) rfl)))
  have S_CS := Sta.start eCS (Or.inl (hsets _ (List.mem_of_getElem? (i := 0) rfl)))
  have P_CS : ¬ zCS = 0 := gotF (Cond.eq_ints eCS (Term.int_eval (0))) (not_v (Cond.before_iff.mp (hsets _ (List.mem_of_getElem? (i := 2) rfl))))
  have hCH : CHv s EL0 s.vm s.heap := CHv.start (own_ELw hw) (fun p hp => by cases List.mem_singleton.mp hp; exact hcalls.1 ("java/lang/String", 7) (by simp [consts_1])) (hsets _ (List.mem_of_getElem? (i := 2) rfl)) (own_w hw 68 rfl) (own_w hw 46 rfl)
  obtain ⟨n, o, h1, h2, h3, _, L, rfl, ⟨rfl, N⟩, hq⟩ := rm_law l s _ hw tables_1 i0 i1 i2 i3 i4 i5 w_TITLE w_CREATOR w_SUBJECT w_DESCRIPTION w_PUBLISHER w_CONTRIBUTOR w_DATE w_TYPE w_FORMAT w_IDENTIFIER w_SOURCE w_LANGUAGE w_RELATION w_COVERAGE w_RIGHTS zCS s.heap s.heap.size (Nat.le_refl _) (Old.start s) S_TITLE S_CREATOR S_SUBJECT S_DESCRIPTION S_PUBLISHER S_CONTRIBUTOR S_DATE S_TYPE S_FORMAT S_IDENTIFIER S_SOURCE S_LANGUAGE S_RELATION S_COVERAGE S_RIGHTS E_TITLE E_CREATOR E_SUBJECT E_DESCRIPTION E_PUBLISHER E_CONTRIBUTOR E_DATE E_TYPE E_FORMAT E_IDENTIFIER E_SOURCE E_LANGUAGE E_RELATION E_COVERAGE E_RIGHTS F_TITLE_ordinal F_CREATOR_ordinal F_SUBJECT_ordinal F_DESCRIPTION_ordinal F_PUBLISHER_ordinal F_CONTRIBUTOR_ordinal F_DATE_ordinal F_TYPE_ordinal F_FORMAT_ordinal F_IDENTIFIER_ordinal F_SOURCE_ordinal F_LANGUAGE_ordinal F_RELATION_ordinal F_COVERAGE_ordinal F_RIGHTS_ordinal S_CS P_CS p e ha hc hk s m _ below hf ((Spec.applies_iff_loose hf).mp happ).1 ⟨rfl, State.Warmed39.refl s, rfl, hCH⟩ trivial
  refine ⟨n, _, h1, h2, h3, hpost _ _ _ _ _ _ ⟨Cond.after_iff.mpr rfl, Cond.after_iff.mpr (eq_i res_at (Term.int_eval (1)) rfl), trivial⟩ ⟨hq.1, hq.2.1, hq.2.2.1, (hq.2.2.2.sift fun y hy => Or.inr (N y hy)).mono (by decide) (by decide)⟩⟩
theorem main_1_1 : Claimed_1_1 := comes_1 fun _ _ _ _ _ _ h hF => ⟨h.1, hF⟩
theorem main_1_2 : Claimed_1_2 := comes_1 fun _ _ _ _ _ _ h hF => ⟨h.2.1, hF⟩
end Jvm.Pilot.@@N@@
namespace Jvm.Pilot.@@N@@
open Jvm Jvm.ClassFile Sem Op Lib Jvm.Free Jvm.Stand Jvm.Pilot.@@N@@.Jvm.D
/-! MADE BY PROGRAM (witnessworld.py) out of the Statement's table words and the real class files: 24 classes; the members and pool entries that the words name. The judged class is class 1, her method 5. -/
namespace start1
open Jvm.ClassFile
def u (s : String) : CpInfo := .utf8 (stringToUtf16 s)
/-- a pool by its gaps: so many unusable entries, then the entry; so many at the end -/
def gap : Nat → List CpInfo → List CpInfo
  | 0, r => r
  | n + 1, r => .unusable :: gap n r
def poolList (es : List (Nat × CpInfo)) (last : Nat) : List CpInfo := es.foldr (fun e r => gap e.1 (e.2 :: r)) (gap last [])
def pool (es : List (Nat × CpInfo)) (last : Nat) : Array CpInfo := ⟨poolList es last⟩
def fileOf (pool : Array CpInfo) (this : Nat) (attrs : Array Attribute := #[]) (ms : Array MethodInfo := #[]) (fl : Nat := 33) (sup : Nat := 0) (ifs : Array Nat := #[]) (fds : Array FieldInfo := #[]) : ClassFile where
  minorVersion := 0
  majorVersion := 65
  constantPool := pool
  accessFlags := fl
  thisClass := this
  superClass := sup
  interfaces := ifs
  fields := fds
  methods := ms
  attributes := attrs
def plain (name : String) (sup : Option ClassId) : Class where
  name := name
  kind := .ordinary
  loader := none
  accessFlags := 33
  super := sup
  interfaces := #[]
  cf := none
  fields := #[]
  methods := #[]
  instanceTypes := #[]
  staticTypes := #[]
  resolved := #[]
  callSites := []
  init := .initialized
  statics := none
  mirror := none

def pool0 : Array CpInfo := pool [(5, u "<init>"), (0, u "()V"), (1, .class_ 10), (1, u "java/lang/Object")] 113

def k0c0 : Code := { maxStack := 0, maxLocals := 1, code := object_method_1_code, exceptionTable := #[], attributes := #[] }
def k0m0 : Method := { name := "<init>", desc := "()V", sig := { parameters := [], returnType := none }, accessFlags := 1, code := some k0c0 }
/-- java/lang/Object -/
def k0 : Class := { plain "java/lang/Object" none with
  accessFlags := 33
  interfaces := #[]
  cf := some (fileOf pool0 8 #[] #[{ accessFlags := 1, nameIndex := 5, descriptorIndex := 6, attributes := #[] }] 33 0 #[] #[])
  fields := #[]
  methods := #[k0m0]
  instanceTypes := #[]
  staticTypes := #[]
  resolved := Array.replicate 124 none
  statics := none }

def pool1 : Array CpInfo := pool [(2, .class_ 4), (1, u "java/lang/Object"), (0, u "<init>"), (0, u "()V"), (0, .class_ 8), (0, u "com/example/cartouche/cartouche/crosswalks/DcElement"), (0, .fieldref 7 10), (0, .nameAndType 11 12), (0, u "TITLE"), (0, u "Lcom/example/cartouche/cartouche/crosswalks/DcElement;"), (0, .fieldref 7 14), (0, .nameAndType 15 12), (0, u "CREATOR"), (0, .fieldref 7 17), (0, .nameAndType 18 12), (0, u "SUBJECT"), (0, .fieldref 7 20), (0, .nameAndType 21 12), (0, u "DESCRIPTION"), (0, .fieldref 7 23), (0, .nameAndType 24 12), (0, u "PUBLISHER"), (0, .fieldref 7 26), (0, .nameAndType 27 12), (0, u "CONTRIBUTOR"), (0, .fieldref 7 29), (0, .nameAndType 30 12), (0, u "DATE"), (0, .fieldref 7 32), (0, .nameAndType 33 12), (0, u "TYPE"), (0, .fieldref 7 35), (0, .nameAndType 36 12), (0, u "FORMAT"), (0, .fieldref 7 38), (0, .nameAndType 39 12), (0, u "IDENTIFIER"), (0, .fieldref 7 41), (0, .nameAndType 42 12), (0, u "SOURCE"), (0, .fieldref 7 44), (0, .nameAndType 45 12), (0, u "LANGUAGE"), (0, .fieldref 7 47), (0, .nameAndType 48 12), (0, u "RELATION"), (0, .fieldref 7 50), (0, .nameAndType 51 12), (0, u "COVERAGE"), (0, .fieldref 7 53), (0, .nameAndType 54 12), (0, u "RIGHTS"), (0, .long 255), (1, .class_ 58), (0, u "java/lang/String"), (0, .methodref 57 60), (0, .nameAndType 5 61), (0, u "([C)V"), (0, .methodref 63 64), (0, .class_ 65), (0, .nameAndType 66 67), (0, u "com/example/cartouche/cartouche/crosswalks/DcValueEqualsPinLaw"), (0, u "ch"), (0, u "(JI)C"), (0, .integer 2147483647), (0, .class_ 70), (0, u "com/example/cartouche/cartouche/crosswalks/DcValue"), (0, .methodref 63 72), (0, .nameAndType 73 74), (0, u "el"), (0, u "(I)Lcom/example/cartouche/cartouche/crosswalks/DcElement;"), (0, .methodref 63 76), (0, .nameAndType 77 78), (0, u "make"), (0, u "(IJ)Ljava/lang/String;"), (0, .methodref 69 80), (0, .nameAndType 5 81), (0, u "(Lcom/example/cartouche/cartouche/crosswalks/DcElement;Ljava/lang/String;)V"), (0, .methodref 69 83), (0, .nameAndType 84 85), (0, u "equals"), (0, u "(Ljava/lang/Object;)Z"), (0, .methodref 69 87), (0, .nameAndType 88 89), (0, u "text"), (0, u "()Ljava/lang/String;"), (0, .methodref 63 91), (0, .nameAndType 92 93), (0, u "sameText"), (0, u "(IJIJ)Z"), (3, u "law"), (0, u "(IIIJJI)Z")] 2

def k1m0 : Method := { name := "<init>", desc := "()V", sig := { parameters := [], returnType := none }, accessFlags := 1, code := none }
def k1c1 : Code := { maxStack := 4, maxLocals := 2, code := method_2_code, exceptionTable := #[], attributes := #[] }
def k1m1 : Method := { name := "el", desc := "(I)Lcom/example/cartouche/cartouche/crosswalks/DcElement;", sig := { parameters := [.int], returnType := some (.object "com/example/cartouche/cartouche/crosswalks/DcElement") }, accessFlags := 10, code := some k1c1 }
def k1c2 : Code := { maxStack := 4, maxLocals := 3, code := method_3_code, exceptionTable := #[], attributes := #[] }
def k1m2 : Method := { name := "ch", desc := "(JI)C", sig := { parameters := [.long, .int], returnType := some .char }, accessFlags := 10, code := some k1c2 }
def k1c3 : Code := { maxStack := 8, maxLocals := 3, code := method_4_code, exceptionTable := #[], attributes := #[] }
def k1m3 : Method := { name := "make", desc := "(IJ)Ljava/lang/String;", sig := { parameters := [.int, .long], returnType := some (.object "java/lang/String") }, accessFlags := 10, code := some k1c3 }
def k1c4 : Code := { maxStack := 4, maxLocals := 9, code := method_5_code, exceptionTable := #[], attributes := #[] }
def k1m4 : Method := { name := "sameText", desc := "(IJIJ)Z", sig := { parameters := [.int, .long, .int, .long], returnType := some .boolean }, accessFlags := 10, code := some k1c4 }
def k1c5 : Code := { maxStack := 6, maxLocals := 19, code := code, exceptionTable := #[], attributes := #[] }
def k1m5 : Method := { name := "law", desc := "(IIIJJI)Z", sig := { parameters := [.int, .int, .int, .long, .long, .int], returnType := some .boolean }, accessFlags := 9, code := some k1c5 }
/-- com/example/cartouche/cartouche/crosswalks/DcValueEqualsPinLaw -/
def k1 : Class := { plain "com/example/cartouche/cartouche/crosswalks/DcValueEqualsPinLaw" (some 0) with
  accessFlags := 49
  interfaces := #[]
  cf := some (fileOf pool1 63 #[] #[{ accessFlags := 1, nameIndex := 5, descriptorIndex := 6, attributes := #[] }, { accessFlags := 10, nameIndex := 73, descriptorIndex := 74, attributes := #[] }, { accessFlags := 10, nameIndex := 66, descriptorIndex := 67, attributes := #[] }, { accessFlags := 10, nameIndex := 77, descriptorIndex := 78, attributes := #[] }, { accessFlags := 10, nameIndex := 92, descriptorIndex := 93, attributes := #[] }, { accessFlags := 9, nameIndex := 97, descriptorIndex := 98, attributes := #[] }] 49 2 #[] #[])
  fields := #[]
  methods := #[k1m0, k1m1, k1m2, k1m3, k1m4, k1m5]
  instanceTypes := #[]
  staticTypes := #[]
  resolved := Array.replicate 101 none
  statics := none }

def pool2 : Array CpInfo := pool [(1, .methodref 2 3), (0, .class_ 4), (0, .nameAndType 5 6), (0, u "java/lang/Object"), (0, u "<init>"), (0, u "()V"), (0, .string 8), (0, u "element"), (0, .methodref 10 11), (0, .class_ 12), (0, .nameAndType 13 14), (0, u "java/util/Objects"), (0, u "requireNonNull"), (0, u "(Ljava/lang/Object;Ljava/lang/String;)Ljava/lang/Object;"), (0, .class_ 16), (0, u "com/example/cartouche/cartouche/crosswalks/DcElement"), (0, .fieldref 18 19), (0, .class_ 20), (0, .nameAndType 8 21), (0, u "com/example/cartouche/cartouche/crosswalks/DcValue"), (0, u "Lcom/example/cartouche/cartouche/crosswalks/DcElement;"), (0, .string 23), (0, u "text"), (0, .class_ 25), (0, u "java/lang/String"), (0, .fieldref 18 27), (0, .nameAndType 23 28), (0, u "Ljava/lang/String;"), (0, .methodref 24 30), (0, .nameAndType 31 32), (0, u "equals"), (0, u "(Ljava/lang/Object;)Z"), (7, u "()Ljava/lang/String;"), (4, u "(Lcom/example/cartouche/cartouche/crosswalks/DcElement;Ljava/lang/String;)V")] 24

def k2c0 : Code := { maxStack := 3, maxLocals := 3, code := prog_44_method_1_code, exceptionTable := #[], attributes := #[] }
def k2m0 : Method := { name := "<init>", desc := "(Lcom/example/cartouche/cartouche/crosswalks/DcElement;Ljava/lang/String;)V", sig := { parameters := [(.object "com/example/cartouche/cartouche/crosswalks/DcElement"), (.object "java/lang/String")], returnType := none }, accessFlags := 1, code := some k2c0 }
def k2c1 : Code := { maxStack := 1, maxLocals := 1, code := prog_44_method_3_code, exceptionTable := #[], attributes := #[] }
def k2m1 : Method := { name := "text", desc := "()Ljava/lang/String;", sig := { parameters := [], returnType := some (.object "java/lang/String") }, accessFlags := 1, code := some k2c1 }
def k2c2 : Code := { maxStack := 2, maxLocals := 3, code := prog_44_method_4_code, exceptionTable := #[], attributes := #[] }
def k2m2 : Method := { name := "equals", desc := "(Ljava/lang/Object;)Z", sig := { parameters := [(.object "java/lang/Object")], returnType := some .boolean }, accessFlags := 1, code := some k2c2 }
/-- com/example/cartouche/cartouche/crosswalks/DcValue -/
def k2 : Class := { plain "com/example/cartouche/cartouche/crosswalks/DcValue" (some 0) with
  accessFlags := 49
  interfaces := #[]
  cf := some (fileOf pool2 18 #[] #[{ accessFlags := 1, nameIndex := 5, descriptorIndex := 45, attributes := #[] }, { accessFlags := 1, nameIndex := 23, descriptorIndex := 40, attributes := #[] }, { accessFlags := 1, nameIndex := 31, descriptorIndex := 32, attributes := #[] }] 49 2 #[] #[{ accessFlags := 18, nameIndex := 8, descriptorIndex := 21, attributes := #[] }, { accessFlags := 18, nameIndex := 23, descriptorIndex := 28, attributes := #[] }])
  fields := #[{ name := "element", type := (.object "com/example/cartouche/cartouche/crosswalks/DcElement"), accessFlags := 18, slot := 0, constantValue := 0 }, { name := "text", type := (.object "java/lang/String"), accessFlags := 18, slot := 1, constantValue := 0 }]
  methods := #[k2m0, k2m1, k2m2]
  instanceTypes := #[(.object "com/example/cartouche/cartouche/crosswalks/DcElement"), (.object "java/lang/String")]
  staticTypes := #[]
  resolved := Array.replicate 70 none
  statics := none }

def pool3 : Array CpInfo := pool [(1, .class_ 2), (0, u "java/lang/constant/Constable"), (0, .class_ 4), (0, u "java/lang/Object")] 6

/-- java/lang/constant/Constable -/
def k3 : Class := { plain "java/lang/constant/Constable" (some 0) with
  accessFlags := 1537
  interfaces := #[]
  cf := some (fileOf pool3 1 #[] #[] 1537 3 #[] #[])
  fields := #[]
  methods := #[]
  instanceTypes := #[]
  staticTypes := #[]
  resolved := Array.replicate 11 none
  statics := none }

def pool4 : Array CpInfo := pool [(1, .class_ 2), (0, u "java/lang/Comparable"), (0, .class_ 4), (0, u "java/lang/Object")] 7

/-- java/lang/Comparable -/
def k4 : Class := { plain "java/lang/Comparable" (some 0) with
  accessFlags := 1537
  interfaces := #[]
  cf := some (fileOf pool4 1 #[] #[] 1537 3 #[] #[])
  fields := #[]
  methods := #[]
  instanceTypes := #[]
  staticTypes := #[]
  resolved := Array.replicate 12 none
  statics := none }

def pool5 : Array CpInfo := pool [(1, .class_ 2), (0, u "java/io/Serializable"), (0, .class_ 4), (0, u "java/lang/Object")] 2

/-- java/io/Serializable -/
def k5 : Class := { plain "java/io/Serializable" (some 0) with
  accessFlags := 1537
  interfaces := #[]
  cf := some (fileOf pool5 1 #[] #[] 1537 3 #[] #[])
  fields := #[]
  methods := #[]
  instanceTypes := #[]
  staticTypes := #[]
  resolved := Array.replicate 7 none
  statics := none }

def pool6 : Array CpInfo := pool [(2, .class_ 4), (1, u "java/lang/Enum"), (0, u "name"), (0, u "Ljava/lang/String;"), (2, u "ordinal"), (0, u "I"), (1, .class_ 14), (1, u "java/lang/Object"), (4, u "hash"), (86, .class_ 108), (1, u "java/lang/Enum$EnumDesc"), (2, .class_ 112), (0, u "java/lang/constant/Constable"), (0, .class_ 114), (0, u "java/lang/Comparable"), (0, .class_ 116), (0, u "java/io/Serializable")] 87

/-- java/lang/Enum -/
def k6 : Class := { plain "java/lang/Enum" (some 0) with
  accessFlags := 1057
  interfaces := #[3, 4, 5]
  cf := some (fileOf pool6 2 #[.nestMembers #[106]] #[] 1057 12 #[111, 113, 115] #[{ accessFlags := 18, nameIndex := 5, descriptorIndex := 6, attributes := #[] }, { accessFlags := 18, nameIndex := 9, descriptorIndex := 10, attributes := #[] }, { accessFlags := 2, nameIndex := 19, descriptorIndex := 10, attributes := #[] }])
  fields := #[{ name := "name", type := (.object "java/lang/String"), accessFlags := 18, slot := 0, constantValue := 0 }, { name := "ordinal", type := .int, accessFlags := 18, slot := 1, constantValue := 0 }, { name := "hash", type := .int, accessFlags := 2, slot := 2, constantValue := 0 }]
  methods := #[]
  instanceTypes := #[(.object "java/lang/String"), .int, .int]
  staticTypes := #[]
  resolved := Array.replicate 204 none
  statics := none }

def pool7 : Array CpInfo := pool [(1, .class_ 2), (0, u "com/example/cartouche/cartouche/crosswalks/DcElement"), (2, u "TITLE"), (0, u "Lcom/example/cartouche/cartouche/crosswalks/DcElement;"), (2, u "CREATOR"), (2, u "SUBJECT"), (2, u "DESCRIPTION"), (2, u "PUBLISHER"), (2, u "CONTRIBUTOR"), (2, u "DATE"), (2, u "TYPE"), (2, u "FORMAT"), (2, u "IDENTIFIER"), (2, u "SOURCE"), (2, u "LANGUAGE"), (2, u "RELATION"), (2, u "COVERAGE"), (2, u "RIGHTS"), (2, u "$VALUES"), (0, u "[Lcom/example/cartouche/cartouche/crosswalks/DcElement;"), (6, .class_ 61), (1, u "java/lang/Enum"), (8, u "localName"), (0, u "Ljava/lang/String;"), (52, u "NAMESPACE")] 16

/-- com/example/cartouche/cartouche/crosswalks/DcElement -/
def k7 : Class := { plain "com/example/cartouche/cartouche/crosswalks/DcElement" (some 6) with
  accessFlags := 16433
  interfaces := #[]
  cf := some (fileOf pool7 1 #[] #[] 16433 59 #[] #[{ accessFlags := 16409, nameIndex := 5, descriptorIndex := 6, attributes := #[] }, { accessFlags := 16409, nameIndex := 9, descriptorIndex := 6, attributes := #[] }, { accessFlags := 16409, nameIndex := 12, descriptorIndex := 6, attributes := #[] }, { accessFlags := 16409, nameIndex := 15, descriptorIndex := 6, attributes := #[] }, { accessFlags := 16409, nameIndex := 18, descriptorIndex := 6, attributes := #[] }, { accessFlags := 16409, nameIndex := 21, descriptorIndex := 6, attributes := #[] }, { accessFlags := 16409, nameIndex := 24, descriptorIndex := 6, attributes := #[] }, { accessFlags := 16409, nameIndex := 27, descriptorIndex := 6, attributes := #[] }, { accessFlags := 16409, nameIndex := 30, descriptorIndex := 6, attributes := #[] }, { accessFlags := 16409, nameIndex := 33, descriptorIndex := 6, attributes := #[] }, { accessFlags := 16409, nameIndex := 36, descriptorIndex := 6, attributes := #[] }, { accessFlags := 16409, nameIndex := 39, descriptorIndex := 6, attributes := #[] }, { accessFlags := 16409, nameIndex := 42, descriptorIndex := 6, attributes := #[] }, { accessFlags := 16409, nameIndex := 45, descriptorIndex := 6, attributes := #[] }, { accessFlags := 16409, nameIndex := 48, descriptorIndex := 6, attributes := #[] }, { accessFlags := 25, nameIndex := 124, descriptorIndex := 71, attributes := #[] }, { accessFlags := 18, nameIndex := 70, descriptorIndex := 71, attributes := #[] }, { accessFlags := 4122, nameIndex := 51, descriptorIndex := 52, attributes := #[] }])
  fields := #[{ name := "TITLE", type := (.object "com/example/cartouche/cartouche/crosswalks/DcElement"), accessFlags := 16409, slot := 0, constantValue := 0 }, { name := "CREATOR", type := (.object "com/example/cartouche/cartouche/crosswalks/DcElement"), accessFlags := 16409, slot := 1, constantValue := 0 }, { name := "SUBJECT", type := (.object "com/example/cartouche/cartouche/crosswalks/DcElement"), accessFlags := 16409, slot := 2, constantValue := 0 }, { name := "DESCRIPTION", type := (.object "com/example/cartouche/cartouche/crosswalks/DcElement"), accessFlags := 16409, slot := 3, constantValue := 0 }, { name := "PUBLISHER", type := (.object "com/example/cartouche/cartouche/crosswalks/DcElement"), accessFlags := 16409, slot := 4, constantValue := 0 }, { name := "CONTRIBUTOR", type := (.object "com/example/cartouche/cartouche/crosswalks/DcElement"), accessFlags := 16409, slot := 5, constantValue := 0 }, { name := "DATE", type := (.object "com/example/cartouche/cartouche/crosswalks/DcElement"), accessFlags := 16409, slot := 6, constantValue := 0 }, { name := "TYPE", type := (.object "com/example/cartouche/cartouche/crosswalks/DcElement"), accessFlags := 16409, slot := 7, constantValue := 0 }, { name := "FORMAT", type := (.object "com/example/cartouche/cartouche/crosswalks/DcElement"), accessFlags := 16409, slot := 8, constantValue := 0 }, { name := "IDENTIFIER", type := (.object "com/example/cartouche/cartouche/crosswalks/DcElement"), accessFlags := 16409, slot := 9, constantValue := 0 }, { name := "SOURCE", type := (.object "com/example/cartouche/cartouche/crosswalks/DcElement"), accessFlags := 16409, slot := 10, constantValue := 0 }, { name := "LANGUAGE", type := (.object "com/example/cartouche/cartouche/crosswalks/DcElement"), accessFlags := 16409, slot := 11, constantValue := 0 }, { name := "RELATION", type := (.object "com/example/cartouche/cartouche/crosswalks/DcElement"), accessFlags := 16409, slot := 12, constantValue := 0 }, { name := "COVERAGE", type := (.object "com/example/cartouche/cartouche/crosswalks/DcElement"), accessFlags := 16409, slot := 13, constantValue := 0 }, { name := "RIGHTS", type := (.object "com/example/cartouche/cartouche/crosswalks/DcElement"), accessFlags := 16409, slot := 14, constantValue := 0 }, { name := "NAMESPACE", type := (.object "java/lang/String"), accessFlags := 25, slot := 15, constantValue := 0 }, { name := "localName", type := (.object "java/lang/String"), accessFlags := 18, slot := 3, constantValue := 0 }, { name := "$VALUES", type := (.array (.object "com/example/cartouche/cartouche/crosswalks/DcElement")), accessFlags := 4122, slot := 16, constantValue := 0 }]
  methods := #[]
  instanceTypes := #[(.object "java/lang/String"), .int, .int, (.object "java/lang/String")]
  staticTypes := #[(.object "com/example/cartouche/cartouche/crosswalks/DcElement"), (.object "com/example/cartouche/cartouche/crosswalks/DcElement"), (.object "com/example/cartouche/cartouche/crosswalks/DcElement"), (.object "com/example/cartouche/cartouche/crosswalks/DcElement"), (.object "com/example/cartouche/cartouche/crosswalks/DcElement"), (.object "com/example/cartouche/cartouche/crosswalks/DcElement"), (.object "com/example/cartouche/cartouche/crosswalks/DcElement"), (.object "com/example/cartouche/cartouche/crosswalks/DcElement"), (.object "com/example/cartouche/cartouche/crosswalks/DcElement"), (.object "com/example/cartouche/cartouche/crosswalks/DcElement"), (.object "com/example/cartouche/cartouche/crosswalks/DcElement"), (.object "com/example/cartouche/cartouche/crosswalks/DcElement"), (.object "com/example/cartouche/cartouche/crosswalks/DcElement"), (.object "com/example/cartouche/cartouche/crosswalks/DcElement"), (.object "com/example/cartouche/cartouche/crosswalks/DcElement"), (.object "java/lang/String"), (.array (.object "com/example/cartouche/cartouche/crosswalks/DcElement"))]
  resolved := Array.replicate 141 none
  statics := some 0 }

def pool8 : Array CpInfo := pool [(2, .class_ 4), (1, u "java/lang/CharSequence"), (42, .class_ 48), (0, u "java/lang/CharSequence$1CodePointIterator"), (10, .class_ 60), (0, u "java/lang/CharSequence$1CharIterator"), (5, .class_ 67), (0, u "java/lang/Object")] 63

/-- java/lang/CharSequence -/
def k8 : Class := { plain "java/lang/CharSequence" (some 0) with
  accessFlags := 1537
  interfaces := #[]
  cf := some (fileOf pool8 2 #[.nestMembers #[47, 59]] #[] 1537 66 #[] #[])
  fields := #[]
  methods := #[]
  instanceTypes := #[]
  staticTypes := #[]
  resolved := Array.replicate 131 none
  statics := none }

def pool9 : Array CpInfo := pool [(1, .class_ 2), (0, u "java/lang/constant/ConstantDesc"), (0, .class_ 4), (0, u "java/lang/Object")] 32

/-- java/lang/constant/ConstantDesc -/
def k9 : Class := { plain "java/lang/constant/ConstantDesc" (some 0) with
  accessFlags := 1537
  interfaces := #[]
  cf := some (fileOf pool9 1 #[] #[] 1537 3 #[] #[])
  fields := #[]
  methods := #[]
  instanceTypes := #[]
  staticTypes := #[]
  resolved := Array.replicate 37 none
  statics := none }

def pool10 : Array CpInfo := pool [(1, .methodref 2 3), (0, .class_ 4), (0, .nameAndType 5 6), (0, u "java/lang/Object"), (0, u "<init>"), (0, u "()V"), (0, .string 8), (0, u ""), (0, .fieldref 10 11), (0, .class_ 12), (0, .nameAndType 13 14), (0, u "java/lang/String"), (0, u "value"), (0, u "[B"), (0, .fieldref 10 16), (0, .nameAndType 17 18), (0, u "coder"), (0, u "B"), (2, u "hash"), (0, u "I"), (2, u "hashIsZero"), (0, u "Z"), (0, .methodref 10 28), (0, .nameAndType 5 29), (0, u "([CIILjava/lang/Void;)V"), (8, .fieldref 10 39), (0, .nameAndType 40 26), (0, u "COMPACT_STRINGS"), (1, .class_ 44), (1, u "java/lang/StringUTF16"), (0, u "compress"), (1, .methodref 42 48), (0, .nameAndType 49 50), (0, u "coderFromArrayLen"), (0, u "([BI)B"), (56, .class_ 109), (1, u "java/lang/StringLatin1"), (67, .methodref 42 178), (0, .nameAndType 45 179), (0, u "([CII)[B"), (361, .methodref 107 542), (0, .nameAndType 543 544), (0, u "equals"), (0, u "([B[B)Z"), (28, u "(Ljava/lang/Object;)Z"), (1, .class_ 576), (0, u "java/lang/CharSequence"), (22, u "CASE_INSENSITIVE_ORDER"), (0, u "Ljava/util/Comparator;"), (409, u "([C)V"), (90, u "serialPersistentFields"), (0, u "[Ljava/io/ObjectStreamField;"), (0, .class_ 1104), (0, u "java/lang/String$CaseInsensitiveComparator"), (1, .class_ 1107), (0, u "java/io/Serializable"), (0, .class_ 1109), (0, u "java/lang/Comparable"), (0, .class_ 1111), (0, u "java/lang/constant/Constable"), (0, .class_ 1113), (0, u "java/lang/constant/ConstantDesc"), (2, u "serialVersionUID"), (0, u "J"), (3, u "REPL"), (0, u "C"), (2, u "LATIN1"), (1, u "UTF16")] 323

def k10m0 : Method := { name := "<init>", desc := "()V", sig := { parameters := [], returnType := none }, accessFlags := 1, code := none }
def k10c1 : Code := { maxStack := 5, maxLocals := 2, code := jdk_42_method_3_code, exceptionTable := #[], attributes := #[] }
def k10m1 : Method := { name := "<init>", desc := "([C)V", sig := { parameters := [(.array .char)], returnType := none }, accessFlags := 1, code := some k10c1 }
def k10c2 : Code := { maxStack := 2, maxLocals := 3, code := jdk_42_method_66_code, exceptionTable := #[], attributes := #[] }
def k10m2 : Method := { name := "equals", desc := "(Ljava/lang/Object;)Z", sig := { parameters := [(.object "java/lang/Object")], returnType := some .boolean }, accessFlags := 1, code := some k10c2 }
def k10c3 : Code := { maxStack := 4, maxLocals := 6, code := jdk_42_method_149_code, exceptionTable := #[], attributes := #[] }
def k10m3 : Method := { name := "<init>", desc := "([CIILjava/lang/Void;)V", sig := { parameters := [(.array .char), .int, .int, (.object "java/lang/Void")], returnType := none }, accessFlags := 2, code := some k10c3 }
/-- java/lang/String -/
def k10 : Class := { plain "java/lang/String" (some 0) with
  accessFlags := 49
  interfaces := #[5, 4, 8, 3, 9]
  cf := some (fileOf pool10 10 #[.nestMembers #[1103]] #[{ accessFlags := 1, nameIndex := 5, descriptorIndex := 6, attributes := #[] }, { accessFlags := 1, nameIndex := 5, descriptorIndex := 1010, attributes := #[] }, { accessFlags := 1, nameIndex := 543, descriptorIndex := 573, attributes := #[] }, { accessFlags := 2, nameIndex := 5, descriptorIndex := 29, attributes := #[] }] 49 2 #[1106, 1108, 575, 1110, 1112] #[{ accessFlags := 18, nameIndex := 13, descriptorIndex := 14, attributes := #[] }, { accessFlags := 18, nameIndex := 17, descriptorIndex := 18, attributes := #[] }, { accessFlags := 2, nameIndex := 21, descriptorIndex := 22, attributes := #[] }, { accessFlags := 2, nameIndex := 25, descriptorIndex := 26, attributes := #[] }, { accessFlags := 26, nameIndex := 1116, descriptorIndex := 1117, attributes := #[] }, { accessFlags := 24, nameIndex := 40, descriptorIndex := 26, attributes := #[] }, { accessFlags := 26, nameIndex := 1101, descriptorIndex := 1102, attributes := #[] }, { accessFlags := 26, nameIndex := 1121, descriptorIndex := 1122, attributes := #[] }, { accessFlags := 25, nameIndex := 599, descriptorIndex := 600, attributes := #[] }, { accessFlags := 24, nameIndex := 1125, descriptorIndex := 18, attributes := #[] }, { accessFlags := 24, nameIndex := 1127, descriptorIndex := 18, attributes := #[] }])
  fields := #[{ name := "value", type := (.array .byte), accessFlags := 18, slot := 0, constantValue := 0 }, { name := "coder", type := .byte, accessFlags := 18, slot := 1, constantValue := 0 }, { name := "hash", type := .int, accessFlags := 2, slot := 2, constantValue := 0 }, { name := "hashIsZero", type := .boolean, accessFlags := 2, slot := 3, constantValue := 0 }, { name := "serialVersionUID", type := .long, accessFlags := 26, slot := 0, constantValue := 0 }, { name := "COMPACT_STRINGS", type := .boolean, accessFlags := 24, slot := 1, constantValue := 0 }, { name := "serialPersistentFields", type := (.array (.object "java/io/ObjectStreamField")), accessFlags := 26, slot := 2, constantValue := 0 }, { name := "REPL", type := .char, accessFlags := 26, slot := 3, constantValue := 0 }, { name := "CASE_INSENSITIVE_ORDER", type := (.object "java/util/Comparator"), accessFlags := 25, slot := 4, constantValue := 0 }, { name := "LATIN1", type := .byte, accessFlags := 24, slot := 5, constantValue := 0 }, { name := "UTF16", type := .byte, accessFlags := 24, slot := 6, constantValue := 0 }]
  methods := #[k10m0, k10m1, k10m2, k10m3]
  instanceTypes := #[(.array .byte), .byte, .int, .boolean]
  staticTypes := #[.long, .boolean, (.array (.object "java/io/ObjectStreamField")), .char, (.object "java/util/Comparator"), .byte, .byte]
  resolved := Array.replicate 1451 none
  statics := some 1 }

def pool11 : Array CpInfo := pool [(6, .class_ 8), (1, u "java/lang/Object"), (0, u "<init>"), (0, u "()V"), (1, .class_ 14), (1, u "java/lang/StringUTF16"), (31, u "$assertionsDisabled"), (0, u "Z"), (13, u "HI_BYTE_SHIFT"), (0, u "I"), (2, u "LO_BYTE_SHIFT"), (49, .methodref 12 116), (0, .nameAndType 117 118), (0, u "compress"), (0, u "([CI[BII)I"), (3, u "([CII)[B"), (138, u "coderFromArrayLen"), (0, u "([BI)B"), (106, .class_ 371), (1, u "java/lang/StringUTF16$LinesSpliterator"), (58, u "MAX_LENGTH"), (196, .class_ 628), (0, u "java/lang/StringUTF16$CodePointsSpliterator"), (0, .class_ 630), (0, u "java/lang/StringUTF16$CharsSpliterator")] 4

def k11m0 : Method := { name := "<init>", desc := "()V", sig := { parameters := [], returnType := none }, accessFlags := 0, code := none }
def k11c1 : Code := { maxStack := 2, maxLocals := 2, code := jdk_52_method_15_code, exceptionTable := #[], attributes := #[] }
def k11m1 : Method := { name := "coderFromArrayLen", desc := "([BI)B", sig := { parameters := [(.array .byte), .int], returnType := some .byte }, accessFlags := 8, code := some k11c1 }
def k11c2 : Code := { maxStack := 5, maxLocals := 6, code := jdk_52_method_16_code, exceptionTable := #[], attributes := #[] }
def k11m2 : Method := { name := "compress", desc := "([CII)[B", sig := { parameters := [(.array .char), .int, .int], returnType := some (.array .byte) }, accessFlags := 9, code := some k11c2 }
def k11c3 : Code := { maxStack := 3, maxLocals := 7, code := jdk_52_method_21_code, exceptionTable := #[], attributes := #[] }
def k11m3 : Method := { name := "compress", desc := "([CI[BII)I", sig := { parameters := [(.array .char), .int, (.array .byte), .int, .int], returnType := some .int }, accessFlags := 9, code := some k11c3 }
/-- java/lang/StringUTF16 -/
def k11 : Class := { plain "java/lang/StringUTF16" (some 0) with
  accessFlags := 48
  interfaces := #[]
  cf := some (fileOf pool11 12 #[.nestMembers #[627, 629, 369]] #[{ accessFlags := 0, nameIndex := 9, descriptorIndex := 10, attributes := #[] }, { accessFlags := 8, nameIndex := 261, descriptorIndex := 262, attributes := #[] }, { accessFlags := 9, nameIndex := 117, descriptorIndex := 122, attributes := #[] }, { accessFlags := 9, nameIndex := 117, descriptorIndex := 118, attributes := #[] }] 48 6 #[] #[{ accessFlags := 26, nameIndex := 61, descriptorIndex := 62, attributes := #[] }, { accessFlags := 26, nameIndex := 65, descriptorIndex := 62, attributes := #[] }, { accessFlags := 24, nameIndex := 430, descriptorIndex := 62, attributes := #[] }, { accessFlags := 4120, nameIndex := 46, descriptorIndex := 47, attributes := #[] }])
  fields := #[{ name := "HI_BYTE_SHIFT", type := .int, accessFlags := 26, slot := 0, constantValue := 0 }, { name := "LO_BYTE_SHIFT", type := .int, accessFlags := 26, slot := 1, constantValue := 0 }, { name := "MAX_LENGTH", type := .int, accessFlags := 24, slot := 2, constantValue := 0 }, { name := "$assertionsDisabled", type := .boolean, accessFlags := 4120, slot := 3, constantValue := 0 }]
  methods := #[k11m0, k11m1, k11m2, k11m3]
  instanceTypes := #[]
  staticTypes := #[.int, .int, .int, .boolean]
  resolved := Array.replicate 635 none
  statics := none }

def pool12 : Array CpInfo := pool [(2, .class_ 4), (1, u "java/lang/Object"), (0, u "<init>"), (0, u "()V"), (35, .class_ 44), (1, u "java/util/Objects"), (0, u "requireNonNull"), (48, u "(Ljava/lang/Object;Ljava/lang/String;)Ljava/lang/Object;")] 89

def k12m0 : Method := { name := "<init>", desc := "()V", sig := { parameters := [], returnType := none }, accessFlags := 2, code := none }
def k12c1 : Code := { maxStack := 3, maxLocals := 2, code := jdk_31_method_11_code, exceptionTable := #[], attributes := #[] }
def k12m1 : Method := { name := "requireNonNull", desc := "(Ljava/lang/Object;Ljava/lang/String;)Ljava/lang/Object;", sig := { parameters := [(.object "java/lang/Object"), (.object "java/lang/String")], returnType := some (.object "java/lang/Object") }, accessFlags := 9, code := some k12c1 }
/-- java/util/Objects -/
def k12 : Class := { plain "java/util/Objects" (some 0) with
  accessFlags := 49
  interfaces := #[]
  cf := some (fileOf pool12 42 #[] #[{ accessFlags := 2, nameIndex := 5, descriptorIndex := 6, attributes := #[] }, { accessFlags := 9, nameIndex := 45, descriptorIndex := 94, attributes := #[] }] 49 2 #[] #[])
  fields := #[]
  methods := #[k12m0, k12m1]
  instanceTypes := #[]
  staticTypes := #[]
  resolved := Array.replicate 184 none
  statics := none }

def pool13 : Array CpInfo := pool [(4, .class_ 6), (1, u "java/lang/Object"), (0, u "<init>"), (0, u "()V"), (5, .class_ 16), (1, u "java/lang/StringLatin1"), (104, u "$assertionsDisabled"), (0, u "Z"), (98, .class_ 223), (1, u "java/lang/StringLatin1$LinesSpliterator"), (57, u "equals"), (0, u "([B[B)Z"), (107, .class_ 391), (0, u "java/lang/StringLatin1$CharsSpliterator")] 3

def k13m0 : Method := { name := "<init>", desc := "()V", sig := { parameters := [], returnType := none }, accessFlags := 0, code := none }
def k13c1 : Code := { maxStack := 3, maxLocals := 3, code := jdk_43_method_13_code, exceptionTable := #[], attributes := #[] }
def k13m1 : Method := { name := "equals", desc := "([B[B)Z", sig := { parameters := [(.array .byte), (.array .byte)], returnType := some .boolean }, accessFlags := 9, code := some k13c1 }
/-- java/lang/StringLatin1 -/
def k13 : Class := { plain "java/lang/StringLatin1" (some 0) with
  accessFlags := 48
  interfaces := #[]
  cf := some (fileOf pool13 14 #[.nestMembers #[390, 221]] #[{ accessFlags := 0, nameIndex := 7, descriptorIndex := 8, attributes := #[] }, { accessFlags := 9, nameIndex := 281, descriptorIndex := 282, attributes := #[] }] 48 4 #[] #[{ accessFlags := 4120, nameIndex := 121, descriptorIndex := 122, attributes := #[] }])
  fields := #[{ name := "$assertionsDisabled", type := .boolean, accessFlags := 4120, slot := 0, constantValue := 0 }]
  methods := #[k13m0, k13m1]
  instanceTypes := #[]
  staticTypes := #[.boolean]
  resolved := Array.replicate 395 none
  statics := none }

def pool14 : Array CpInfo := pool [(2, .class_ 4), (1, u "java/lang/Object"), (0, u "<init>"), (0, u "()V"), (17, .class_ 26), (1, u "jdk/internal/util/Preconditions"), (28, .class_ 56), (0, u "jdk/internal/util/Preconditions$4"), (57, .class_ 115), (0, u "jdk/internal/util/Preconditions$1"), (7, u "SIOOBE_FORMATTER"), (0, u "Ljava/util/function/BiFunction;"), (0, .class_ 126), (0, u "jdk/internal/util/Preconditions$2"), (3, u "AIOOBE_FORMATTER"), (0, .class_ 132), (0, u "jdk/internal/util/Preconditions$3"), (3, u "IOOBE_FORMATTER")] 57

def k14m0 : Method := { name := "<init>", desc := "()V", sig := { parameters := [], returnType := none }, accessFlags := 1, code := none }
/-- jdk/internal/util/Preconditions -/
def k14 : Class := { plain "jdk/internal/util/Preconditions" (some 0) with
  accessFlags := 33
  interfaces := #[]
  cf := some (fileOf pool14 24 #[.nestMembers #[55, 131, 125, 114]] #[{ accessFlags := 1, nameIndex := 5, descriptorIndex := 6, attributes := #[] }] 33 2 #[] #[{ accessFlags := 25, nameIndex := 123, descriptorIndex := 124, attributes := #[] }, { accessFlags := 25, nameIndex := 130, descriptorIndex := 124, attributes := #[] }, { accessFlags := 25, nameIndex := 136, descriptorIndex := 124, attributes := #[] }])
  fields := #[{ name := "SIOOBE_FORMATTER", type := (.object "java/util/function/BiFunction"), accessFlags := 25, slot := 0, constantValue := 0 }, { name := "AIOOBE_FORMATTER", type := (.object "java/util/function/BiFunction"), accessFlags := 25, slot := 1, constantValue := 0 }, { name := "IOOBE_FORMATTER", type := (.object "java/util/function/BiFunction"), accessFlags := 25, slot := 2, constantValue := 0 }]
  methods := #[k14m0]
  instanceTypes := #[]
  staticTypes := #[(.object "java/util/function/BiFunction"), (.object "java/util/function/BiFunction"), (.object "java/util/function/BiFunction")]
  resolved := Array.replicate 194 none
  statics := some 2 }

def pool15 : Array CpInfo := pool [(9, u "<init>"), (6, .class_ 18), (1, u "java/lang/Object"), (0, u "()V"), (1, .class_ 23), (1, u "jdk/internal/util/ArraysSupport"), (0, u "LOG2_ARRAY_LONG_INDEX_SCALE"), (0, u "I"), (2, u "U"), (0, u "Ljdk/internal/misc/Unsafe;"), (8, u "BIG_ENDIAN"), (0, u "Z"), (8, u "LOG2_BYTE_BIT_SIZE"), (4, u "LOG2_ARRAY_INT_INDEX_SCALE"), (54, u "JLA"), (0, u "Ljdk/internal/access/JavaLangAccess;"), (11, u "LOG2_ARRAY_BOOLEAN_INDEX_SCALE"), (9, u "LOG2_ARRAY_BYTE_INDEX_SCALE"), (5, u "LOG2_ARRAY_CHAR_INDEX_SCALE"), (5, u "LOG2_ARRAY_SHORT_INDEX_SCALE"), (18, u "LOG2_ARRAY_FLOAT_INDEX_SCALE"), (24, u "LOG2_ARRAY_DOUBLE_INDEX_SCALE"), (89, u "T_BOOLEAN"), (2, u "T_CHAR"), (1, u "T_FLOAT"), (1, u "T_DOUBLE"), (1, u "T_BYTE"), (1, u "T_SHORT"), (1, u "T_INT"), (1, u "T_LONG"), (1, u "SOFT_MAX_ARRAY_LENGTH")] 83

def k15m0 : Method := { name := "<init>", desc := "()V", sig := { parameters := [], returnType := none }, accessFlags := 2, code := none }
/-- jdk/internal/util/ArraysSupport -/
def k15 : Class := { plain "jdk/internal/util/ArraysSupport" (some 0) with
  accessFlags := 33
  interfaces := #[]
  cf := some (fileOf pool15 21 #[] #[{ accessFlags := 2, nameIndex := 9, descriptorIndex := 19, attributes := #[] }] 33 16 #[] #[{ accessFlags := 24, nameIndex := 28, descriptorIndex := 29, attributes := #[] }, { accessFlags := 26, nameIndex := 38, descriptorIndex := 39, attributes := #[] }, { accessFlags := 25, nameIndex := 121, descriptorIndex := 25, attributes := #[] }, { accessFlags := 25, nameIndex := 131, descriptorIndex := 25, attributes := #[] }, { accessFlags := 25, nameIndex := 137, descriptorIndex := 25, attributes := #[] }, { accessFlags := 25, nameIndex := 143, descriptorIndex := 25, attributes := #[] }, { accessFlags := 25, nameIndex := 53, descriptorIndex := 25, attributes := #[] }, { accessFlags := 25, nameIndex := 24, descriptorIndex := 25, attributes := #[] }, { accessFlags := 25, nameIndex := 162, descriptorIndex := 25, attributes := #[] }, { accessFlags := 25, nameIndex := 187, descriptorIndex := 25, attributes := #[] }, { accessFlags := 26, nameIndex := 48, descriptorIndex := 25, attributes := #[] }, { accessFlags := 25, nameIndex := 277, descriptorIndex := 25, attributes := #[] }, { accessFlags := 25, nameIndex := 280, descriptorIndex := 25, attributes := #[] }, { accessFlags := 25, nameIndex := 282, descriptorIndex := 25, attributes := #[] }, { accessFlags := 25, nameIndex := 284, descriptorIndex := 25, attributes := #[] }, { accessFlags := 25, nameIndex := 286, descriptorIndex := 25, attributes := #[] }, { accessFlags := 25, nameIndex := 288, descriptorIndex := 25, attributes := #[] }, { accessFlags := 25, nameIndex := 290, descriptorIndex := 25, attributes := #[] }, { accessFlags := 25, nameIndex := 292, descriptorIndex := 25, attributes := #[] }, { accessFlags := 26, nameIndex := 108, descriptorIndex := 109, attributes := #[] }, { accessFlags := 25, nameIndex := 294, descriptorIndex := 25, attributes := #[] }])
  fields := #[{ name := "U", type := (.object "jdk/internal/misc/Unsafe"), accessFlags := 24, slot := 0, constantValue := 0 }, { name := "BIG_ENDIAN", type := .boolean, accessFlags := 26, slot := 1, constantValue := 0 }, { name := "LOG2_ARRAY_BOOLEAN_INDEX_SCALE", type := .int, accessFlags := 25, slot := 2, constantValue := 0 }, { name := "LOG2_ARRAY_BYTE_INDEX_SCALE", type := .int, accessFlags := 25, slot := 3, constantValue := 0 }, { name := "LOG2_ARRAY_CHAR_INDEX_SCALE", type := .int, accessFlags := 25, slot := 4, constantValue := 0 }, { name := "LOG2_ARRAY_SHORT_INDEX_SCALE", type := .int, accessFlags := 25, slot := 5, constantValue := 0 }, { name := "LOG2_ARRAY_INT_INDEX_SCALE", type := .int, accessFlags := 25, slot := 6, constantValue := 0 }, { name := "LOG2_ARRAY_LONG_INDEX_SCALE", type := .int, accessFlags := 25, slot := 7, constantValue := 0 }, { name := "LOG2_ARRAY_FLOAT_INDEX_SCALE", type := .int, accessFlags := 25, slot := 8, constantValue := 0 }, { name := "LOG2_ARRAY_DOUBLE_INDEX_SCALE", type := .int, accessFlags := 25, slot := 9, constantValue := 0 }, { name := "LOG2_BYTE_BIT_SIZE", type := .int, accessFlags := 26, slot := 10, constantValue := 0 }, { name := "T_BOOLEAN", type := .int, accessFlags := 25, slot := 11, constantValue := 0 }, { name := "T_CHAR", type := .int, accessFlags := 25, slot := 12, constantValue := 0 }, { name := "T_FLOAT", type := .int, accessFlags := 25, slot := 13, constantValue := 0 }, { name := "T_DOUBLE", type := .int, accessFlags := 25, slot := 14, constantValue := 0 }, { name := "T_BYTE", type := .int, accessFlags := 25, slot := 15, constantValue := 0 }, { name := "T_SHORT", type := .int, accessFlags := 25, slot := 16, constantValue := 0 }, { name := "T_INT", type := .int, accessFlags := 25, slot := 17, constantValue := 0 }, { name := "T_LONG", type := .int, accessFlags := 25, slot := 18, constantValue := 0 }, { name := "JLA", type := (.object "jdk/internal/access/JavaLangAccess"), accessFlags := 26, slot := 19, constantValue := 0 }, { name := "SOFT_MAX_ARRAY_LENGTH", type := .int, accessFlags := 25, slot := 20, constantValue := 0 }]
  methods := #[k15m0]
  instanceTypes := #[]
  staticTypes := #[(.object "jdk/internal/misc/Unsafe"), .boolean, .int, .int, .int, .int, .int, .int, .int, .int, .int, .int, .int, .int, .int, .int, .int, .int, .int, (.object "jdk/internal/access/JavaLangAccess"), .int]
  resolved := Array.replicate 378 none
  statics := none }

def pool16 : Array CpInfo := pool [(1, u "java/lang/Cloneable"), (0, .class_ 1), (0, u "java/lang/Object"), (0, .class_ 3)] 3

/-- java/lang/Cloneable -/
def k16 : Class := { plain "java/lang/Cloneable" (some 0) with
  accessFlags := 1537
  interfaces := #[]
  cf := some (fileOf pool16 2 #[] #[] 1537 4 #[] #[])
  fields := #[]
  methods := #[]
  instanceTypes := #[]
  staticTypes := #[]
  resolved := Array.replicate 8 none
  statics := none }

/-- the primitive byte -/
def k17 : Class := { plain "byte" none with kind := .primitive 'B', accessFlags := 0x411 }
/-- [B -/
def k18 : Class := { plain "[B" (some 0) with kind := .array 17 .byte, interfaces := #[16, 5], accessFlags := 1041 }

/-- the primitive char -/
def k19 : Class := { plain "char" none with kind := .primitive 'C', accessFlags := 0x411 }
/-- [C -/
def k20 : Class := { plain "[C" (some 0) with kind := .array 19 .char, interfaces := #[16, 5], accessFlags := 1041 }

/-- the primitive int -/
def k21 : Class := { plain "int" none with kind := .primitive 'I', accessFlags := 0x411 }
/-- [I -/
def k22 : Class := { plain "[I" (some 0) with kind := .array 21 .int, interfaces := #[16, 5], accessFlags := 1041 }

/-- [Lcom/example/cartouche/cartouche/crosswalks/DcElement; -/
def k23 : Class := { plain "[Lcom/example/cartouche/cartouche/crosswalks/DcElement;" (some 0) with kind := .array 7 (.object "com/example/cartouche/cartouche/crosswalks/DcElement"), interfaces := #[16, 5], accessFlags := 1041 }

def heap : Heap := #[{ cls := 7, slots := #[.ref 3, .ref 4, .ref 5, .ref 6, .ref 7, .ref 8, .ref 9, .ref 10, .ref 11, .ref 12, .ref 13, .ref 14, .ref 15, .ref 16, .ref 17, .null, .null], vm := .statics 7 },
  { cls := 10, slots := #[.long 0, .int 1, .null, .int 0, .null, .int 0, .int 0], vm := .statics 10 },
  { cls := 14, slots := #[.null, .null, .null], vm := .statics 14 },
  { cls := 7, slots := #[.null, .int 0, .int 0, .null], vm := .none },
  { cls := 7, slots := #[.null, .int 1, .int 0, .null], vm := .none },
  { cls := 7, slots := #[.null, .int 2, .int 0, .null], vm := .none },
  { cls := 7, slots := #[.null, .int 3, .int 0, .null], vm := .none },
  { cls := 7, slots := #[.null, .int 4, .int 0, .null], vm := .none },
  { cls := 7, slots := #[.null, .int 5, .int 0, .null], vm := .none },
  { cls := 7, slots := #[.null, .int 6, .int 0, .null], vm := .none },
  { cls := 7, slots := #[.null, .int 7, .int 0, .null], vm := .none },
  { cls := 7, slots := #[.null, .int 8, .int 0, .null], vm := .none },
  { cls := 7, slots := #[.null, .int 9, .int 0, .null], vm := .none },
  { cls := 7, slots := #[.null, .int 10, .int 0, .null], vm := .none },
  { cls := 7, slots := #[.null, .int 11, .int 0, .null], vm := .none },
  { cls := 7, slots := #[.null, .int 12, .int 0, .null], vm := .none },
  { cls := 7, slots := #[.null, .int 13, .int 0, .null], vm := .none },
  { cls := 7, slots := #[.null, .int 14, .int 0, .null], vm := .none }]
def classes : Array Class := #[k0, k1, k2, k3, k4, k5, k6, k7, k8, k9, k10, k11, k12, k13, k14, k15, k16, k17, k18, k19, k20, k21, k22, k23]
def interned : List (Array UInt16 × Addr) := []
def slotsUsed : Nat := 87
def theMethod : MethodId := ⟨1, 5⟩
def args0 : Array Value := #[.int 5, .int 1, .int 2, .long 7, .long 8, .int 1]
def aboutOver (below : List Frame) : State where
  vm := { classes := classes, interned := interned.toArray }
  heap := heap
  slotsUsed := slotsUsed
  threads := #[{ frames := .invoking theMethod args0 :: below }]
def below0 : List Frame := [.native { method := ⟨0, 0⟩, args := #[] }]
def about1 : State := aboutOver below0
def p0 : Program := .bare "" "" ""
def e0 : Env := launch0.env 0 0 0
theorem w_frames : about1.frames = Frame.invoking theMethod args0 :: below0 := rfl
set_option maxRecDepth 65536 in
theorem w_args : argsFit about1.vm theMethod args0 = true := by decide +kernel
set_option maxRecDepth 65536 in
theorem w_heap : heapFits about1 = true := by decide +kernel
set_option maxRecDepth 65536 in
theorem w_runnable : about1.curStatus? = some .runnable := by decide +kernel
set_option maxRecDepth 65536 in
theorem w_alone : about1.alone = true := by decide +kernel
set_option maxRecDepth 65536 in
theorem w_named : about1.methodNamed? x = some theMethod := by decide +kernel
set_option maxRecDepth 65536 in
theorem w_hears : about1.hears theMethod below0 = true := by decide +kernel
set_option maxRecDepth 65536 in
theorem w_ripe : about1.ripe theMethod args0 below0 = true := by decide +kernel
theorem w_running : about1.status = .running := rfl
set_option maxRecDepth 65536 in
theorem w_room : about1.hasRoom e0.platform room_1 = true :=
  launch0.hasRoom_least _ room_1 (by decide +kernel) (by decide +kernel) (by decide +kernel) (by decide +kernel) (by decide +kernel) (by decide +kernel)
theorem allAtoms_all (ts : List Jvm.Cond) (a : Array Jvm.Value) (st : Jvm.State) : (allAtoms ts).before a st = ts.all (fun c => c.before a st) := by
  induction ts with
  | nil => rfl
  | cons c t ih =>
    show (Jvm.Cond.and c (allAtoms t)).before a st = _
    rw [Jvm.Cond.before_and, ih, List.all_cons]
def words1 : List Jvm.Cond := Jvm.Cond.code x code maxLocals ret :: tables_1
/-- a 'code' word, met by the world's own term for the bytes: nothing is compared byte by byte -/
theorem code_word {y : MethodName} {bytes : ByteArray} {mx : Nat} {rt : Option FieldType} {a : Array Value} {s : State} {m : MethodId} {meth : Method} {c : Code} (h1 : s.methodNamed? y = some m) (h2 : s.vm.method? m = some meth) (h3 : meth.code = some c) (h4 : c.code = bytes)
    (h5 : (c.maxLocals == mx && c.exceptionTable.isEmpty && decide (c.maxStack ≤ mostOperands) && decide (meth.sig.returnType = rt) && !meth.locks && decide (parseMethodDescriptor y.desc = some meth.sig)) = true) : (Jvm.Cond.code y bytes mx rt).before a s = true := by
  simp only [Bool.and_eq_true, beq_iff_eq, Bool.not_eq_true', decide_eq_true_eq] at h5
  obtain ⟨⟨⟨⟨⟨g1, g2⟩, g3⟩, g4⟩, g5⟩, g6⟩ := h5
  simp [Cond.before, Cond.holds, Cond.value, h1, h2, h3, h4, g1, g2, g3, g4, g5, g6]
def isCode : Jvm.Cond → Bool
  | .code _ _ _ _ => true
  | _ => false
theorem all_split {L : List Jvm.Cond} {P : Jvm.Cond → Bool} (h1 : L.all (fun c => isCode c || P c) = true) (h2 : ∀ c ∈ L.filter isCode, P c = true) : L.all P = true := by
  refine List.all_eq_true.mpr fun c hc => ?_
  have h := List.all_eq_true.mp h1 c hc
  rcases Bool.eq_false_or_eq_true (isCode c) with hi | hi
  · exact h2 c (List.mem_filter.mpr ⟨hc, hi⟩)
  · simpa [hi] using h
set_option maxRecDepth 65536 in
theorem w_c0 : (Jvm.Cond.code x code maxLocals ret).before args0 about1 = true := code_word (m := ⟨1, 5⟩) (meth := k1m5) (c := k1c5) (by decide +kernel) rfl rfl rfl (by decide +kernel)
set_option maxRecDepth 65536 in
theorem w_c1 : (Jvm.Cond.code ({ cls := "com/example/cartouche/cartouche/crosswalks/DcValueEqualsPinLaw", name := "el", desc := "(I)Lcom/example/cartouche/cartouche/crosswalks/DcElement;" } : Jvm.MethodName) method_2_code (2 : Nat) (Option.some (Jvm.ClassFile.FieldType.object "com/example/cartouche/cartouche/crosswalks/DcElement"))).before args0 about1 = true := code_word (m := ⟨1, 1⟩) (meth := k1m1) (c := k1c1) (by decide +kernel) rfl rfl rfl (by decide +kernel)
set_option maxRecDepth 65536 in
theorem w_c2 : (Jvm.Cond.code ({ cls := "com/example/cartouche/cartouche/crosswalks/DcValueEqualsPinLaw", name := "make", desc := "(IJ)Ljava/lang/String;" } : Jvm.MethodName) method_4_code (3 : Nat) (Option.some (Jvm.ClassFile.FieldType.object "java/lang/String"))).before args0 about1 = true := code_word (m := ⟨1, 3⟩) (meth := k1m3) (c := k1c3) (by decide +kernel) rfl rfl rfl (by decide +kernel)
set_option maxRecDepth 65536 in
theorem w_c3 : (Jvm.Cond.code ({ cls := "com/example/cartouche/cartouche/crosswalks/DcValueEqualsPinLaw", name := "ch", desc := "(JI)C" } : Jvm.MethodName) method_3_code (3 : Nat) (Option.some Jvm.ClassFile.FieldType.char)).before args0 about1 = true := code_word (m := ⟨1, 2⟩) (meth := k1m2) (c := k1c2) (by decide +kernel) rfl rfl rfl (by decide +kernel)
set_option maxRecDepth 65536 in
theorem w_c4 : (Jvm.Cond.code ({ cls := "java/lang/String", name := "<init>", desc := "([C)V" } : Jvm.MethodName) jdk_42_method_3_code (2 : Nat) (Option.none : Option Jvm.ClassFile.FieldType)).before args0 about1 = true := code_word (m := ⟨10, 1⟩) (meth := k10m1) (c := k10c1) (by decide +kernel) rfl rfl rfl (by decide +kernel)
set_option maxRecDepth 65536 in
theorem w_c5 : (Jvm.Cond.code ({ cls := "java/lang/String", name := "<init>", desc := "([CIILjava/lang/Void;)V" } : Jvm.MethodName) jdk_42_method_149_code (6 : Nat) (Option.none : Option Jvm.ClassFile.FieldType)).before args0 about1 = true := code_word (m := ⟨10, 3⟩) (meth := k10m3) (c := k10c3) (by decide +kernel) rfl rfl rfl (by decide +kernel)
set_option maxRecDepth 65536 in
theorem w_c6 : (Jvm.Cond.code ({ cls := "java/lang/Object", name := "<init>", desc := "()V" } : Jvm.MethodName) object_method_1_code (1 : Nat) (Option.none : Option Jvm.ClassFile.FieldType)).before args0 about1 = true := code_word (m := ⟨0, 0⟩) (meth := k0m0) (c := k0c0) (by decide +kernel) rfl rfl rfl (by decide +kernel)
set_option maxRecDepth 65536 in
theorem w_c7 : (Jvm.Cond.code ({ cls := "java/lang/StringUTF16", name := "compress", desc := "([CII)[B" } : Jvm.MethodName) jdk_52_method_16_code (6 : Nat) (Option.some (Jvm.ClassFile.FieldType.array Jvm.ClassFile.FieldType.byte))).before args0 about1 = true := code_word (m := ⟨11, 2⟩) (meth := k11m2) (c := k11c2) (by decide +kernel) rfl rfl rfl (by decide +kernel)
set_option maxRecDepth 65536 in
theorem w_c8 : (Jvm.Cond.code ({ cls := "java/lang/StringUTF16", name := "compress", desc := "([CI[BII)I" } : Jvm.MethodName) jdk_52_method_21_code (7 : Nat) (Option.some Jvm.ClassFile.FieldType.int)).before args0 about1 = true := code_word (m := ⟨11, 3⟩) (meth := k11m3) (c := k11c3) (by decide +kernel) rfl rfl rfl (by decide +kernel)
set_option maxRecDepth 65536 in
theorem w_c9 : (Jvm.Cond.code ({ cls := "java/lang/StringUTF16", name := "coderFromArrayLen", desc := "([BI)B" } : Jvm.MethodName) jdk_52_method_15_code (2 : Nat) (Option.some Jvm.ClassFile.FieldType.byte)).before args0 about1 = true := code_word (m := ⟨11, 1⟩) (meth := k11m1) (c := k11c1) (by decide +kernel) rfl rfl rfl (by decide +kernel)
set_option maxRecDepth 65536 in
theorem w_c10 : (Jvm.Cond.code ({ cls := "com/example/cartouche/cartouche/crosswalks/DcValue", name := "<init>", desc := "(Lcom/example/cartouche/cartouche/crosswalks/DcElement;Ljava/lang/String;)V" } : Jvm.MethodName) prog_44_method_1_code (3 : Nat) (Option.none : Option Jvm.ClassFile.FieldType)).before args0 about1 = true := code_word (m := ⟨2, 0⟩) (meth := k2m0) (c := k2c0) (by decide +kernel) rfl rfl rfl (by decide +kernel)
set_option maxRecDepth 65536 in
theorem w_c11 : (Jvm.Cond.code ({ cls := "java/util/Objects", name := "requireNonNull", desc := "(Ljava/lang/Object;Ljava/lang/String;)Ljava/lang/Object;" } : Jvm.MethodName) jdk_31_method_11_code (2 : Nat) (Option.some (Jvm.ClassFile.FieldType.object "java/lang/Object"))).before args0 about1 = true := code_word (m := ⟨12, 1⟩) (meth := k12m1) (c := k12c1) (by decide +kernel) rfl rfl rfl (by decide +kernel)
set_option maxRecDepth 65536 in
theorem w_c12 : (Jvm.Cond.code ({ cls := "com/example/cartouche/cartouche/crosswalks/DcValue", name := "equals", desc := "(Ljava/lang/Object;)Z" } : Jvm.MethodName) prog_44_method_4_code (3 : Nat) (Option.some Jvm.ClassFile.FieldType.boolean)).before args0 about1 = true := code_word (m := ⟨2, 2⟩) (meth := k2m2) (c := k2c2) (by decide +kernel) rfl rfl rfl (by decide +kernel)
set_option maxRecDepth 65536 in
theorem w_c13 : (Jvm.Cond.code ({ cls := "java/lang/String", name := "equals", desc := "(Ljava/lang/Object;)Z" } : Jvm.MethodName) jdk_42_method_66_code (3 : Nat) (Option.some Jvm.ClassFile.FieldType.boolean)).before args0 about1 = true := code_word (m := ⟨10, 2⟩) (meth := k10m2) (c := k10c2) (by decide +kernel) rfl rfl rfl (by decide +kernel)
set_option maxRecDepth 65536 in
theorem w_c14 : (Jvm.Cond.code ({ cls := "com/example/cartouche/cartouche/crosswalks/DcValue", name := "text", desc := "()Ljava/lang/String;" } : Jvm.MethodName) prog_44_method_3_code (1 : Nat) (Option.some (Jvm.ClassFile.FieldType.object "java/lang/String"))).before args0 about1 = true := code_word (m := ⟨2, 1⟩) (meth := k2m1) (c := k2c1) (by decide +kernel) rfl rfl rfl (by decide +kernel)
set_option maxRecDepth 65536 in
theorem w_c15 : (Jvm.Cond.code ({ cls := "com/example/cartouche/cartouche/crosswalks/DcValueEqualsPinLaw", name := "sameText", desc := "(IJIJ)Z" } : Jvm.MethodName) method_5_code (9 : Nat) (Option.some Jvm.ClassFile.FieldType.boolean)).before args0 about1 = true := code_word (m := ⟨1, 4⟩) (meth := k1m4) (c := k1c4) (by decide +kernel) rfl rfl rfl (by decide +kernel)
set_option maxRecDepth 65536 in
theorem w_c16 : (Jvm.Cond.code ({ cls := "java/lang/StringLatin1", name := "equals", desc := "([B[B)Z" } : Jvm.MethodName) jdk_43_method_13_code (3 : Nat) (Option.some Jvm.ClassFile.FieldType.boolean)).before args0 about1 = true := code_word (m := ⟨13, 1⟩) (meth := k13m1) (c := k13c1) (by decide +kernel) rfl rfl rfl (by decide +kernel)
def codes1 : List Jvm.Cond := [Jvm.Cond.code x code maxLocals ret, Jvm.Cond.code ({ cls := "com/example/cartouche/cartouche/crosswalks/DcValueEqualsPinLaw", name := "el", desc := "(I)Lcom/example/cartouche/cartouche/crosswalks/DcElement;" } : Jvm.MethodName) method_2_code (2 : Nat) (Option.some (Jvm.ClassFile.FieldType.object "com/example/cartouche/cartouche/crosswalks/DcElement")), Jvm.Cond.code ({ cls := "com/example/cartouche/cartouche/crosswalks/DcValueEqualsPinLaw", name := "make", desc := "(IJ)Ljava/lang/String;" } : Jvm.MethodName) method_4_code (3 : Nat) (Option.some (Jvm.ClassFile.FieldType.object "java/lang/String")), Jvm.Cond.code ({ cls := "com/example/cartouche/cartouche/crosswalks/DcValueEqualsPinLaw", name := "ch", desc := "(JI)C" } : Jvm.MethodName) method_3_code (3 : Nat) (Option.some Jvm.ClassFile.FieldType.char), Jvm.Cond.code ({ cls := "java/lang/String", name := "<init>", desc := "([C)V" } : Jvm.MethodName) jdk_42_method_3_code (2 : Nat) (Option.none : Option Jvm.ClassFile.FieldType), Jvm.Cond.code ({ cls := "java/lang/String", name := "<init>", desc := "([CIILjava/lang/Void;)V" } : Jvm.MethodName) jdk_42_method_149_code (6 : Nat) (Option.none : Option Jvm.ClassFile.FieldType), Jvm.Cond.code ({ cls := "java/lang/Object", name := "<init>", desc := "()V" } : Jvm.MethodName) object_method_1_code (1 : Nat) (Option.none : Option Jvm.ClassFile.FieldType), Jvm.Cond.code ({ cls := "java/lang/StringUTF16", name := "compress", desc := "([CII)[B" } : Jvm.MethodName) jdk_52_method_16_code (6 : Nat) (Option.some (Jvm.ClassFile.FieldType.array Jvm.ClassFile.FieldType.byte)), Jvm.Cond.code ({ cls := "java/lang/StringUTF16", name := "compress", desc := "([CI[BII)I" } : Jvm.MethodName) jdk_52_method_21_code (7 : Nat) (Option.some Jvm.ClassFile.FieldType.int), Jvm.Cond.code ({ cls := "java/lang/StringUTF16", name := "coderFromArrayLen", desc := "([BI)B" } : Jvm.MethodName) jdk_52_method_15_code (2 : Nat) (Option.some Jvm.ClassFile.FieldType.byte), Jvm.Cond.code ({ cls := "com/example/cartouche/cartouche/crosswalks/DcValue", name := "<init>", desc := "(Lcom/example/cartouche/cartouche/crosswalks/DcElement;Ljava/lang/String;)V" } : Jvm.MethodName) prog_44_method_1_code (3 : Nat) (Option.none : Option Jvm.ClassFile.FieldType), Jvm.Cond.code ({ cls := "java/util/Objects", name := "requireNonNull", desc := "(Ljava/lang/Object;Ljava/lang/String;)Ljava/lang/Object;" } : Jvm.MethodName) jdk_31_method_11_code (2 : Nat) (Option.some (Jvm.ClassFile.FieldType.object "java/lang/Object")), Jvm.Cond.code ({ cls := "com/example/cartouche/cartouche/crosswalks/DcValue", name := "equals", desc := "(Ljava/lang/Object;)Z" } : Jvm.MethodName) prog_44_method_4_code (3 : Nat) (Option.some Jvm.ClassFile.FieldType.boolean), Jvm.Cond.code ({ cls := "java/lang/String", name := "equals", desc := "(Ljava/lang/Object;)Z" } : Jvm.MethodName) jdk_42_method_66_code (3 : Nat) (Option.some Jvm.ClassFile.FieldType.boolean), Jvm.Cond.code ({ cls := "com/example/cartouche/cartouche/crosswalks/DcValue", name := "text", desc := "()Ljava/lang/String;" } : Jvm.MethodName) prog_44_method_3_code (1 : Nat) (Option.some (Jvm.ClassFile.FieldType.object "java/lang/String")), Jvm.Cond.code ({ cls := "com/example/cartouche/cartouche/crosswalks/DcValueEqualsPinLaw", name := "sameText", desc := "(IJIJ)Z" } : Jvm.MethodName) method_5_code (9 : Nat) (Option.some Jvm.ClassFile.FieldType.boolean), Jvm.Cond.code ({ cls := "java/lang/StringLatin1", name := "equals", desc := "([B[B)Z" } : Jvm.MethodName) jdk_43_method_13_code (3 : Nat) (Option.some Jvm.ClassFile.FieldType.boolean)]
set_option maxRecDepth 65536 in
theorem codes_eq : words1.filter isCode = codes1 := rfl
theorem w_codes : ∀ c ∈ words1.filter isCode, c.before args0 about1 = true := by
  rw [codes_eq]
  intro c hc
  simp only [codes1, List.mem_cons, List.not_mem_nil, or_false] at hc
  rcases hc with rfl | rfl | rfl | rfl | rfl | rfl | rfl | rfl | rfl | rfl | rfl | rfl | rfl | rfl | rfl | rfl | rfl
  · exact w_c0
  · exact w_c1
  · exact w_c2
  · exact w_c3
  · exact w_c4
  · exact w_c5
  · exact w_c6
  · exact w_c7
  · exact w_c8
  · exact w_c9
  · exact w_c10
  · exact w_c11
  · exact w_c12
  · exact w_c13
  · exact w_c14
  · exact w_c15
  · exact w_c16
set_option maxRecDepth 65536 in
theorem w_t1 : (words1.take 24).all (fun c => isCode c || c.before args0 about1) = true := by decide +kernel
set_option maxRecDepth 65536 in
theorem w_t2 : ((words1.drop 24).take 24).all (fun c => isCode c || c.before args0 about1) = true := by decide +kernel
set_option maxRecDepth 65536 in
theorem w_t3 : (((words1.drop 24).drop 24).take 24).all (fun c => isCode c || c.before args0 about1) = true := by decide +kernel
set_option maxRecDepth 65536 in
theorem w_t4 : ((((words1.drop 24).drop 24).drop 24).take 24).all (fun c => isCode c || c.before args0 about1) = true := by decide +kernel
set_option maxRecDepth 65536 in
theorem w_t5 : (((((words1.drop 24).drop 24).drop 24).drop 24).take 24).all (fun c => isCode c || c.before args0 about1) = true := by decide +kernel
set_option maxRecDepth 65536 in
theorem w_t6 : (((((words1.drop 24).drop 24).drop 24).drop 24).drop 24).all (fun c => isCode c || c.before args0 about1) = true := by decide +kernel
theorem w_tables : (allAtoms (Jvm.Cond.code x code maxLocals ret :: tables_1)).before args0 about1 = true := by
  rw [allAtoms_all]
  show words1.all (fun c => c.before args0 about1) = true
  refine all_split ?_ w_codes
  rw [← List.take_append_drop 24 words1, List.all_append, w_t1, ← List.take_append_drop 24 (words1.drop 24), List.all_append, w_t2, ← List.take_append_drop 24 ((words1.drop 24).drop 24), List.all_append, w_t3, ← List.take_append_drop 24 (((words1.drop 24).drop 24).drop 24), List.all_append, w_t4, ← List.take_append_drop 24 ((((words1.drop 24).drop 24).drop 24).drop 24), List.all_append, w_t5, w_t6]
  rfl
set_option maxRecDepth 65536 in
theorem w_rest : rest_1_c.before args0 about1 = true := by decide +kernel
set_option maxRecDepth 65536 in
theorem w_case : (Jvm.Cond.and given_1 narrow_1).before args0 about1 = true := by decide +kernel
set_option maxRecDepth 65536 in
theorem w_consts : constsHeld consts_1 about1 := Jvm.Lit.constsHeldB_iff.mp (by decide +kernel)
theorem w_applies : (headSpec (Jvm.Cond.code x code maxLocals ret :: tables_1) room_1).applies x e0.platform about1 = true :=
  (Spec.applies_iff w_frames).mpr ⟨w_running, w_runnable, w_alone, w_named, w_hears, w_ripe, w_room, w_tables⟩
theorem atStart : AtStart classFile x code maxLocals ret World_1 tables_1 room_1 Calls_1 rest_1 Pre_1 launch0 p0 e0 about1 theMethod args0 below0 :=
  ⟨lists_1, trivial, launch0.admits_env _ _ _, launch0.least_env, fairChoices_fair.cas, fairChoices_fair.clock, w_frames, w_args, w_heap, w_applies, ⟨w_consts, trivial⟩, w_rest, w_case⟩
end start1
theorem witness_1 : WitnessClaimed_1 := ⟨start1.p0, start1.e0, start1.about1, start1.theMethod, start1.args0, start1.below0, start1.atStart⟩
end Jvm.Pilot.@@N@@
