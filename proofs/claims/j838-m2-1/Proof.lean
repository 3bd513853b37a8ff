import JvmDerived
import JvmDerived.Pilot.@@N@@Statement
import JvmDerived.Pilot.@@N@@Code
set_option linter.unusedVariables false
set_option linter.unusedSimpArgs false
namespace Jvm.Pilot.@@N@@
open Jvm Jvm.ClassFile Sem Op Lib Jvm.Free Jvm.Stand Jvm.LawKit Jvm.RoadKit Bundle Jvm.Pilot.@@N@@.Jvm.D
section OwnKit
variable {p : Program} {l : Launch} {e : Env} {R : Room} {s : State} {m : MethodId} {args : Array Value} {below : List Frame} {meth : Method} {c : Code} {T : State} {locs : List Loc} {cells slots : Nat}
/-- from S the run comes to an end that Φ takes -/
def own_G (tb : Tables) (e : Env) (below : List Frame) (Φ : State → Outcome → Prop) (S : State) : Prop := ∃ t o, Steps tb e below S t ∧ t.status = .running ∧ Ended t below o ∧ Φ t o
def own_E (s : State) (Q : Option Value → Heap → List Loc → Prop) (kc ks : Nat) : State → Outcome → Prop := fun t o => ∃ v L, o = .returned v ∧ Q v t.heap L ∧ FrameEnd s o t L kc ks
theorem own_st {tb : Tables} {Φ : State → Outcome → Prop} {S S' : State} (h : ∀ t, Steps tb e below S' t → Steps tb e below S t) (g : own_G tb e below Φ S') : own_G tb e below Φ S := by
  obtain ⟨t, o, a, b⟩ := g
  exact ⟨t, o, h t a, b⟩
theorem own_tr {tb : Tables} {Φ : State → Outcome → Prop} {S S' : State} (h : Steps tb e below S S') (g : own_G tb e below Φ S') : own_G tb e below Φ S := by
  obtain ⟨t, o, a, b⟩ := g
  exact ⟨t, o, h.trans a, b⟩
theorem own_in {s₁ : State} (kc ks : Nat) (Q : Option Value → Heap → List Loc → Prop) {mL : Nat} {g : JFrame} (ef : entryFrame m args mL = g) (k : own_G p.tables e below (own_E s Q kc ks) (s₁.setTop g)) :
    ∃ s₂ o, Steps p.tables e below (s₁.setTop (entryFrame m args mL)) s₂ ∧ s₂.status = .running ∧ Ended s₂ below o ∧ ∃ v L, o = .returned v ∧ Q v s₂.heap L ∧ FrameEnd s o s₂ L kc ks := by
  rw [ef]
  exact k
theorem own_retI0 (X : Stand p l e R s m args below meth c T locs cells slots) (hx : p.tables.exec = Jvm.exec) {pc : Nat} {Ls : Array Slot} {z : Int32} {rest : List Value} (hret : meth.sig.returnType = some .int) (hd : decode c.code pc = .ok (.ireturn, 1)) {fs : List Frame}
    (hl : ∀ (f : JFrame) (acts : List Action), f.method = m → f.locked = none → f.entered = [] → (doReturn e (T.setTop f) acts (some (.int z))).1 = T.setFrames fs) : Steps p.tables e below (T.setTop (mkF m pc Ls (.int z :: rest))) (T.setFrames fs) :=
  retOut X hx hret rfl (Or.inl ⟨rfl, Or.inl rfl, z, rfl⟩) hd hl
theorem own_retI (X : Stand p l e R s m args below meth c T locs cells slots) (hx : p.tables.exec = Jvm.exec) (hlk : meth.locks = false) {pc : Nat} {Ls : Array Slot} {z : Int32} {rest : List Value} (hret : meth.sig.returnType = some .int) (hd : decode c.code pc = .ok (.ireturn, 1))
    {Q : Option Value → Heap → List Loc → Prop} {kc ks : Nat} (hc : cells ≤ kc) (hs : slots ≤ ks) (q : Q (some (.int z)) T.heap locs) : own_G p.tables e below (own_E s Q kc ks) (T.setTop (mkF m pc Ls (.int z :: rest))) := by
  obtain ⟨fs, hr, hrun, hended, hW, hsame⟩ := X.leave (v := some (.int z)) (fun h => by rw [hret] at h; cases h)
  exact ⟨_, _, own_retI0 X hx hret hd hr, hrun, hended, _, _, rfl, q, ⟨_, rfl⟩, hW, hsame.mono hc hs⟩
theorem own_retN (X : Stand p l e R s m args below meth c T locs cells slots) (hx : p.tables.exec = Jvm.exec) (hlk : meth.locks = false) {pc : Nat} {Ls : Array Slot} {z : Int32} {t : FieldType} {rest : List Value} (hret : meth.sig.returnType = some t) (ht : t = .boolean ∨ t = .byte ∨ t = .char ∨ t = .short) (hd : decode c.code pc = .ok (.ireturn, 1))
    {Q : Option Value → Heap → List Loc → Prop} {kc ks : Nat} (hc : cells ≤ kc) (hs : slots ≤ ks) {v' : Int32} (hv : nar t z = v') (q : Q (some (.int v')) T.heap locs) : own_G p.tables e below (own_E s Q kc ks) (T.setTop (mkF m pc Ls (.int z :: rest))) := by
  subst hv
  obtain ⟨fs, hr, hrun, hended, hW, hsame⟩ := X.leave (v := some (.int (nar t z))) (fun h => by rw [hret] at h; cases h)
  exact ⟨_, _, retN X hx hret ht hd hr, hrun, hended, _, _, rfl, q, ⟨_, rfl⟩, hW, hsame.mono hc hs⟩
theorem own_retA (X : Stand p l e R s m args below meth c T locs cells slots) (hx : p.tables.exec = Jvm.exec) (hlk : meth.locks = false) {pc : Nat} {Ls : Array Slot} {w : Value} {t : FieldType} {rest : List Value} (hret : meth.sig.returnType = some t) (ht : t.isReference = true) (hw : w.isRef = true) (hd : decode c.code pc = .ok (.areturn, 1))
    {Q : Option Value → Heap → List Loc → Prop} {kc ks : Nat} (hc : cells ≤ kc) (hs : slots ≤ ks) (q : Q (some w) T.heap locs) : own_G p.tables e below (own_E s Q kc ks) (T.setTop (mkF m pc Ls (w :: rest))) := by
  obtain ⟨fs, hr, hrun, hended, hW, hsame⟩ := X.leave (v := some w) (fun h => by rw [hret] at h; cases h)
  have hn : narrow t w = w := by rcases ref_cases hw with rfl | ⟨a, rfl⟩ <;> cases t <;> rfl
  exact ⟨_, _, retOut X hx hret hn (Or.inr (Or.inr (Or.inr (Or.inr ⟨rfl, ht, hw⟩)))) hd hr, hrun, hended, _, _, rfl, q, ⟨_, rfl⟩, hW, hsame.mono hc hs⟩
theorem own_retJ (X : Stand p l e R s m args below meth c T locs cells slots) (hx : p.tables.exec = Jvm.exec) (hlk : meth.locks = false) {pc : Nat} {Ls : Array Slot} {z : Int64} {rest : List Value} (hret : meth.sig.returnType = some .long) (hd : decode c.code pc = .ok (.lreturn, 1))
    {Q : Option Value → Heap → List Loc → Prop} {kc ks : Nat} (hc : cells ≤ kc) (hs : slots ≤ ks) (q : Q (some (.long z)) T.heap locs) : own_G p.tables e below (own_E s Q kc ks) (T.setTop (mkF m pc Ls (.long z :: rest))) := by
  obtain ⟨fs, hr, hrun, hended, hW, hsame⟩ := X.leave (v := some (.long z)) (fun h => by rw [hret] at h; cases h)
  exact ⟨_, _, retOut X hx hret rfl (Or.inr (Or.inl ⟨rfl, rfl, z, rfl⟩)) hd hr, hrun, hended, _, _, rfl, q, ⟨_, rfl⟩, hW, hsame.mono hc hs⟩
theorem own_retV (X : Stand p l e R s m args below meth c T locs cells slots) (hx : p.tables.exec = Jvm.exec) (hlk : meth.locks = false) {pc : Nat} {Ls : Array Slot} (hret : meth.sig.returnType = none) (hd : decode c.code pc = .ok (.return_, 1))
    {Q : Option Value → Heap → List Loc → Prop} {kc ks : Nat} (hc : cells ≤ kc) (hs : slots ≤ ks) (q : Q none T.heap locs) : own_G p.tables e below (own_E s Q kc ks) (T.setTop (mkF m pc Ls [])) := by
  obtain ⟨fs, hr, hrun, hended, hW, hsame⟩ := X.leave (v := none) (fun _ => rfl)
  exact ⟨_, _, X.returnOut hx hret hd hr, hrun, hended, _, _, rfl, q, ⟨_, rfl⟩, hW, hsame.mono hc hs⟩
-- @WIDE
def own_EW (s : State) (Q : Option Value → Heap → List Loc → Prop) (kc ks : Nat) : State → Outcome → Prop := fun t o => ∃ v L, o = .returned v ∧ Q v t.heap L ∧ ReturnedEndW s o t L kc ks
theorem own_le {h : Heap} (e : T.heap = h) {k : Nat} (q : k ≤ h.size) : k ≤ T.heap.size := by rw [e]; exact q
theorem own_inW {s₁ : State} (kc ks : Nat) (Q : Option Value → Heap → List Loc → Prop) {mL : Nat} {g : JFrame} (ef : entryFrame m args mL = g) (k : own_G p.tables e below (own_EW s Q kc ks) (s₁.setTop g)) :
    ∃ s₂ o, Steps p.tables e below (s₁.setTop (entryFrame m args mL)) s₂ ∧ s₂.status = .running ∧ Ended s₂ below o ∧ ∃ v L, o = .returned v ∧ Q v s₂.heap L ∧ ReturnedEndW s o s₂ L kc ks := by
  rw [ef]
  exact k
theorem own_wide {s t : State} {o : Outcome} {L : List Loc} {k n k' n' : Nat} (h : ReturnedEndW s o t L k n) (hk : k ≤ k') (hn : n ≤ n') : ReturnedEndW s o t L k' n' := ⟨h.1, h.2.1, h.2.2.1, h.2.2.2.mono hk hn⟩
theorem own_retIW {vm0 : Vm} {k0 : Nat} (hS : s.Since vm0 k0) (hk : k0 ≤ T.heap.size) (X : Stand p l e R (s.setVm vm0) m args below meth c T locs cells slots) (hx : p.tables.exec = Jvm.exec) (hlk : meth.locks = false) {pc : Nat} {Ls : Array Slot} {z : Int32} {rest : List Value} (hret : meth.sig.returnType = some .int) (hd : decode c.code pc = .ok (.ireturn, 1))
    {Q : Option Value → Heap → List Loc → Prop} {kc ks : Nat} (hc : cells ≤ kc) (hs : slots ≤ ks) (q : Q (some (.int z)) T.heap locs) : own_G p.tables e below (own_EW s Q kc ks) (T.setTop (mkF m pc Ls (.int z :: rest))) := by
  obtain ⟨fs, hr, hrun, hended, hW⟩ := X.leaveW hS hk (v := some (.int z)) (fun h => by rw [hret] at h; cases h)
  exact ⟨_, _, own_retI0 X hx hret hd hr, hrun, hended, _, _, rfl, q, own_wide hW hc hs⟩
theorem own_retNW {vm0 : Vm} {k0 : Nat} (hS : s.Since vm0 k0) (hk : k0 ≤ T.heap.size) (X : Stand p l e R (s.setVm vm0) m args below meth c T locs cells slots) (hx : p.tables.exec = Jvm.exec) (hlk : meth.locks = false) {pc : Nat} {Ls : Array Slot} {z : Int32} {t : FieldType} {rest : List Value} (hret : meth.sig.returnType = some t) (ht : t = .boolean ∨ t = .byte ∨ t = .char ∨ t = .short) (hd : decode c.code pc = .ok (.ireturn, 1))
    {Q : Option Value → Heap → List Loc → Prop} {kc ks : Nat} (hc : cells ≤ kc) (hs : slots ≤ ks) {v' : Int32} (hv : nar t z = v') (q : Q (some (.int v')) T.heap locs) : own_G p.tables e below (own_EW s Q kc ks) (T.setTop (mkF m pc Ls (.int z :: rest))) := by
  subst hv
  obtain ⟨fs, hr, hrun, hended, hW⟩ := X.leaveW hS hk (v := some (.int (nar t z))) (fun h => by rw [hret] at h; cases h)
  exact ⟨_, _, retN X hx hret ht hd hr, hrun, hended, _, _, rfl, q, own_wide hW hc hs⟩
theorem own_retAW {vm0 : Vm} {k0 : Nat} (hS : s.Since vm0 k0) (hk : k0 ≤ T.heap.size) (X : Stand p l e R (s.setVm vm0) m args below meth c T locs cells slots) (hx : p.tables.exec = Jvm.exec) (hlk : meth.locks = false) {pc : Nat} {Ls : Array Slot} {w : Value} {t : FieldType} {rest : List Value} (hret : meth.sig.returnType = some t) (ht : t.isReference = true) (hw : w.isRef = true) (hd : decode c.code pc = .ok (.areturn, 1))
    {Q : Option Value → Heap → List Loc → Prop} {kc ks : Nat} (hc : cells ≤ kc) (hs : slots ≤ ks) (q : Q (some w) T.heap locs) : own_G p.tables e below (own_EW s Q kc ks) (T.setTop (mkF m pc Ls (w :: rest))) := by
  obtain ⟨fs, hr, hrun, hended, hW⟩ := X.leaveW hS hk (v := some w) (fun h => by rw [hret] at h; cases h)
  have hn : narrow t w = w := by rcases ref_cases hw with rfl | ⟨a, rfl⟩ <;> cases t <;> rfl
  exact ⟨_, _, retOut X hx hret hn (Or.inr (Or.inr (Or.inr (Or.inr ⟨rfl, ht, hw⟩)))) hd hr, hrun, hended, _, _, rfl, q, own_wide hW hc hs⟩
theorem own_retVW {vm0 : Vm} {k0 : Nat} (hS : s.Since vm0 k0) (hk : k0 ≤ T.heap.size) (X : Stand p l e R (s.setVm vm0) m args below meth c T locs cells slots) (hx : p.tables.exec = Jvm.exec) (hlk : meth.locks = false) {pc : Nat} {Ls : Array Slot}  (hret : meth.sig.returnType = none) (hd : decode c.code pc = .ok (.return_, 1))
    {Q : Option Value → Heap → List Loc → Prop} {kc ks : Nat} (hc : cells ≤ kc) (hs : slots ≤ ks) (q : Q none T.heap locs) : own_G p.tables e below (own_EW s Q kc ks) (T.setTop (mkF m pc Ls [])) := by
  obtain ⟨fs, hr, hrun, hended, hW⟩ := X.leaveW hS hk (v := none) (fun _ => rfl)
  exact ⟨_, _, X.returnOut hx hret hd hr, hrun, hended, _, _, rfl, q, own_wide hW hc hs⟩
-- @END
end OwnKit
theorem own_w {a0 : Array Value} {Z : State} (hw : ∀ d ∈ tables_1, d.before a0 Z = true) (i : Nat) {d : Jvm.Cond} (h : tables_1[i]? = some d) : d.before a0 Z = true := hw d (List.mem_of_getElem? h)
theorem own_cat {v : Value} (h : v.isRef = true) : v.category = 1 := by cases v <;> first | rfl | (simp [Value.isRef] at h)
theorem own_i32 {a b : Int32} (h : a.toInt = b.toInt) : a = b := Int32.toInt_inj.mp h
theorem own_i64 {a b : Int64} (h : a.toInt = b.toInt) : a = b := Int64.toInt_inj.mp h
/-- (x & 0x7fffffff) % d lies from 0 to d - 1 -/
theorem own_mod (x y : Int32) (d : Int) (hy : y.toInt = d) (hd : 0 < d) : 0 ≤ ((x &&& 2147483647) % y).toInt ∧ ((x &&& 2147483647) % y).toInt < d ∧ ((x &&& 2147483647) % y).toInt = (x.toInt % 2147483648) % d := by
  have h1 := c_mask x 2147483647 31 (by decide) (by decide)
  have h2 := (c_irem (x &&& 2147483647) y d hy).1 (by rw [h1]; omega)
  rw [h2, h1]
  refine ⟨Int.emod_nonneg _ (by omega), Int.emod_lt_of_pos _ hd, rfl⟩
abbrev vi (x : Int32) : Slot := .val (.int x)
abbrev vr (x : Addr) : Slot := .val (.ref x)
abbrev gs {tb : Tables} {e : Env} {below : List Frame} {Φ : State → Outcome → Prop} (T : State) (m : MethodId) (pc : Nat) (L : Array Slot) (S : List Value) : Prop := own_G tb e below Φ (T.setTop (mkF m pc L S))
abbrev own_M (l : Launch) (y : MethodName) (code : ByteArray) (ml : Nat) (rt : Option FieldType) (ws : List Jvm.Cond) (R : Room) (Z : State) (A : Array Value) (h0 : Heap) (Q : Option Value → Heap → List Loc → Prop) : Prop :=
  MetFree l y (head1 (Jvm.Cond.code y code ml rt :: ws) R) (fun a U => a = A ∧ Z.Warmed39 U.vm ∧ U.heap = h0) (fun _ _ _ _ _ => True) (fun _ U o U' => ∃ v L, o = .returned v ∧ Q v U'.heap L ∧ FrameEnd U o U' L R.cells R.slots)
theorem own_go {l : Launch} {y : MethodName} {code : ByteArray} {ml : Nat} {rt : Option FieldType} {ws : List Jvm.Cond} {R : Room} {Z : State} {A : Array Value} {h0 : Heap} {Q : Option Value → Heap → List Loc → Prop} (own : String) (ho : y.cls = own) (hp : plainFor y = true) {L : Array Slot} (hef : ∀ m, entryFrame m A ml = mkF m 0 L [])
    (H : ∀ (p : Program) (e : Env) (s : State) (m : MethodId) (below : List Frame) (meth : Method) (c : Code) (s₁ : State), p.tables.exec = Jvm.exec → c.code = code → c.maxLocals = ml → s.vm.findClass own = some m.cls → meth.name = y.name → meth.locks = false → meth.sig.returnType = rt → Z.Warmed39 s.vm → Stand p l e R s m A below meth c s₁ [] 0 0 → s₁.heap = h0 → own_G p.tables e below (own_E s Q R.cells R.slots) (s₁.setTop (mkF m 0 L []))) :
    own_M l y code ml rt ws R Z A h0 Q := by
  refine MetFree.of_bodySF hp hisR ?_
  intro p e s m args below meth c s₁ Bd hml0 hP hK
  obtain ⟨rfl, hZ, hh⟩ := hP
  subst ho
  exact own_in _ _ _ (hef m) (H p e s m below meth c s₁ Bd.exec Bd.bytes hml0 (findClass_of_methodNamed Bd.named) (name_of_methodNamed Bd.named Bd.method).1 Bd.notSynchronized Bd.returns hZ (Stand.of_body Bd) (by rw [← hh, Bd.state]; rfl))
section OwnOps
variable {p : Program} {l : Launch} {e : Env} {R : Room} {s : State} {m : MethodId} {args : Array Value} {below : List Frame} {meth : Method} {c : Code} {T : State} {locs : List Loc} {cells slots : Nat} {Φ : State → Outcome → Prop} {B : ByteArray} {pc : Nat} {L : Array Slot} {S : List Value}
theorem oaloadN (X : Stand p l e R s m args below meth c T locs cells slots) (hx : p.tables.exec = Jvm.exec) (hby : c.code = B) {k : Fin 4} {v : Value} (hd : decode B pc = .ok (.aload_n k, 1)) (hl : L[k.val]? = some (.val v)) (hv : v.isRef = true) (G : gs (tb := p.tables) (e := e) (below := below) (Φ := Φ) T m (pc + 1) L (v :: S)) : gs (tb := p.tables) (e := e) (below := below) (Φ := Φ) T m pc L S := own_st (fun _ kS => XS.aloadN X.here hx rfl (hb hby hd) hl hv kS) G
theorem oiloadN (X : Stand p l e R s m args below meth c T locs cells slots) (hx : p.tables.exec = Jvm.exec) (hby : c.code = B) {k : Fin 4} {v : Int32} (hd : decode B pc = .ok (.iload_n k, 1)) (hl : L[k.val]? = some (.val (.int v))) (G : gs (tb := p.tables) (e := e) (below := below) (Φ := Φ) T m (pc + 1) L (.int v :: S)) : gs (tb := p.tables) (e := e) (below := below) (Φ := Φ) T m pc L S := own_st (fun _ kS => XS.iloadN X.here hx rfl (hb hby hd) hl kS) G
theorem oaload (X : Stand p l e R s m args below meth c T locs cells slots) (hx : p.tables.exec = Jvm.exec) (hby : c.code = B) {k : Nat} {v : Value} (hd : decode B pc = .ok (.aload k, 2)) (hl : L[k]? = some (.val v)) (hv : v.isRef = true) (G : gs (tb := p.tables) (e := e) (below := below) (Φ := Φ) T m (pc + 2) L (v :: S)) : gs (tb := p.tables) (e := e) (below := below) (Φ := Φ) T m pc L S := own_st (fun _ kS => XS.aload X.here hx rfl (hb hby hd) hl hv kS) G
theorem oiload (X : Stand p l e R s m args below meth c T locs cells slots) (hx : p.tables.exec = Jvm.exec) (hby : c.code = B) {k : Nat} {v : Int32} (hd : decode B pc = .ok (.iload k, 2)) (hl : L[k]? = some (.val (.int v))) (G : gs (tb := p.tables) (e := e) (below := below) (Φ := Φ) T m (pc + 2) L (.int v :: S)) : gs (tb := p.tables) (e := e) (below := below) (Φ := Φ) T m pc L S := own_st (fun _ kS => XS.iload X.here hx rfl (hb hby hd) hl kS) G
theorem oiconst (X : Stand p l e R s m args below meth c T locs cells slots) (hx : p.tables.exec = Jvm.exec) (hby : c.code = B) {i : Int} (hd : decode B pc = .ok (.iconst i, 1))  (G : gs (tb := p.tables) (e := e) (below := below) (Φ := Φ) T m (pc + 1) L (.int (Int32.ofInt i) :: S)) : gs (tb := p.tables) (e := e) (below := below) (Φ := Φ) T m pc L S := own_st (fun _ kS => XS.iconst X.here hx rfl (hb hby hd)  kS) G
theorem oV {y : MethodName} {own C : String} {index : Nat} (W : Nat) {bytes : ByteArray} {maxL : Nat} {ret : Option FieldType} {rm : Room} {b : Addr} {argsL rest : List Value} {h : Heap} {Q : Option Value → Heap → List Loc → Prop} {ps : List FieldType} {r : Option FieldType} {Z : State} {a0 : Array Value}
    (X : Stand p l e R s m args below meth c T locs cells slots) (hx : p.tables.exec = Jvm.exec) (hZ : Z.Warmed39 s.vm) (hby : c.code = B) (hml : c.maxLocals = L.size) (hown : s.vm.findClass own = some m.cls)
    (w1 : (Cond.methodLink own index y).before a0 Z = true) (w2 : (Cond.declares y).before a0 Z = true) (w3 : (Cond.selects C y y).before a0 Z = true) (w4 : (Cond.instanceMethod y).before a0 Z = true)
    (hM : own_M l y bytes maxL ret [] rm Z (.ref b :: argsL).toArray h Q) (wc : (Cond.code y bytes maxL ret).before a0 Z = true) (wz : (Cond.initialized y.cls).before a0 Z = true) (eT : T.heap = h) (hE : Exa Z h b C)
    (hn : (y.cls ≠ "java/lang/invoke/MethodHandle" ∧ y.cls ≠ "java/lang/invoke/VarHandle") ∧ rm.frames + 1 ≤ R.frames ∧ W + (maxL + 11) + rm.locals ≤ R.locals ∧ cells + rm.cells ≤ R.cells ∧ slots + rm.slots ≤ R.slots)
    (pd : parseMethodDescriptor y.desc = some ⟨ps, r⟩) (hd : decode B pc = .ok (.invokevirtual index, 3)) (hl : argsL.length = ps.length) (hs : S = argsL.reverse ++ .ref b :: rest) (hW : (rest.map fun v => v.category).sum = W)
    (K : ∀ (T' : State) (L' : List Loc) (v : Option Value), Stand p l e R s m args below meth c T' (locs ++ L') (cells + rm.cells) (slots + rm.slots) → Q v T'.heap L' → own_G p.tables e below Φ (T'.setTop (mkF m (pc + 3) L (v.toList ++ rest)))) :
    gs (tb := p.tables) (e := e) (below := below) (Φ := Φ) T m pc L S := by
  subst hs
  obtain ⟨cq, kq, qa, qb, qc⟩ := isOf hZ eT hE
  obtain ⟨v, _, ⟨T', L', k', n'⟩, -, X', ⟨Lc, hQ, hl', hy', hz'⟩, st⟩ := X.virtualBack hx hown (mvT hZ w1) (mvT hZ w2) (notFace_of_selects (args := #[]) (mvT hZ w3)) (mvT hZ w3) (mvT hZ w4) hn.1 (backOf (W := W) hM hZ wc wz hn.2.1 hn.2.2.1) qa qc (g := mkF m pc L (argsL.reverse ++ .ref b :: rest)) rfl hml.symm (Steps.refl _) (argsL := argsL) (rest := rest) (lenOf pd hl) rfl (by show 2 * 0 + _ ≤ _; omega) (hb hby hd) (fun _ _ => ⟨rfl, eT, hn.2.2.2.1, hn.2.2.2.2⟩)
  dsimp only [Pt.U, Pt.locs, Pt.cells, Pt.slots] at X' hl' hy' hz' st hQ
  subst hl' hy' hz'
  exact own_tr st (K T' Lc v X' hQ)
theorem oN {y : MethodName} {own : String} {index : Nat} (W : Nat) {bytes : ByteArray} {maxL : Nat} {rm : Room} {b : Addr} {argsL rest : List Value} {h : Heap} {Q : Option Value → Heap → List Loc → Prop} {ps : List FieldType} {r : Option FieldType} {Z : State} {a0 : Array Value}
    (X : Stand p l e R s m args below meth c T locs cells slots) (hx : p.tables.exec = Jvm.exec) (hZ : Z.Warmed39 s.vm) (hby : c.code = B) (hml : c.maxLocals = L.size) (hown : s.vm.findClass own = some m.cls)
    (w1 : (Cond.methodLink own index y).before a0 Z = true) (w4 : (Cond.instanceMethod y).before a0 Z = true) (wz : (Cond.initialized y.cls).before a0 Z = true) (wc : (Cond.code y bytes maxL none).before a0 Z = true)
    (hM : own_M l y bytes maxL none [] rm Z (.ref b :: argsL).toArray h Q) (eT : T.heap = h) (hy1 : y.name = "<init>")
    (hn : (y.cls ≠ "java/lang/invoke/MethodHandle" ∧ y.cls ≠ "java/lang/invoke/VarHandle") ∧ rm.frames + 1 ≤ R.frames ∧ W + (maxL + 11) + rm.locals ≤ R.locals ∧ cells + rm.cells ≤ R.cells ∧ slots + rm.slots ≤ R.slots)
    (pd : parseMethodDescriptor y.desc = some ⟨ps, r⟩) (hd : decode B pc = .ok (.invokespecial index, 3)) (hl : argsL.length = ps.length) (hs : S = argsL.reverse ++ .ref b :: rest) (hW : (rest.map fun v => v.category).sum = W)
    (K : ∀ (T' : State) (L' : List Loc) (v : Option Value), Stand p l e R s m args below meth c T' (locs ++ L') (cells + rm.cells) (slots + rm.slots) → Q v T'.heap L' → own_G p.tables e below Φ (T'.setTop (mkF m (pc + 3) L (v.toList ++ rest)))) :
    gs (tb := p.tables) (e := e) (below := below) (Φ := Φ) T m pc L S := by
  subst hs
  obtain ⟨v, _, ⟨T', L', k', n'⟩, -, X', ⟨Lc, hQ, hl', hy', hz'⟩, st⟩ := X.specialBack hx hy1 hown (mvT hZ w1) (mvT hZ w4) (mvT hZ wc) hn.1 (backOf (W := W) hM hZ wc wz hn.2.1 hn.2.2.1) (g := mkF m pc L (argsL.reverse ++ .ref b :: rest)) rfl hml.symm (Steps.refl _) (a := b) (argsL := argsL) (rest := rest) (lenOf pd hl) rfl (by show 2 * 0 + _ ≤ _; omega) (hb hby hd) (fun _ _ => ⟨rfl, eT, hn.2.2.2.1, hn.2.2.2.2⟩)
  dsimp only [Pt.U, Pt.locs, Pt.cells, Pt.slots] at X' hl' hy' hz' st hQ
  subst hl' hy' hz'
  exact own_tr st (K T' Lc v X' hQ)
theorem oS {y : MethodName} {own : String} {index : Nat} (W : Nat) {bytes : ByteArray} {maxL : Nat} {ret : Option FieldType} {rm : Room} {argsL rest : List Value} {h : Heap} {Q : Option Value → Heap → List Loc → Prop} {ps : List FieldType} {r : Option FieldType} {Z : State} {a0 : Array Value}
    (X : Stand p l e R s m args below meth c T locs cells slots) (hx : p.tables.exec = Jvm.exec) (hZ : Z.Warmed39 s.vm) (hby : c.code = B) (hml : c.maxLocals = L.size) (hown : s.vm.findClass own = some m.cls)
    (w1 : (Cond.methodLink own index y).before a0 Z = true) (w2 : (Cond.static y).before a0 Z = true) (wz : (Cond.initialized y.cls).before a0 Z = true) (wc : (Cond.code y bytes maxL ret).before a0 Z = true)
    (hM : own_M l y bytes maxL ret [] rm Z argsL.toArray h Q) (eT : T.heap = h)
    (hn : (y.cls ≠ "java/lang/invoke/MethodHandle" ∧ y.cls ≠ "java/lang/invoke/VarHandle") ∧ rm.frames + 1 ≤ R.frames ∧ W + (maxL + 11) + rm.locals ≤ R.locals ∧ cells + rm.cells ≤ R.cells ∧ slots + rm.slots ≤ R.slots)
    (pd : parseMethodDescriptor y.desc = some ⟨ps, r⟩) (hd : decode B pc = .ok (.invokestatic index, 3)) (hl : argsL.length = ps.length) (hs : S = argsL.reverse ++ rest) (hW : (rest.map fun v => v.category).sum = W)
    (K : ∀ (T' : State) (L' : List Loc) (v : Option Value), Stand p l e R s m args below meth c T' (locs ++ L') (cells + rm.cells) (slots + rm.slots) → Q v T'.heap L' → own_G p.tables e below Φ (T'.setTop (mkF m (pc + 3) L (v.toList ++ rest)))) :
    gs (tb := p.tables) (e := e) (below := below) (Φ := Φ) T m pc L S := by
  subst hs
  obtain ⟨v, _, ⟨T', L', k', n'⟩, -, X', ⟨Lc, hQ, hl', hy', hz'⟩, st⟩ := Jvm.LawKit.callS X hx hown (mvT hZ w1) (mvT hZ w2) (mvT hZ wz) (mvT hZ wc) hn.1 (backOf (W := W) hM hZ wc wz hn.2.1 hn.2.2.1) (g := mkF m pc L (argsL.reverse ++ rest)) rfl hml.symm (argsL := argsL) (rest := rest) (lenOf pd hl) rfl (by show 2 * 0 + _ ≤ _; omega) (hb hby hd) (fun _ _ => ⟨rfl, eT, hn.2.2.2.1, hn.2.2.2.2⟩)
  dsimp only [Pt.U, Pt.locs, Pt.cells, Pt.slots] at X' hl' hy' hz' st hQ
  subst hl' hy' hz'
  exact own_st st (K T' Lc v X' hQ)
end OwnOps
abbrev EL0 : List (String × Nat) := [("java/lang/String", 7)]
theorem own_mem : ("java/lang/String", 7) ∈ EL0 := List.mem_cons_self
theorem own_ELw {a0 : Array Value} {Z : State} (hw : ∀ d ∈ tables_1, d.before a0 Z = true) : EW Z a0 EL0 := EW.cons (text := "") (own_w hw 81 rfl) (by simp) EW.nil
section OwnHeld
open Bundle Jvm.Free.SB Jvm.Free.SBG
/-- a String whose value field is null is no booked String, nor one's array -/
theorem own_safe0 {Z : State} {EL : List (String × Nat)} {vm : Vm} {h : Heap} {x : Addr} (hal : Z.vm.Alike vm) (E : Exa Z h x "java/lang/String") (F : Fld Z h x "java/lang/String" "value" "[B" .null) : Safe Z EL vm h x := fun B => by
  obtain ⟨cell, k, e1, e2, e3, -, -⟩ := E
  obtain ⟨cellF, cf, kF, i, f, f1, f2, -, -, -, -, f7⟩ := F
  cases f1.symm.trans e1
  obtain ⟨p, -, u, a, -, q, -, S, rfl | rfl⟩ := B
  · cases (show h[q.sa]? = some q.sC from S.ha).symm.trans e1
    obtain ⟨cS, ⟨⟨-, -, -, ⟨c1, k1, i1, g1, -⟩, -, -, -, v1, -⟩, -⟩, -⟩ := S
    obtain ⟨k3, g3, -⟩ := State.fieldFound?_setVm (s := ({ Z with heap := h } : State)) hal f2
    have e4 := (show (Wst Z vm h).fieldFound? _ _ _ = _ from g3).symm.trans g1
    simp only [Option.some.injEq, Prod.mk.injEq] at e4
    rw [e4.2.2.2, v1] at f7
    simp at f7
  · cases (show h[q.sd]? = some q.SA from S.hd).symm.trans e1
    obtain ⟨cS, -, -, g, -⟩ := S
    have g' : vm.findClass "[B" = some q.SA.cls := g
    rw [hal.findClass] at g'
    obtain ⟨k1, q1, q2⟩ := Vm.findClass_spec g'
    obtain ⟨k2, q3, q4⟩ := Vm.findClass_spec e2
    cases q1.symm.trans q3
    exact absurd (q2.symm.trans q4) (by decide)
theorem own_ht0 : (∀ c ∈ "".toList, c.toNat < 256) ∧ "".toList.map (fun c => Value.int (Jvm.Lit.byteI c.toNat.toUInt16)) = [] := ⟨by simp, by simp⟩
variable {p : Program} {l : Launch} {e : Env} {R : Room} {s : State} {m : MethodId} {args : Array Value} {below : List Frame} {meth : Method} {c : Code} {T : State} {locs : List Loc} {cells slots : Nat} {Z : State} {EL : List (String × Nat)} {a0 : Array Value}
def own_EH (Z : State) (EL : List (String × Nat)) (s : State) (Q : Option Value → Heap → List Loc → Prop) (kc ks : Nat) : State → Outcome → Prop := fun t o => ∃ v L, o = .returned v ∧ Q v t.heap L ∧ CHr Z EL s.vm s.heap t.vm t.heap ∧ ReturnedEndW s o t L kc ks
theorem own_inH {s₁ : State} (kc ks : Nat) (Q : Option Value → Heap → List Loc → Prop) {mL : Nat} {g : JFrame} (ef : entryFrame m args mL = g) (k : own_G p.tables e below (own_EH Z EL s Q kc ks) (s₁.setTop g)) :
    ∃ s₂ o, Steps p.tables e below (s₁.setTop (entryFrame m args mL)) s₂ ∧ s₂.status = .running ∧ Ended s₂ below o ∧ ∃ v L, o = .returned v ∧ Q v s₂.heap L ∧ CHr Z EL s.vm s.heap s₂.vm s₂.heap ∧ ReturnedEndW s o s₂ L kc ks := by
  rw [ef]
  exact k
theorem own_retVH {vm0 : Vm} {k0 : Nat} (hZ : Z.Warmed39 (s.setVm vm0).vm) (hEL : EW Z a0 EL) (CR : CHr Z EL s.vm s.heap vm0 T.heap) (hS : s.Since vm0 k0) (hk : k0 ≤ T.heap.size) (X : Stand p l e R (s.setVm vm0) m args below meth c T locs cells slots) (hx : p.tables.exec = Jvm.exec) (hlk : meth.locks = false) {pc : Nat} {Ls : Array Slot} (hret : meth.sig.returnType = none) (hd : decode c.code pc = .ok (.return_, 1))
    {Q : Option Value → Heap → List Loc → Prop} {kc ks : Nat} (hc : cells ≤ kc) (hs : slots ≤ ks) (q : Q none T.heap locs) : own_G p.tables e below (own_EH Z EL s Q kc ks) (T.setTop (mkF m pc Ls [])) := by
  obtain ⟨fs, hr, hrun, hended, hW⟩ := X.leaveW hS hk (v := none) (fun _ => rfl)
  exact ⟨_, _, X.returnOut hx hret hd hr, hrun, hended, _, _, rfl, q, (show CHr Z EL s.vm s.heap T.vm T.heap from CR.trans (CHv.at X hZ hEL CR.1)), own_wide hW hc hs⟩
theorem own_retAH {vm0 : Vm} {k0 : Nat} (hZ : Z.Warmed39 (s.setVm vm0).vm) (hEL : EW Z a0 EL) (CR : CHr Z EL s.vm s.heap vm0 T.heap) (hS : s.Since vm0 k0) (hk : k0 ≤ T.heap.size) (X : Stand p l e R (s.setVm vm0) m args below meth c T locs cells slots) (hx : p.tables.exec = Jvm.exec) (hlk : meth.locks = false) {pc : Nat} {Ls : Array Slot} {w : Value} {t : FieldType} {rest : List Value} (hret : meth.sig.returnType = some t) (ht : t.isReference = true) (hw : w.isRef = true) (hd : decode c.code pc = .ok (.areturn, 1))
    {Q : Option Value → Heap → List Loc → Prop} {kc ks : Nat} (hc : cells ≤ kc) (hs : slots ≤ ks) (q : Q (some w) T.heap locs) : own_G p.tables e below (own_EH Z EL s Q kc ks) (T.setTop (mkF m pc Ls (w :: rest))) := by
  obtain ⟨fs, hr, hrun, hended, hW⟩ := X.leaveW hS hk (v := some w) (fun h => by rw [hret] at h; cases h)
  have hn : narrow t w = w := by rcases ref_cases hw with rfl | ⟨a, rfl⟩ <;> cases t <;> rfl
  exact ⟨_, _, retOut X hx hret hn (Or.inr (Or.inr (Or.inr (Or.inr ⟨rfl, ht, hw⟩)))) hd hr, hrun, hended, _, _, rfl, q, (show CHr Z EL s.vm s.heap T.vm T.heap from CR.trans (CHv.at X hZ hEL CR.1)), own_wide hW hc hs⟩
end OwnHeld
def own_lat (y : Int32) : Int32 := nar .char ((y &&& (255 : Int32)).toUInt32.toUInt16.toUInt32.toInt32)
theorem own_nn (x : Int32) : nar .char (nar .char x) = nar .char x := by
  have h1 := c_i2c x
  have h2 := c_i2c (x.toUInt32.toUInt16.toUInt32.toInt32)
  refine own_i32 ?_
  show ((x.toUInt32.toUInt16.toUInt32.toInt32).toUInt32.toUInt16.toUInt32.toInt32).toInt = (x.toUInt32.toUInt16.toUInt32.toInt32).toInt
  omega
theorem own_nlat (y : Int32) : nar .char (own_lat y) = own_lat y := own_nn _
def own_at (w le p1 nB : Int32) (cB cC : Cell) : Prop := ¬ (p1 < nB) ∨ (p1 < nB ∧ ¬ p1 < 0 ∧ w ≠ 0 ∧ ((le = 1 ∧ (p1 % w) = (0 : Int32) ∧ (¬ (p1 / w) < 0 ∧ (p1 / w) < (4 : Int32)) ∧ (atv cB p1) = ((atv cC (p1 / w)).toInt8.toInt32)) ∨ (le = 1 ∧ ¬ ((p1 % w) = (0 : Int32)) ∧ (atv cB p1) = (0 : Int32)) ∨ (le = 0 ∧ (p1 % w) = (w - (1 : Int32)) ∧ (¬ (p1 / w) < 0 ∧ (p1 / w) < (4 : Int32)) ∧ (atv cB p1) = ((atv cC (p1 / w)).toInt8.toInt32)) ∨ (le = 0 ∧ ¬ ((p1 % w) = (w - (1 : Int32))) ∧ (atv cB p1) = (0 : Int32))))
theorem own_enc (c : Int32) : nar .byte ((own_lat (nar .byte (c.toInt8.toInt32))).toInt8.toInt32) = (c.toInt8.toInt32) := by
  have h1 := c_i2b c
  have h2 := c_i2b (c.toInt8.toInt32)
  have h3 : ((nar .byte (c.toInt8.toInt32)) &&& (255 : Int32)).toInt = (nar .byte (c.toInt8.toInt32)).toInt % 256 := c_mask _ 255 8 (by decide) (by decide)
  have e3 : (nar .byte (c.toInt8.toInt32)).toInt = ((c.toInt8.toInt32).toInt8.toInt32).toInt := rfl
  have h4 := c_i2c ((nar .byte (c.toInt8.toInt32)) &&& (255 : Int32))
  have h5 := c_i2c (((nar .byte (c.toInt8.toInt32)) &&& (255 : Int32)).toUInt32.toUInt16.toUInt32.toInt32)
  have e5 : (own_lat (nar .byte (c.toInt8.toInt32))).toInt = ((((nar .byte (c.toInt8.toInt32)) &&& (255 : Int32)).toUInt32.toUInt16.toUInt32.toInt32).toUInt32.toUInt16.toUInt32.toInt32).toInt := rfl
  have h6 := c_i2b (own_lat (nar .byte (c.toInt8.toInt32)))
  have h7 := c_i2b ((own_lat (nar .byte (c.toInt8.toInt32))).toInt8.toInt32)
  refine own_i32 ?_
  show (((own_lat (nar .byte (c.toInt8.toInt32))).toInt8.toInt32).toInt8.toInt32).toInt = _
  omega
theorem own_tab2 {Z : State} {h : Heap} {a : Addr} {k : ClassId} {ty : FieldType} {z : Int32} {vs : List Value} {d : Int32} (F : Arv Z h a k ty z vs (.int d)) (hv : ∀ i, ∃ x, vs.getD i (.int d) = .int x) : ∃ c, Tab Z h a c ty z ∧ ∀ (j : Int32) (x : Int32), j.toNatClampNeg < z.toNatClampNeg → vs.getD j.toNatClampNeg (.int d) = .int x → atv c j = x := by
  obtain ⟨c, A, -, S, M, H, -⟩ := F
  refine ⟨c, ⟨A, S, M, fun j hj => ?_⟩, fun j x hj e => ?_⟩
  · obtain ⟨x, hx⟩ := hv j.toNatClampNeg
    have e := (H j.toNatClampNeg (Nat.lt_of_not_le fun q => hj (Or.inr q))).trans (congrArg some hx)
    rw [atv_of e]
    exact e
  · exact atv_of ((H j.toNatClampNeg (by rw [S]; exact hj)).trans (congrArg some e))
theorem own_tabk {Z : State} {h h' : Heap} {a : Addr} {c : Cell} {ty : FieldType} {z : Int32} {ws : List Addr} (F : Tab Z h a c ty z) (K : Keep h h' ws) (q : a ∉ ws) : Tab Z h' a c ty z := ⟨⟨K.2.1 a c F.1.1 q, F.1.2⟩, F.2⟩
theorem own_c127 (x : Int32) : ¬ ((255 : Int32) < nar .char ((x &&& (127 : Int32)).toUInt32.toUInt16.toUInt32.toInt32)) := by
  have h1 := c_mask x 127 7 (by decide) (by decide)
  have h2 : (x &&& (127 : Int32)).toInt = x.toInt % 128 := h1
  have h3 := c_i2c (x &&& (127 : Int32))
  have h4 := c_i2c ((x &&& (127 : Int32)).toUInt32.toUInt16.toUInt32.toInt32)
  have e2 : (255 : Int32).toInt = 255 := by decide
  show ¬ (255 : Int32) < ((x &&& (127 : Int32)).toUInt32.toUInt16.toUInt32.toInt32).toUInt32.toUInt16.toUInt32.toInt32
  rw [Int32.lt_iff_toInt_lt, e2]
  omega
theorem own_mod6 (x : Int32) : (x &&& 2147483647) % 6 = (0 : Int32) ∨ (x &&& 2147483647) % 6 = (1 : Int32) ∨ (x &&& 2147483647) % 6 = (2 : Int32) ∨ (x &&& 2147483647) % 6 = (3 : Int32) ∨ (x &&& 2147483647) % 6 = (4 : Int32) ∨ (x &&& 2147483647) % 6 = (5 : Int32) := by
  have h := own_mod x 6 6 (by decide) (by decide)
  have : ((x &&& 2147483647) % 6).toInt = 0 ∨ ((x &&& 2147483647) % 6).toInt = 1 ∨ ((x &&& 2147483647) % 6).toInt = 2 ∨ ((x &&& 2147483647) % 6).toInt = 3 ∨ ((x &&& 2147483647) % 6).toInt = 4 ∨ ((x &&& 2147483647) % 6).toInt = 5 := by omega
  rcases this with h | h | h | h | h | h
  · exact Or.inl (own_i32 (h.trans (by decide)))
  · exact Or.inr (Or.inl (own_i32 (h.trans (by decide))))
  · exact Or.inr (Or.inr (Or.inl (own_i32 (h.trans (by decide)))))
  · exact Or.inr (Or.inr (Or.inr (Or.inl (own_i32 (h.trans (by decide))))))
  · exact Or.inr (Or.inr (Or.inr (Or.inr (Or.inl (own_i32 (h.trans (by decide)))))))
  · exact Or.inr (Or.inr (Or.inr (Or.inr (Or.inr (own_i32 (h.trans (by decide)))))))
theorem own_mod5 (x : Int32) : (x &&& 2147483647) % 5 = (0 : Int32) ∨ (x &&& 2147483647) % 5 = (1 : Int32) ∨ (x &&& 2147483647) % 5 = (2 : Int32) ∨ (x &&& 2147483647) % 5 = (3 : Int32) ∨ (x &&& 2147483647) % 5 = (4 : Int32) := by
  have h := own_mod x 5 5 (by decide) (by decide)
  have : ((x &&& 2147483647) % 5).toInt = 0 ∨ ((x &&& 2147483647) % 5).toInt = 1 ∨ ((x &&& 2147483647) % 5).toInt = 2 ∨ ((x &&& 2147483647) % 5).toInt = 3 ∨ ((x &&& 2147483647) % 5).toInt = 4 := by omega
  rcases this with h | h | h | h | h
  · exact Or.inl (own_i32 (h.trans (by decide)))
  · exact Or.inr (Or.inl (own_i32 (h.trans (by decide))))
  · exact Or.inr (Or.inr (Or.inl (own_i32 (h.trans (by decide)))))
  · exact Or.inr (Or.inr (Or.inr (Or.inl (own_i32 (h.trans (by decide))))))
  · exact Or.inr (Or.inr (Or.inr (Or.inr (own_i32 (h.trans (by decide))))))
set_option maxRecDepth 65536
set_option maxHeartbeats 40000000
abbrev rmk (f c s l : Nat) : Room := { frames := f, cells := c, slots := s, locals := l }
abbrev HW (a0 : Array Value) (Z : State) : Prop := ∀ d ∈ tables_1, d.before a0 Z = true
abbrev sk0 (Z : State) (h : Heap) (v : Value) : Prop := Sta Z h "java/lang/String" "COMPACT_STRINGS" "Z" v
abbrev sk1 (Z : State) (h : Heap) (v : Value) : Prop := Sta Z h "jdk/internal/util/Preconditions" "SIOOBE_FORMATTER" "Ljava/util/function/BiFunction;" v
abbrev sk2 (Z : State) (h : Heap) (v : Value) : Prop := Sta Z h "com/example/provenir/provenir/TextEncoding" "UTF_8" "Lcom/example/provenir/provenir/TextEncoding;" v
abbrev sk3 (Z : State) (h : Heap) (v : Value) : Prop := Sta Z h "com/example/provenir/provenir/TextEncoding" "UTF_32BE" "Lcom/example/provenir/provenir/TextEncoding;" v
abbrev sk4 (Z : State) (h : Heap) (v : Value) : Prop := Sta Z h "com/example/provenir/provenir/TextEncoding" "UTF_32LE" "Lcom/example/provenir/provenir/TextEncoding;" v
abbrev sk5 (Z : State) (h : Heap) (v : Value) : Prop := Sta Z h "com/example/provenir/provenir/TextEncoding" "UTF_16BE" "Lcom/example/provenir/provenir/TextEncoding;" v
abbrev sk6 (Z : State) (h : Heap) (v : Value) : Prop := Sta Z h "com/example/provenir/provenir/TextEncoding" "UTF_16LE" "Lcom/example/provenir/provenir/TextEncoding;" v
abbrev sk7 (Z : State) (h : Heap) (v : Value) : Prop := Sta Z h "com/example/provenir/provenir/TextEncoding" "UNMARKED" "Lcom/example/provenir/provenir/TextEncoding;" v
abbrev fk8 (Z : State) (h : Heap) (a : Addr) (v : Value) : Prop := Fld Z h a "java/lang/String" "coder" "B" v
abbrev fk9 (Z : State) (h : Heap) (a : Addr) (v : Value) : Prop := Fld Z h a "java/lang/String" "value" "[B" v
abbrev fk10 (Z : State) (h : Heap) (a : Addr) (v : Value) : Prop := Fld Z h a "com/example/provenir/provenir/TextEncoding" "width" "I" v
abbrev fk11 (Z : State) (h : Heap) (a : Addr) (v : Value) : Prop := Fld Z h a "com/example/provenir/provenir/TextEncoding" "littleEndian" "Z" v
abbrev ek12 (Z : State) (h : Heap) (a : Addr) : Prop := Exa Z h a "java/lang/String"
abbrev ek13 (Z : State) (h : Heap) (a : Addr) : Prop := Exa Z h a "com/example/provenir/provenir/TextEncoding"
abbrev dk (B : ByteArray) (pc : Nat) (i : Instr) (n : Nat) : Prop := decode B pc = .ok (i, n)
abbrev B0 : ByteArray := jdk_42_method_149_code
abbrev B1 : ByteArray := jdk_42_method_3_code
abbrev B2 : ByteArray := jdk_52_method_21_code
abbrev B3 : ByteArray := jdk_52_method_16_code
abbrev B4 : ByteArray := jdk_52_method_15_code
abbrev B5 : ByteArray := jdk_42_method_152_code
abbrev B6 : ByteArray := jdk_42_method_154_code
abbrev B7 : ByteArray := jdk_42_method_54_code
abbrev B8 : ByteArray := jdk_41_method_11_code
abbrev B9 : ByteArray := jdk_42_method_155_code
abbrev B10 : ByteArray := jdk_43_method_2_code
abbrev B11 : ByteArray := jdk_42_method_56_code
abbrev B12 : ByteArray := prog_73_method_9_code
abbrev B13 : ByteArray := method_3_code
abbrev M0 (l : Launch) (ws : List Jvm.Cond) (R : Room) (Z : State) (A : Array Value) (h0 : Heap) (Q : Option Value → Heap → List Loc → Prop) : Prop := own_M l (⟨"java/lang/StringUTF16", "compress", "([CI[BII)I"⟩ : MethodName) jdk_52_method_21_code 7 (some .int) ws R Z A h0 Q
abbrev M1 (l : Launch) (ws : List Jvm.Cond) (R : Room) (Z : State) (A : Array Value) (h0 : Heap) (Q : Option Value → Heap → List Loc → Prop) : Prop := own_M l (⟨"java/lang/StringUTF16", "compress", "([CII)[B"⟩ : MethodName) jdk_52_method_16_code 6 (some (.array .byte)) ws R Z A h0 Q
abbrev M2 (l : Launch) (ws : List Jvm.Cond) (R : Room) (Z : State) (A : Array Value) (h0 : Heap) (Q : Option Value → Heap → List Loc → Prop) : Prop := own_M l (⟨"java/lang/StringUTF16", "coderFromArrayLen", "([BI)B"⟩ : MethodName) jdk_52_method_15_code 2 (some .byte) ws R Z A h0 Q
abbrev M3 (l : Launch) (ws : List Jvm.Cond) (R : Room) (Z : State) (A : Array Value) (h0 : Heap) (Q : Option Value → Heap → List Loc → Prop) : Prop := own_M l (⟨"java/lang/String", "<init>", "([CIILjava/lang/Void;)V"⟩ : MethodName) jdk_42_method_149_code 6 none ws R Z A h0 Q
abbrev M4 (l : Launch) (ws : List Jvm.Cond) (R : Room) (Z : State) (A : Array Value) (h0 : Heap) (Q : Option Value → Heap → List Loc → Prop) : Prop := own_M l (⟨"java/lang/String", "<init>", "([C)V"⟩ : MethodName) jdk_42_method_3_code 2 none ws R Z A h0 Q
abbrev M5 (l : Launch) (ws : List Jvm.Cond) (R : Room) (Z : State) (A : Array Value) (h0 : Heap) (Q : Option Value → Heap → List Loc → Prop) : Prop := own_M l (⟨"java/lang/String", "coder", "()B"⟩ : MethodName) jdk_42_method_152_code 1 (some .byte) ws R Z A h0 Q
abbrev M6 (l : Launch) (ws : List Jvm.Cond) (R : Room) (Z : State) (A : Array Value) (h0 : Heap) (Q : Option Value → Heap → List Loc → Prop) : Prop := own_M l (⟨"java/lang/String", "isLatin1", "()Z"⟩ : MethodName) jdk_42_method_154_code 1 (some .boolean) ws R Z A h0 Q
abbrev M7 (l : Launch) (ws : List Jvm.Cond) (R : Room) (Z : State) (A : Array Value) (h0 : Heap) (Q : Option Value → Heap → List Loc → Prop) : Prop := own_M l (⟨"java/lang/String", "length", "()I"⟩ : MethodName) jdk_42_method_54_code 1 (some .int) ws R Z A h0 Q
abbrev M8 (l : Launch) (ws : List Jvm.Cond) (R : Room) (Z : State) (A : Array Value) (h0 : Heap) (Q : Option Value → Heap → List Loc → Prop) : Prop := own_M l (⟨"jdk/internal/util/Preconditions", "checkIndex", "(IILjava/util/function/BiFunction;)I"⟩ : MethodName) jdk_41_method_11_code 3 (some .int) ws R Z A h0 Q
abbrev M9 (l : Launch) (ws : List Jvm.Cond) (R : Room) (Z : State) (A : Array Value) (h0 : Heap) (Q : Option Value → Heap → List Loc → Prop) : Prop := own_M l (⟨"java/lang/String", "checkIndex", "(II)V"⟩ : MethodName) jdk_42_method_155_code 2 none ws R Z A h0 Q
abbrev M10 (l : Launch) (ws : List Jvm.Cond) (R : Room) (Z : State) (A : Array Value) (h0 : Heap) (Q : Option Value → Heap → List Loc → Prop) : Prop := own_M l (⟨"java/lang/StringLatin1", "charAt", "([BI)C"⟩ : MethodName) jdk_43_method_2_code 2 (some .char) ws R Z A h0 Q
abbrev M11 (l : Launch) (ws : List Jvm.Cond) (R : Room) (Z : State) (A : Array Value) (h0 : Heap) (Q : Option Value → Heap → List Loc → Prop) : Prop := own_M l (⟨"java/lang/String", "charAt", "(I)C"⟩ : MethodName) jdk_42_method_56_code 2 (some .char) ws R Z A h0 Q
abbrev M12 (l : Launch) (ws : List Jvm.Cond) (R : Room) (Z : State) (A : Array Value) (h0 : Heap) (Q : Option Value → Heap → List Loc → Prop) : Prop := own_M l (⟨"com/example/provenir/provenir/TextEncoding", "encode", "(Ljava/lang/String;)[B"⟩ : MethodName) prog_73_method_9_code 4 (some (.array .byte)) ws R Z A h0 Q
abbrev M13 (l : Launch) (ws : List Jvm.Cond) (R : Room) (Z : State) (A : Array Value) (h0 : Heap) (Q : Option Value → Heap → List Loc → Prop) : Prop := own_M l (⟨"com/example/provenir/provenir/TextEncodingEncodePinLaw", "at", "([BIIZ[C)Z"⟩ : MethodName) method_3_code 9 (some .boolean) ws R Z A h0 Q
theorem d2_0 : dk B0 0 (.aload_n 0) 1 := by decide +kernel
theorem d2_1 : dk B0 1 (.invokespecial 1) 3 := by decide +kernel
theorem d2_4 : dk B0 4 (.iload_n 3) 1 := by decide +kernel
theorem d2_5 : dk B0 5 (.ifCond .ne 22) 3 := by decide +kernel
theorem d2_8 : dk B0 8 (.aload_n 0) 1 := by decide +kernel
theorem d2_9 : dk B0 9 (.ldc 7) 2 := by decide +kernel
theorem d2_11 : dk B0 11 (.getfield 9) 3 := by decide +kernel
theorem d2_14 : dk B0 14 (.putfield 9) 3 := by decide +kernel
theorem d2_17 : dk B0 17 (.aload_n 0) 1 := by decide +kernel
theorem d2_18 : dk B0 18 (.ldc 7) 2 := by decide +kernel
theorem d2_20 : dk B0 20 (.getfield 15) 3 := by decide +kernel
theorem d2_23 : dk B0 23 (.putfield 15) 3 := by decide +kernel
theorem d2_26 : dk B0 26 (.return_) 1 := by decide +kernel
theorem d2_27 : dk B0 27 (.getstatic 38) 3 := by decide +kernel
theorem d2_30 : dk B0 30 (.ifCond .eq 28) 3 := by decide +kernel
theorem d2_33 : dk B0 33 (.aload_n 1) 1 := by decide +kernel
theorem d2_34 : dk B0 34 (.iload_n 2) 1 := by decide +kernel
theorem d2_35 : dk B0 35 (.iload_n 3) 1 := by decide +kernel
theorem d2_36 : dk B0 36 (.invokestatic 177) 3 := by decide +kernel
theorem d2_39 : dk B0 39 (.astore 5) 2 := by decide +kernel
theorem d2_41 : dk B0 41 (.aload_n 0) 1 := by decide +kernel
theorem d2_42 : dk B0 42 (.aload 5) 2 := by decide +kernel
theorem d2_44 : dk B0 44 (.iload_n 3) 1 := by decide +kernel
theorem d2_45 : dk B0 45 (.invokestatic 47) 3 := by decide +kernel
theorem d2_48 : dk B0 48 (.putfield 15) 3 := by decide +kernel
theorem d2_51 : dk B0 51 (.aload_n 0) 1 := by decide +kernel
theorem d2_52 : dk B0 52 (.aload 5) 2 := by decide +kernel
theorem d2_54 : dk B0 54 (.putfield 9) 3 := by decide +kernel
theorem d2_57 : dk B0 57 (.return_) 1 := by decide +kernel
theorem d2_58 : dk B0 58 (.aload_n 0) 1 := by decide +kernel
theorem d2_59 : dk B0 59 (.iconst 1) 1 := by decide +kernel
theorem d2_60 : dk B0 60 (.putfield 15) 3 := by decide +kernel
theorem d2_63 : dk B0 63 (.aload_n 0) 1 := by decide +kernel
theorem d2_64 : dk B0 64 (.aload_n 1) 1 := by decide +kernel
theorem d2_65 : dk B0 65 (.iload_n 2) 1 := by decide +kernel
theorem d2_66 : dk B0 66 (.iload_n 3) 1 := by decide +kernel
theorem d2_67 : dk B0 67 (.invokestatic 180) 3 := by decide +kernel
theorem d2_70 : dk B0 70 (.putfield 9) 3 := by decide +kernel
theorem d2_73 : dk B0 73 (.return_) 1 := by decide +kernel
theorem pn_2 : plainName "java/lang/String" = true := by first | (simp [plainName, overriddenIn]; done) | decide +kernel
theorem ef_init4_0 (m : MethodId) (x0 : Addr) (x1 : Addr) : entryFrame m #[(.ref x0), (.ref x1), (.int 0), (.int 0), .null] 6 = mkF m 0 #[.val (.ref x0), .val (.ref x1), .val (.int 0), .val (.int 0), .val .null, .unset] [] := by first | (simp [entryFrame, mkF, argsToLocals, Value.category]; done) | rfl
def Q_init4_0 (Z : State) (aS : Addr) (a2 : Addr) (h0 : Heap) (n0 : Nat) (v : Option Value) (h : Heap) (L : List Loc) : Prop := ∃ tN : Addr, ∃ kN : ClassId, v = none ∧ Fr n0 L ∧ Keep h0 h [aS] ∧ ek12 Z h aS ∧ fk8 Z h aS (.int 0) ∧ fk9 Z h aS (.ref tN) ∧ Arv Z h tN kN .byte (0 : Int32) [] (.int 0)
theorem rm_init4_0 (l : Launch) (Z : State) (a0 : Array Value) (hw : HW a0 Z) (ws : List Jvm.Cond) (aS : Addr) (a2 : Addr) (h0 : Heap) (n0 : Nat) (Z0 : n0 ≤ h0.size) (E_0 : ek12 Z h0 aS) (g_0 : n0 ≤ aS) (F0v : fk9 Z h0 aS .null) (F0c : fk8 Z h0 aS (.int 0)) :
    MetFree l (⟨"java/lang/String", "<init>", "([CIILjava/lang/Void;)V"⟩ : MethodName) (head1 (Jvm.Cond.code (⟨"java/lang/String", "<init>", "([CIILjava/lang/Void;)V"⟩ : MethodName) jdk_42_method_149_code 6 none :: ws) (rmk 1 2 4 12)) (fun a U => a = #[(.ref aS), (.ref a2), (.int 0), (.int 0), .null] ∧ Z.Warmed39 U.vm ∧ U.heap = h0 ∧ CHv Z EL0 U.vm h0) (fun _ _ _ _ _ => True) (fun _ U o U' => ∃ v L, o = .returned v ∧ Q_init4_0 Z aS a2 h0 n0 v U'.heap L ∧ CHr Z EL0 U.vm U.heap U'.vm U'.heap ∧ ReturnedEndW U o U' L (rmk 1 2 4 12).cells (rmk 1 2 4 12).slots) := by
  refine MetFree.of_bodySF (plainFor_of_name pn_2) hisR ?_
  intro p e s m args below meth c s₁ Bd hml0 hP hK
  obtain ⟨rfl, hZ, hh, hCH⟩ := hP
  have hx := Bd.exec
  have hby := Bd.bytes
  have hml : c.maxLocals = 6 := hml0
  have hown : s.vm.findClass "java/lang/String" = some m.cls := findClass_of_methodNamed Bd.named
  have hnm := (name_of_methodNamed Bd.named Bd.method).1
  have hlk := Bd.notSynchronized
  have hret := Bd.returns
  have X0 : Stand p l e (rmk 1 2 4 12) (s.setVm s.vm) m #[(.ref aS), (.ref a2), (.int 0), (.int 0), .null] below meth c s₁ [] 0 0 := Stand.of_body Bd
  have hS : s.Since s.vm 0 := (State.WarmedH.refl s).since 0
  have e0 : s₁.heap = h0 := by rw [← hh, Bd.state]; rfl
  have N0 := Fr.nil n0
  have K0 := Keep.refl h0 [aS]
  have hEL : EW Z a0 EL0 := own_ELw hw
  have CR0 : CHr Z EL0 s.vm s.heap s.vm h0 := by rw [hh]; exact CHr.refl hCH
  have Sf_aS : Safe Z EL0 s.vm h0 aS := own_safe0 hZ.alike E_0 F0v
  refine own_inH (rmk 1 2 4 12).cells (rmk 1 2 4 12).slots (Q_init4_0 Z aS a2 h0 n0) (ef_init4_0 m aS a2) ?_
  show gs s₁ m 0 #[vr aS, vr a2, vi 0, vi 0, .val .null, .unset] []
  refine oaloadN X0 hx hby d2_0 rfl rfl ?_
  obtain ⟨T1, X1, e1, st1⟩ := initO X0 hx hZ hown (own_w hw 15 rfl) (own_w hw 16 rfl) (own_w hw 17 rfl) e0 (g := (mkF m 1 #[vr aS, vr a2, vi 0, vi 0, .val .null, .unset] [(.ref aS)])) rfl (by rw [hml]; rfl) rfl (hb hby d2_1) (by decide) (W := 0) (by show 2 * 0 + _ ≤ _; exact Nat.le_of_eq rfl) (by decide)
  refine own_st st1 ?_
  show gs T1 m 4 #[vr aS, vr a2, vi 0, vi 0, .val .null, .unset] []
  refine oiloadN X1 hx hby d2_4 rfl ?_
  refine own_st (fun _ kS => XS.ifNo X1.here hx rfl (hb hby d2_5) rfl ((if0 _ _).trans (teq (by decide : (0 : Int32) = (0 : Int32))).2) kS) ?_
  show gs T1 m 8 #[vr aS, vr a2, vi 0, vi 0, .val .null, .unset] []
  refine oaloadN X1 hx hby d2_8 rfl rfl ?_
  show gs T1 m 9 #[vr aS, vr a2, vi 0, vi 0, .val .null, .unset] [(.ref aS)]
  have wS : ∀ a ∈ Bundle.stringAtoms, a.before a0 Z = true := fun d hd => hw d ((by decide +kernel : ∀ d ∈ Bundle.stringAtoms, d ∈ tables_1) d hd)
  obtain ⟨lit3, T3, h3, k3, b3, kb3, X3, e3, E3, hS, hk3, hZ, hown, Ax3, Fc3, Fv3, Av3, lta3, ltb3, C3, Lt3, sf3, st3⟩ := ldcCH X1 hx hZ hown (own_w hw 81 rfl) wS e1 hS (Nat.zero_le _) hEL own_mem hCH own_ht0 (z := 0) (by decide) rfl (g := (mkF m 9 #[vr aS, vr a2, vi 0, vi 0, .val .null, .unset] [(.ref aS)])) rfl (hb hby d2_9) (n := 0) (by decide) (by decide) (by decide) (by decide)
  have Sf3_aS := C3.safe E_0.lt Sf_aS
  have K3 := K0.ext E3
  have CR3 := CR0.trans C3
  have CH3 := C3.1
  have ne_aS_lit3 := (sf3 _ Sf3_aS).1
  have ne_aS_b3 := (sf3 _ Sf3_aS).2
  refine own_st st3 ?_
  show gs T3 m 11 #[vr aS, vr a2, vi 0, vi 0, .val .null, .unset] [(.ref lit3), (.ref aS)]
  obtain ⟨T4, X4, e4, st4⟩ := getF X3 hx hZ hown (host := "") (Or.inl (own_w hw 32 rfl)) Via.refl e3 Fv3 (g := (mkF m 11 #[vr aS, vr a2, vi 0, vi 0, .val .null, .unset] [(.ref lit3), (.ref aS)])) rfl rfl (hb hby d2_11)
  refine own_st st4 ?_
  show gs T4 m 14 #[vr aS, vr a2, vi 0, vi 0, .val .null, .unset] [(.ref b3), (.ref aS)]
  obtain ⟨T5, h5, X5, e5, W5, st5⟩ := putF X4 hx hZ hown (host := "") (Or.inl (own_w hw 32 rfl)) Via.refl e4 (Fld.ext E3 F0v) (Exa.ext E3 E_0) (Or.inr ⟨(own_w hw 33 rfl), rfl, hnm⟩) (own_w hw 6 rfl) (ty := (.array .byte)) (by decide) rfl rfl (g := (mkF m 14 #[vr aS, vr a2, vi 0, vi 0, .val .null, .unset] [(.ref b3), (.ref aS)])) rfl rfl (hb hby d2_14)
  refine own_st st5 ?_
  have Sw5 : Safe Z EL0 _ _ aS := Sf3_aS
  have N5 := Fr.snoc X5 N0 g_0
  have K5 := K3.wr W5 (Or.inl (List.mem_of_getElem? (i := 0) rfl))
  have Sf5_aS := Safe.wr W5 Sw5 CH3 Sf3_aS
  have CR5 := CR3.trans (CHr.wr W5 Sw5 CH3)
  have CH5 := CHv.wr W5 Sw5 CH3
  have Fw5 := Fld.same W5 (Fld.ext E3 F0v)
  show gs T5 m 17 #[vr aS, vr a2, vi 0, vi 0, .val .null, .unset] []
  refine oaloadN X5 hx hby d2_17 rfl rfl ?_
  show gs T5 m 18 #[vr aS, vr a2, vi 0, vi 0, .val .null, .unset] [(.ref aS)]
  refine own_st (ldcAgain X5 hx hZ hown (own_w hw 81 rfl) Lt3 (g := (mkF m 18 #[vr aS, vr a2, vi 0, vi 0, .val .null, .unset] [(.ref aS)])) rfl (hb hby d2_18)) ?_
  show gs T5 m 20 #[vr aS, vr a2, vi 0, vi 0, .val .null, .unset] [(.ref lit3), (.ref aS)]
  obtain ⟨T7, X7, e7, st7⟩ := getF X5 hx hZ hown (host := "") (Or.inl (own_w hw 30 rfl)) Via.refl e5 (Fld.other W5 Fc3 (Or.inl (Ne.symm ne_aS_lit3))) (g := (mkF m 20 #[vr aS, vr a2, vi 0, vi 0, .val .null, .unset] [(.ref lit3), (.ref aS)])) rfl rfl (hb hby d2_20)
  refine own_st st7 ?_
  show gs T7 m 23 #[vr aS, vr a2, vi 0, vi 0, .val .null, .unset] [(.int 0), (.ref aS)]
  obtain ⟨T8, h8, X8, e8, W8, st8⟩ := putFN X7 hx hZ hown (own_w hw 30 rfl) Via.refl e7 (Fld.other W5 (Fld.ext E3 F0c) (Or.inr (slot_ne (Or.inr (own_w hw 31 rfl)) (Or.inr (own_w hw 33 rfl)) (by decide) (t := .byte) (t' := (.array .byte)) (by decide) (by decide)))) (Exa.wr W5 (Exa.ext E3 E_0)) (Or.inr ⟨(own_w hw 31 rfl), rfl, hnm⟩) (own_w hw 6 rfl) (ty := .byte) (v' := (.int 0)) (by decide) rfl (by decide) (g := (mkF m 23 #[vr aS, vr a2, vi 0, vi 0, .val .null, .unset] [(.int 0), (.ref aS)])) rfl rfl (hb hby d2_23)
  refine own_st st8 ?_
  have Sw8 : Safe Z EL0 _ _ aS := Sf5_aS
  have N8 := Fr.snoc X8 N5 g_0
  have K8 := K5.wr W8 (Or.inl (List.mem_of_getElem? (i := 0) rfl))
  have Sf8_aS := Safe.wr W8 Sw8 CH5 Sf5_aS
  have CR8 := CR5.trans (CHr.wr W8 Sw8 CH5)
  have CH8 := CHv.wr W8 Sw8 CH5
  have Fw8 := Fld.same W8 (Fld.other W5 (Fld.ext E3 F0c) (Or.inr (slot_ne (Or.inr (own_w hw 31 rfl)) (Or.inr (own_w hw 33 rfl)) (by decide) (t := .byte) (t' := (.array .byte)) (by decide) (by decide))))
  show gs T8 m 26 #[vr aS, vr a2, vi 0, vi 0, .val .null, .unset] []
  exact own_retVH hZ hEL (by rw [e8]; exact CR8) hS (own_le e8 (Nat.le_trans (Nat.le_trans hk3 (Keep.of_wr W5).1) (Keep.of_wr W8).1)) X8 hx hlk hret (hb hby d2_26) (by decide) (by decide) (by rw [e8]; exact ⟨b3, kb3, ⟨rfl, N8, K8, (Exa.wr W8 (Exa.wr W5 (Exa.ext E3 E_0))), Fw8, (Fld.other W8 Fw5 (Or.inr (slot_ne (Or.inr (own_w hw 33 rfl)) (Or.inr (own_w hw 31 rfl)) (by decide) (t := (.array .byte)) (t' := .byte) (by decide) (by decide)))), ((Av3.other W5 (Ne.symm ne_aS_b3)).other W8 (Ne.symm ne_aS_b3))⟩⟩)
theorem d1_0 : dk B1 0 (.aload_n 0) 1 := by decide +kernel
theorem d1_1 : dk B1 1 (.aload_n 1) 1 := by decide +kernel
theorem d1_2 : dk B1 2 (.iconst 0) 1 := by decide +kernel
theorem d1_3 : dk B1 3 (.aload_n 1) 1 := by decide +kernel
theorem d1_4 : dk B1 4 (.arraylength) 1 := by decide +kernel
theorem d1_5 : dk B1 5 (.aconst_null) 1 := by decide +kernel
theorem d1_6 : dk B1 6 (.invokespecial 27) 3 := by decide +kernel
theorem d1_9 : dk B1 9 (.return_) 1 := by decide +kernel
theorem pn_1 : plainName "java/lang/String" = true := by first | (simp [plainName, overriddenIn]; done) | decide +kernel
theorem own_pd0 : parseMethodDescriptor "([CIILjava/lang/Void;)V" = some ⟨[(.array .char), .int, .int, (.object "java/lang/Void")], none⟩ := by decide +kernel
theorem ef_init1_0 (m : MethodId) (x0 : Addr) (x1 : Addr) : entryFrame m #[(.ref x0), (.ref x1)] 2 = mkF m 0 #[.val (.ref x0), .val (.ref x1)] [] := by first | (simp [entryFrame, mkF, argsToLocals, Value.category]; done) | rfl
def Q_init1_0 (Z : State) (aS : Addr) (a2 : Addr) (kA : ClassId) (h0 : Heap) (n0 : Nat) (v : Option Value) (h : Heap) (L : List Loc) : Prop := ∃ tN : Addr, ∃ kN : ClassId, v = none ∧ Fr n0 L ∧ Keep h0 h [aS] ∧ ek12 Z h aS ∧ fk8 Z h aS (.int 0) ∧ fk9 Z h aS (.ref tN) ∧ Arv Z h tN kN .byte (0 : Int32) [] (.int 0)
theorem rm_init1_0 (l : Launch) (Z : State) (a0 : Array Value) (hw : HW a0 Z) (ws : List Jvm.Cond) (aS : Addr) (a2 : Addr) (kA : ClassId) (h0 : Heap) (n0 : Nat) (Z0 : n0 ≤ h0.size) (E_0 : ek12 Z h0 aS) (g_0 : n0 ≤ aS) (F0v : fk9 Z h0 aS .null) (F0c : fk8 Z h0 aS (.int 0)) (R_2 : Arv Z h0 a2 kA .char (0 : Int32) [] (.int 0)) :
    MetFree l (⟨"java/lang/String", "<init>", "([C)V"⟩ : MethodName) (head1 (Jvm.Cond.code (⟨"java/lang/String", "<init>", "([C)V"⟩ : MethodName) jdk_42_method_3_code 2 none :: ws) (rmk 2 2 4 29)) (fun a U => a = #[(.ref aS), (.ref a2)] ∧ Z.Warmed39 U.vm ∧ U.heap = h0 ∧ CHv Z EL0 U.vm h0) (fun _ _ _ _ _ => True) (fun _ U o U' => ∃ v L, o = .returned v ∧ Q_init1_0 Z aS a2 kA h0 n0 v U'.heap L ∧ CHr Z EL0 U.vm U.heap U'.vm U'.heap ∧ ReturnedEndW U o U' L (rmk 2 2 4 29).cells (rmk 2 2 4 29).slots) := by
  refine MetFree.of_bodySF (plainFor_of_name pn_1) hisR ?_
  intro p e s m args below meth c s₁ Bd hml0 hP hK
  obtain ⟨rfl, hZ, hh, hCH⟩ := hP
  have hx := Bd.exec
  have hby := Bd.bytes
  have hml : c.maxLocals = 2 := hml0
  have hown : s.vm.findClass "java/lang/String" = some m.cls := findClass_of_methodNamed Bd.named
  have hnm := (name_of_methodNamed Bd.named Bd.method).1
  have hlk := Bd.notSynchronized
  have hret := Bd.returns
  have X0 : Stand p l e (rmk 2 2 4 29) (s.setVm s.vm) m #[(.ref aS), (.ref a2)] below meth c s₁ [] 0 0 := Stand.of_body Bd
  have hS : s.Since s.vm 0 := (State.WarmedH.refl s).since 0
  have e0 : s₁.heap = h0 := by rw [← hh, Bd.state]; rfl
  have N0 := Fr.nil n0
  have K0 := Keep.refl h0 [aS]
  have hEL : EW Z a0 EL0 := own_ELw hw
  have CR0 : CHr Z EL0 s.vm s.heap s.vm h0 := by rw [hh]; exact CHr.refl hCH
  have Sf_aS : Safe Z EL0 s.vm h0 aS := own_safe0 hZ.alike E_0 F0v
  refine own_inH (rmk 2 2 4 29).cells (rmk 2 2 4 29).slots (Q_init1_0 Z aS a2 kA h0 n0) (ef_init1_0 m aS a2) ?_
  show gs s₁ m 0 #[vr aS, vr a2] []
  refine oaloadN X0 hx hby d1_0 rfl rfl ?_
  refine oaloadN X0 hx hby d1_1 rfl rfl ?_
  refine oiconst X0 hx hby d1_2 ?_
  refine oaloadN X0 hx hby d1_3 rfl rfl ?_
  show gs s₁ m 4 #[vr aS, vr a2] [(.ref a2), (.int 0), (.ref a2), (.ref aS)]
  obtain ⟨cl1, Ar1, qa1, qs1, qn1, qh1, qg1⟩ := id R_2
  refine own_st (fun _ kS => X0.arraylength hx (by rw [e0]; exact Ar1.1) (State.isArrayOf_alike hZ.alike Ar1.2.1) (g := (mkF m 4 #[vr aS, vr a2] [(.ref a2), (.int 0), (.ref a2), (.ref aS)])) rfl rfl (hb hby d1_4) _ kS) ?_
  rw [len_of qs1 qn1]
  show gs s₁ m 5 #[vr aS, vr a2] [(.int 0), (.int 0), (.ref a2), (.ref aS)]
  refine own_st (fun _ kS => XS.aconstNull X0.here hx rfl (hb hby d1_5) kS) ?_
  show gs s₁ m 6 #[vr aS, vr a2] [.null, (.int 0), (.int 0), (.ref a2), (.ref aS)]
  obtain ⟨_, _, ⟨T2, L2, k2, n2⟩, -, X2, sv2, sg2, ⟨Lc2, hQ2, l2, y2, z2, cr2⟩, st2⟩ := X0.specialBackS hx (y := (⟨"java/lang/String", "<init>", "([CIILjava/lang/Void;)V"⟩ : MethodName)) rfl hown (mvT hZ (own_w hw 11 rfl)) (mvT hZ (own_w hw 12 rfl)) (mvT hZ (own_w hw 14 rfl)) (by decide) (backOfSH (W := 0) (rm_init4_0 l Z a0 hw [] aS a2 h0 n0 Z0  E_0 g_0 F0v F0c) hZ (own_w hw 14 rfl) (own_w hw 7 rfl) (by decide) (by decide) hEL hCH) (g := (mkF m 6 #[vr aS, vr a2] [.null, (.int 0), (.int 0), (.ref a2), (.ref aS)])) rfl (by rw [hml]; rfl) (Steps.refl _) (a := aS) (argsL := [(.ref a2), (.int 0), (.int 0), .null]) (rest := []) (lenOf own_pd0 rfl) rfl (by show 2 * 0 + _ ≤ _; exact Nat.le_of_eq rfl) (hb hby d1_6) (fun _ _ => ⟨rfl, e0, (by decide : 0 + 2 ≤ _), (by decide : 0 + 4 ≤ _)⟩)
  dsimp only [Pt.U, Pt.locs, Pt.cells, Pt.slots] at X2 l2 y2 z2 st2 hQ2 sv2 sg2 cr2
  subst l2 y2 z2
  obtain ⟨X2, hS, hZ, hown⟩ := rebS hS (own_le e0 (Nat.zero_le _)) X2 sv2 sg2 hZ hown
  obtain ⟨tN_2, kN_2, rfl, Nq2, Kc2, P2_0, P2_1, P2_2, P2_3⟩ := hQ2
  have N2 := Fr.app N0 Nq2
  have K2 := K0.trans Kc2 (allS (Or.inl (List.mem_of_getElem? (i := 0) rfl)) all0)
  have CR2 := CR0.trans cr2
  have CH2 := cr2.1
  refine own_tr st2 ?_
  show gs T2 m 9 #[vr aS, vr a2] []
  exact own_retVH hZ hEL (CR2) hS (Nat.le_refl _) X2 hx hlk hret (hb hby d1_9) (by decide) (by decide) (show Q_init1_0 Z aS a2 kA h0 n0 _ _ _ from ⟨tN_2, kN_2, ⟨rfl, N2, K2, P2_0, P2_1, P2_2, P2_3⟩⟩)
theorem d5_0 : dk B2 0 (.iconst 0) 1 := by decide +kernel
theorem d5_1 : dk B2 1 (.istore 5) 2 := by decide +kernel
theorem d5_3 : dk B2 3 (.iload 5) 2 := by decide +kernel
theorem d5_5 : dk B2 5 (.iload 4) 2 := by decide +kernel
theorem d5_7 : dk B2 7 (.if_icmp .ge 37) 3 := by decide +kernel
theorem d5_10 : dk B2 10 (.aload_n 0) 1 := by decide +kernel
theorem d5_11 : dk B2 11 (.iload_n 1) 1 := by decide +kernel
theorem d5_12 : dk B2 12 (.caload) 1 := by decide +kernel
theorem d5_13 : dk B2 13 (.istore 6) 2 := by decide +kernel
theorem d5_15 : dk B2 15 (.iload 6) 2 := by decide +kernel
theorem d5_17 : dk B2 17 (.sipush 255) 3 := by decide +kernel
theorem d5_20 : dk B2 20 (.if_icmp .le 6) 3 := by decide +kernel
theorem d5_23 : dk B2 23 (.iload 5) 2 := by decide +kernel
theorem d5_25 : dk B2 25 (.ireturn) 1 := by decide +kernel
theorem d5_26 : dk B2 26 (.aload_n 2) 1 := by decide +kernel
theorem d5_27 : dk B2 27 (.iload_n 3) 1 := by decide +kernel
theorem d5_28 : dk B2 28 (.iload 6) 2 := by decide +kernel
theorem d5_30 : dk B2 30 (.i2b) 1 := by decide +kernel
theorem d5_31 : dk B2 31 (.bastore) 1 := by decide +kernel
theorem d5_32 : dk B2 32 (.iinc 1 1) 3 := by decide +kernel
theorem d5_35 : dk B2 35 (.iinc 3 1) 3 := by decide +kernel
theorem d5_38 : dk B2 38 (.iinc 5 1) 3 := by decide +kernel
theorem d5_41 : dk B2 41 (.goto (-38)) 3 := by decide +kernel
theorem d5_44 : dk B2 44 (.iload 4) 2 := by decide +kernel
theorem d5_46 : dk B2 46 (.ireturn) 1 := by decide +kernel
theorem pn_5 : plainName "java/lang/StringUTF16" = true := by first | (simp [plainName, overriddenIn]; done) | decide +kernel
theorem ef_cmpI1 (m : MethodId) (x0 : Addr) (x1 : Addr) : entryFrame m #[(.ref x0), (.int 0), (.ref x1), (.int 0), (.int 1)] 7 = mkF m 0 #[.val (.ref x0), .val (.int 0), .val (.ref x1), .val (.int 0), .val (.int 1), .unset, .unset] [] := by first | (simp [entryFrame, mkF, argsToLocals, Value.category]; done) | rfl
def Q_cmpI1 (Z : State) (a2 : Addr) (kC : ClassId) (tA : Addr) (kA : ClassId) (c0 : Int32) (h0 : Heap) (n0 : Nat) (v : Option Value) (h : Heap) (L : List Loc) : Prop := v = some (.int 1) ∧ Fr n0 L ∧ Keep h0 h [tA] ∧ Arv Z h tA kA .byte (1 : Int32) [(.int (nar .byte (c0.toInt8.toInt32)))] (.int 0)
theorem rm_cmpI1 (l : Launch) (Z : State) (a0 : Array Value) (hw : HW a0 Z) (ws : List Jvm.Cond) (a2 : Addr) (kC : ClassId) (tA : Addr) (kA : ClassId) (c0 : Int32) (h0 : Heap) (n0 : Nat) (Z0 : n0 ≤ h0.size) (R_C : Arv Z h0 a2 kC .char (1 : Int32) [(.int c0)] (.int 0)) (R_A : Arv Z h0 tA kA .byte (1 : Int32) [(.int 0)] (.int 0)) (g_A : n0 ≤ tA) (ne2A : a2 ≠ tA) (hC0 : ¬ ((255 : Int32) < c0)) :
    M0 l ws (rmk 0 0 0 0) Z #[(.ref a2), (.int 0), (.ref tA), (.int 0), (.int 1)] h0 (Q_cmpI1 Z a2 kC tA kA c0 h0 n0) := by
  refine own_go "java/lang/StringUTF16" rfl (plainFor_of_name pn_5) (fun m => ef_cmpI1 m a2 tA) (fun p e s m below meth c s₁ hx hby hml hown hnm hlk hret hZ X0 e0 => ?_)
  have N0 := Fr.nil n0
  have K0 := Keep.refl h0 [tA]
  show gs s₁ m 0 #[vr a2, vi 0, vr tA, vi 0, vi 1, .unset, .unset] []
  refine oiconst X0 hx hby d5_0 ?_
  refine own_st (fun _ kS => XS.istore X0.here hx rfl (hb hby d5_1) rfl (l' := #[vr a2, vi 0, vr tA, vi 0, vi 1, vi 0, .unset]) rfl kS) ?_
  refine oiload X0 hx hby d5_3 rfl ?_
  refine oiload X0 hx hby d5_5 rfl ?_
  refine own_st (fun _ kS => XS.icmpNo X0.here hx rfl (hb hby d5_7) rfl (tlt (by decide : (0 : Int32) < (1 : Int32))).2.1 kS) ?_
  show gs s₁ m 10 #[vr a2, vi 0, vr tA, vi 0, vi 1, vi 0, .unset] []
  refine oaloadN X0 hx hby d5_10 rfl rfl ?_
  refine oiloadN X0 hx hby d5_11 rfl ?_
  show gs s₁ m 12 #[vr a2, vi 0, vr tA, vi 0, vi 1, vi 0, .unset] [(.int 0), (.ref a2)]
  obtain ⟨cl1, Ar1, qa1, qs1, qn1, qh1, qg1⟩ := id R_C
  refine own_st (fun _ kS => X0.caload hx (j := (0 : Int32)) (v := (.int c0)) (by rw [e0]; exact Ar1.1) (State.isArrayOf_alike hZ.alike Ar1.2.1) Ar1.2.2 (inb_of qs1 ⟨by decide, by decide⟩) (qh1.at (inb_of qs1 ⟨by decide, by decide⟩) rfl) (g := (mkF m 12 #[vr a2, vi 0, vr tA, vi 0, vi 1, vi 0, .unset] [(.int 0), (.ref a2)])) rfl rfl (hb hby d5_12) _ kS) ?_
  show gs s₁ m 13 #[vr a2, vi 0, vr tA, vi 0, vi 1, vi 0, .unset] [(.int c0)]
  refine own_st (fun _ kS => XS.istore X0.here hx rfl (hb hby d5_13) rfl (l' := #[vr a2, vi 0, vr tA, vi 0, vi 1, vi 0, vi c0]) rfl kS) ?_
  refine oiload X0 hx hby d5_15 rfl ?_
  refine own_st (fun _ kS => XS.sipush X0.here hx rfl (hb hby d5_17) kS) ?_
  show gs s₁ m 20 #[vr a2, vi 0, vr tA, vi 0, vi 1, vi 0, vi c0] [(.int 255), (.int c0)]
  refine own_st (fun _ kS => XS.icmpYes X0.here hx rfl (pc0 := 20) (pc' := 26) rfl (hb hby d5_20) rfl (flt (hC0 : ¬ ((255 : Int32) < c0))).2.2.2 (by decide) (by decide) kS) ?_
  show gs s₁ m 26 #[vr a2, vi 0, vr tA, vi 0, vi 1, vi 0, vi c0] []
  refine oaloadN X0 hx hby d5_26 rfl rfl ?_
  refine oiloadN X0 hx hby d5_27 rfl ?_
  refine oiload X0 hx hby d5_28 rfl ?_
  refine own_st (fun _ kS => XT.i2b X0.here hx rfl (hb hby d5_30) rfl kS) ?_
  show gs s₁ m 31 #[vr a2, vi 0, vr tA, vi 0, vi 1, vi 0, vi c0] [(.int (c0.toInt8.toInt32)), (.int 0), (.ref tA)]
  obtain ⟨cl2, Ar2, qa2, qs2, qn2, qh2, qg2⟩ := id R_A
  obtain ⟨T2, h2, X2, e2, W2, st2⟩ := stB X0 hx hZ e0 Ar2 (j := (0 : Int32)) (inb_of qs2 ⟨by decide, by decide⟩) (g := (mkF m 31 #[vr a2, vi 0, vr tA, vi 0, vi 1, vi 0, vi c0] [(.int (c0.toInt8.toInt32)), (.int 0), (.ref tA)])) rfl rfl (hb hby d5_31)
  have N2 := Fr.snoc X2 N0 g_A
  have K2 := K0.wr W2 (Or.inl (List.mem_of_getElem? (i := 0) rfl))
  have R2 : Arv Z h2 tA kA .byte (1 : Int32) [(.int (nar .byte (c0.toInt8.toInt32)))] (.int 0) := Arv.set Ar2 qa2 qs2 qn2 qh2 qg2 (fits_nar_byte _) W2 0 rfl (Nat.le_of_ble_eq_true rfl)
  refine own_st st2 ?_
  show gs T2 m 32 #[vr a2, vi 0, vr tA, vi 0, vi 1, vi 0, vi c0] []
  refine own_st (fun _ kS => XS.iinc X2.here hx rfl (hb hby d5_32) rfl (l' := #[vr a2, vi 1, vr tA, vi 0, vi 1, vi 0, vi c0]) rfl kS) ?_
  refine own_st (fun _ kS => XS.iinc X2.here hx rfl (hb hby d5_35) rfl (l' := #[vr a2, vi 1, vr tA, vi 1, vi 1, vi 0, vi c0]) rfl kS) ?_
  refine own_st (fun _ kS => XS.iinc X2.here hx rfl (hb hby d5_38) rfl (l' := #[vr a2, vi 1, vr tA, vi 1, vi 1, vi 1, vi c0]) rfl kS) ?_
  refine own_st (fun _ kS => XS.goto X2.here hx rfl (pc0 := 41) (pc' := 3) rfl (hb hby d5_41) (by decide) (by decide) kS) ?_
  refine oiload X2 hx hby d5_3 rfl ?_
  refine oiload X2 hx hby d5_5 rfl ?_
  refine own_st (fun _ kS => XS.icmpYes X2.here hx rfl (pc0 := 7) (pc' := 44) rfl (hb hby d5_7) rfl (flt (by decide : ¬ ((1 : Int32) < (1 : Int32)))).2.1 (by decide) (by decide) kS) ?_
  show gs T2 m 44 #[vr a2, vi 1, vr tA, vi 1, vi 1, vi 1, vi c0] []
  refine oiload X2 hx hby d5_44 rfl ?_
  exact own_retI X2 hx hlk hret (hb hby d5_46) (by decide) (by decide) (by rw [e2]; exact ⟨rfl, N2, K2, R2⟩)
theorem d4_0 : dk B3 0 (.iload_n 2) 1 := by decide +kernel
theorem d4_1 : dk B3 1 (.newarray .byte) 2 := by decide +kernel
theorem d4_3 : dk B3 3 (.astore_n 3) 1 := by decide +kernel
theorem d4_4 : dk B3 4 (.aload_n 0) 1 := by decide +kernel
theorem d4_5 : dk B3 5 (.iload_n 1) 1 := by decide +kernel
theorem d4_6 : dk B3 6 (.aload_n 3) 1 := by decide +kernel
theorem d4_7 : dk B3 7 (.iconst 0) 1 := by decide +kernel
theorem d4_8 : dk B3 8 (.iload_n 2) 1 := by decide +kernel
theorem d4_9 : dk B3 9 (.invokestatic 115) 3 := by decide +kernel
theorem d4_12 : dk B3 12 (.istore 4) 2 := by decide +kernel
theorem d4_14 : dk B3 14 (.iload 4) 2 := by decide +kernel
theorem d4_16 : dk B3 16 (.iload_n 2) 1 := by decide +kernel
theorem d4_17 : dk B3 17 (.if_icmp .eq 40) 3 := by decide +kernel
theorem d4_20 : dk B3 20 (.aload_n 0) 1 := by decide +kernel
theorem d4_21 : dk B3 21 (.iload_n 1) 1 := by decide +kernel
theorem d4_22 : dk B3 22 (.iload_n 2) 1 := by decide +kernel
theorem d4_23 : dk B3 23 (.invokestatic 119) 3 := by decide +kernel
theorem d4_26 : dk B3 26 (.astore 5) 2 := by decide +kernel
theorem d4_28 : dk B3 28 (.aload 5) 2 := by decide +kernel
theorem d4_30 : dk B3 30 (.iload 4) 2 := by decide +kernel
theorem d4_32 : dk B3 32 (.invokestatic 71) 3 := by decide +kernel
theorem d4_35 : dk B3 35 (.sipush 255) 3 := by decide +kernel
theorem d4_38 : dk B3 38 (.if_icmp .gt 16) 3 := by decide +kernel
theorem d4_41 : dk B3 41 (.aload 5) 2 := by decide +kernel
theorem d4_43 : dk B3 43 (.iconst 0) 1 := by decide +kernel
theorem d4_44 : dk B3 44 (.aload_n 3) 1 := by decide +kernel
theorem d4_45 : dk B3 45 (.iconst 0) 1 := by decide +kernel
theorem d4_46 : dk B3 46 (.iload_n 2) 1 := by decide +kernel
theorem d4_47 : dk B3 47 (.invokestatic 123) 3 := by decide +kernel
theorem d4_50 : dk B3 50 (.iload_n 2) 1 := by decide +kernel
theorem d4_51 : dk B3 51 (.if_icmp .eq 6) 3 := by decide +kernel
theorem d4_54 : dk B3 54 (.aload 5) 2 := by decide +kernel
theorem d4_56 : dk B3 56 (.areturn) 1 := by decide +kernel
theorem d4_57 : dk B3 57 (.aload_n 3) 1 := by decide +kernel
theorem d4_58 : dk B3 58 (.areturn) 1 := by decide +kernel
theorem pn_4 : plainName "java/lang/StringUTF16" = true := by first | (simp [plainName, overriddenIn]; done) | decide +kernel
theorem own_pd1 : parseMethodDescriptor "([CI[BII)I" = some ⟨[(.array .char), .int, (.array .byte), .int, .int], some .int⟩ := by decide +kernel
theorem ef_cmpA1 (m : MethodId) (x0 : Addr) : entryFrame m #[(.ref x0), (.int 0), (.int 1)] 6 = mkF m 0 #[.val (.ref x0), .val (.int 0), .val (.int 1), .unset, .unset, .unset] [] := by first | (simp [entryFrame, mkF, argsToLocals, Value.category]; done) | rfl
def Q_cmpA1 (Z : State) (a2 : Addr) (kC : ClassId) (c0 : Int32) (h0 : Heap) (n0 : Nat) (v : Option Value) (h : Heap) (L : List Loc) : Prop := ∃ tN : Addr, ∃ kN : ClassId, v = some (.ref tN) ∧ Fr n0 L ∧ Keep h0 h [] ∧ h0.size ≤ tN ∧ Arv Z h tN kN .byte (1 : Int32) [(.int (nar .byte (c0.toInt8.toInt32)))] (.int 0)
theorem rm_cmpA1 (l : Launch) (Z : State) (a0 : Array Value) (hw : HW a0 Z) (ws : List Jvm.Cond) (a2 : Addr) (kC : ClassId) (c0 : Int32) (h0 : Heap) (n0 : Nat) (Z0 : n0 ≤ h0.size) (R_C : Arv Z h0 a2 kC .char (1 : Int32) [(.int c0)] (.int 0)) (hC0 : ¬ ((255 : Int32) < c0)) :
    M1 l ws (rmk 1 1 1 18) Z #[(.ref a2), (.int 0), (.int 1)] h0 (Q_cmpA1 Z a2 kC c0 h0 n0) := by
  refine own_go "java/lang/StringUTF16" rfl (plainFor_of_name pn_4) (fun m => ef_cmpA1 m a2) (fun p e s m below meth c s₁ hx hby hml hown hnm hlk hret hZ X0 e0 => ?_)
  have N0 := Fr.nil n0
  have K0 := Keep.refl h0 []
  show gs s₁ m 0 #[vr a2, vi 0, vi 1, .unset, .unset, .unset] []
  refine oiloadN X0 hx hby d4_0 rfl ?_
  show gs s₁ m 1 #[vr a2, vi 0, vi 1, .unset, .unset, .unset] [(.int 1)]
  obtain ⟨T1, h1, k1, X1, e1, E1, A1, st1⟩ := newP X0 hx hZ (own_w hw 23 rfl) e0 (g := (mkF m 1 #[vr a2, vi 0, vi 1, .unset, .unset, .unset] [(.int 1)])) rfl (hb hby d4_1) rfl (by decide) (cap := 1) (by decide) (by decide) (by decide) (by decide)
  obtain ⟨b1, g1⟩ : ∃ z, z = h0.size := ⟨_, rfl⟩
  have ne_a2_b1 : a2 ≠ b1 := Nat.ne_of_lt (Nat.lt_of_lt_of_eq R_C.lt g1.symm)
  have ge_b1 : n0 ≤ b1 := Nat.le_trans Z0 (Nat.le_of_eq g1.symm)
  have sz_b1 : h0.size ≤ b1 := Nat.le_trans K0.1 (Nat.le_of_eq g1.symm)
  rw [← g1] at A1 st1
  have K1 := K0.ext E1
  have R1 : Arv Z h1 b1 k1 .byte (1 : Int32) [(.int 0)] (.int 0) := (Arv.new A1 (by decide)).pad (pad_rep [] (.int 0) 1)
  refine own_st st1 ?_
  show gs T1 m 3 #[vr a2, vi 0, vi 1, .unset, .unset, .unset] [(.ref b1)]
  refine own_st (fun _ kS => XS.astoreN X1.here hx rfl (hb hby d4_3) rfl rfl (l' := #[vr a2, vi 0, vi 1, vr b1, .unset, .unset]) rfl kS) ?_
  refine oaloadN X1 hx hby d4_4 rfl rfl ?_
  refine oiloadN X1 hx hby d4_5 rfl ?_
  refine oaloadN X1 hx hby d4_6 rfl rfl ?_
  refine oiconst X1 hx hby d4_7 ?_
  refine oiloadN X1 hx hby d4_8 rfl ?_
  refine oS 0 X1 hx hZ hby hml hown (own_w hw 24 rfl) (own_w hw 25 rfl) (own_w hw 21 rfl) (own_w hw 26 rfl) (rm_cmpI1 l Z a0 hw [] a2 kC b1 k1 c0 h1 n0 (Nat.le_trans Z0 E1.1)  (Arv.ext R_C E1) R1 ge_b1 ne_a2_b1 hC0) e1 (by decide) own_pd1 d4_9 rfl rfl rfl (fun T2 L2 v2 X2 hQ2 => ?_)
  obtain ⟨rfl, Nq2, Kc2, P2_0⟩ := hQ2
  have N2 := Fr.app N0 Nq2
  have K2 := K1.trans Kc2 (allS (Or.inr sz_b1) all0)
  show gs T2 m 12 #[vr a2, vi 0, vi 1, vr b1, .unset, .unset] [(.int 1)]
  refine own_st (fun _ kS => XS.istore X2.here hx rfl (hb hby d4_12) rfl (l' := #[vr a2, vi 0, vi 1, vr b1, vi 1, .unset]) rfl kS) ?_
  refine oiload X2 hx hby d4_14 rfl ?_
  refine oiloadN X2 hx hby d4_16 rfl ?_
  refine own_st (fun _ kS => XS.icmpYes X2.here hx rfl (pc0 := 17) (pc' := 57) rfl (hb hby d4_17) rfl (teq (by decide : (1 : Int32) = (1 : Int32))).1 (by decide) (by decide) kS) ?_
  show gs T2 m 57 #[vr a2, vi 0, vi 1, vr b1, vi 1, .unset] []
  refine oaloadN X2 hx hby d4_57 rfl rfl ?_
  exact own_retA X2 hx hlk hret rfl rfl (hb hby d4_58) (by decide) (by decide) (show Q_cmpA1 Z a2 kC c0 h0 n0 _ _ _ from ⟨b1, k1, ⟨rfl, N2, K2, sz_b1, P2_0⟩⟩)
theorem d6_0 : dk B4 0 (.iload_n 1) 1 := by decide +kernel
theorem d6_1 : dk B4 1 (.aload_n 0) 1 := by decide +kernel
theorem d6_2 : dk B4 2 (.arraylength) 1 := by decide +kernel
theorem d6_3 : dk B4 3 (.isub) 1 := by decide +kernel
theorem d6_4 : dk B4 4 (.bipush 31) 2 := by decide +kernel
theorem d6_6 : dk B4 6 (.iushr) 1 := by decide +kernel
theorem d6_7 : dk B4 7 (.i2b) 1 := by decide +kernel
theorem d6_8 : dk B4 8 (.ireturn) 1 := by decide +kernel
theorem pn_6 : plainName "java/lang/StringUTF16" = true := by first | (simp [plainName, overriddenIn]; done) | decide +kernel
theorem ef_cfal1 (m : MethodId) (x0 : Addr) : entryFrame m #[(.ref x0), (.int 1)] 2 = mkF m 0 #[.val (.ref x0), .val (.int 1)] [] := by first | (simp [entryFrame, mkF, argsToLocals, Value.category]; done) | rfl
def Q_cfal1 (Z : State) (tA : Addr) (kA : ClassId) (y0 : Int32) (h0 : Heap) (n0 : Nat) (v : Option Value) (h : Heap) (L : List Loc) : Prop := v = some (.int 0) ∧ Fr n0 L ∧ h = h0
theorem rm_cfal1 (l : Launch) (Z : State) (a0 : Array Value) (hw : HW a0 Z) (ws : List Jvm.Cond) (tA : Addr) (kA : ClassId) (y0 : Int32) (h0 : Heap) (n0 : Nat) (Z0 : n0 ≤ h0.size) (R_A : Arv Z h0 tA kA .byte (1 : Int32) [(.int y0)] (.int 0)) :
    M2 l ws (rmk 0 0 0 0) Z #[(.ref tA), (.int 1)] h0 (Q_cfal1 Z tA kA y0 h0 n0) := by
  refine own_go "java/lang/StringUTF16" rfl (plainFor_of_name pn_6) (fun m => ef_cfal1 m tA) (fun p e s m below meth c s₁ hx hby hml hown hnm hlk hret hZ X0 e0 => ?_)
  have N0 := Fr.nil n0
  show gs s₁ m 0 #[vr tA, vi 1] []
  refine oiloadN X0 hx hby d6_0 rfl ?_
  refine oaloadN X0 hx hby d6_1 rfl rfl ?_
  show gs s₁ m 2 #[vr tA, vi 1] [(.ref tA), (.int 1)]
  obtain ⟨cl1, Ar1, qa1, qs1, qn1, qh1, qg1⟩ := id R_A
  refine own_st (fun _ kS => X0.arraylength hx (by rw [e0]; exact Ar1.1) (State.isArrayOf_alike hZ.alike Ar1.2.1) (g := (mkF m 2 #[vr tA, vi 1] [(.ref tA), (.int 1)])) rfl rfl (hb hby d6_2) _ kS) ?_
  rw [len_of qs1 qn1]
  show gs s₁ m 3 #[vr tA, vi 1] [(.int 1), (.int 1)]
  refine own_st (fun _ kS => XS.isub X0.here hx rfl (hb hby d6_3) rfl kS) ?_
  refine own_st (fun _ kS => XS.bipush X0.here hx rfl (hb hby d6_4) kS) ?_
  refine own_st (fun _ kS => XT.iushr X0.here hx rfl (hb hby d6_6) rfl kS) ?_
  refine own_st (fun _ kS => XT.i2b X0.here hx rfl (hb hby d6_7) rfl kS) ?_
  show gs s₁ m 8 #[vr tA, vi 1] [(.int 0)]
  exact own_retN X0 hx hlk (t := .byte) hret (by simp) (hb hby d6_8) (by decide) (by decide) (v' := (0 : Int32)) rfl (by rw [e0]; exact ⟨rfl, N0, rfl⟩)
theorem own_pd2 : parseMethodDescriptor "([CII)[B" = some ⟨[(.array .char), .int, .int], some (.array .byte)⟩ := by decide +kernel
theorem own_pd3 : parseMethodDescriptor "([BI)B" = some ⟨[(.array .byte), .int], some .byte⟩ := by decide +kernel
theorem ef_init4_1 (m : MethodId) (x0 : Addr) (x1 : Addr) : entryFrame m #[(.ref x0), (.ref x1), (.int 0), (.int 1), .null] 6 = mkF m 0 #[.val (.ref x0), .val (.ref x1), .val (.int 0), .val (.int 1), .val .null, .unset] [] := by first | (simp [entryFrame, mkF, argsToLocals, Value.category]; done) | rfl
def Q_init4_1 (Z : State) (aS : Addr) (a2 : Addr) (kC : ClassId) (c0 : Int32) (zCS : Int32) (h0 : Heap) (n0 : Nat) (v : Option Value) (h : Heap) (L : List Loc) : Prop := ∃ tN : Addr, ∃ kN : ClassId, v = none ∧ Fr n0 L ∧ Keep h0 h [aS] ∧ ek12 Z h aS ∧ fk8 Z h aS (.int 0) ∧ fk9 Z h aS (.ref tN) ∧ Arv Z h tN kN .byte (1 : Int32) [(.int (nar .byte (c0.toInt8.toInt32)))] (.int 0)
theorem rm_init4_1 (l : Launch) (Z : State) (a0 : Array Value) (hw : HW a0 Z) (ws : List Jvm.Cond) (aS : Addr) (a2 : Addr) (kC : ClassId) (c0 : Int32) (zCS : Int32) (h0 : Heap) (n0 : Nat) (Z0 : n0 ≤ h0.size) (O0 : Old Z n0 h0) (E_0 : ek12 Z h0 aS) (g_0 : n0 ≤ aS) (F0v : fk9 Z h0 aS .null) (F0c : fk8 Z h0 aS (.int 0)) (ne02 : aS ≠ a2) (R_C : Arv Z h0 a2 kC .char (1 : Int32) [(.int c0)] (.int 0)) (hC0 : ¬ ((255 : Int32) < c0)) (S_CS : sk0 Z Z.heap (.int zCS)) (P_CS : ¬ zCS = 0) :
    M3 l ws (rmk 2 1 1 35) Z #[(.ref aS), (.ref a2), (.int 0), (.int 1), .null] h0 (Q_init4_1 Z aS a2 kC c0 zCS h0 n0) := by
  refine own_go "java/lang/String" rfl (plainFor_of_name pn_2) (fun m => ef_init4_1 m aS a2) (fun p e s m below meth c s₁ hx hby hml hown hnm hlk hret hZ X0 e0 => ?_)
  have N0 := Fr.nil n0
  have K0 := Keep.refl h0 [aS]
  show gs s₁ m 0 #[vr aS, vr a2, vi 0, vi 1, .val .null, .unset] []
  refine oaloadN X0 hx hby d2_0 rfl rfl ?_
  obtain ⟨T1, X1, e1, st1⟩ := initO X0 hx hZ hown (own_w hw 15 rfl) (own_w hw 16 rfl) (own_w hw 17 rfl) e0 (g := (mkF m 1 #[vr aS, vr a2, vi 0, vi 1, .val .null, .unset] [(.ref aS)])) rfl (by rw [hml]; rfl) rfl (hb hby d2_1) (by decide) (W := 0) (by show 2 * 0 + _ ≤ _; exact Nat.le_of_eq rfl) (by decide)
  refine own_st st1 ?_
  show gs T1 m 4 #[vr aS, vr a2, vi 0, vi 1, .val .null, .unset] []
  refine oiloadN X1 hx hby d2_4 rfl ?_
  refine own_st (fun _ kS => XS.ifYes X1.here hx rfl (pc0 := 5) (pc' := 27) rfl (hb hby d2_5) rfl ((if0 _ _).trans (feq (by decide : ¬ ((1 : Int32) = (0 : Int32)))).2) (by decide) (by decide) kS) ?_
  show gs T1 m 27 #[vr aS, vr a2, vi 0, vi 1, .val .null, .unset] []
  obtain ⟨T2, X2, e2, st2⟩ := getS2 X1 hx hZ hown (host := "") (Or.inl (own_w hw 18 rfl)) Via.refl e1 (Sta.ext O0.2 S_CS) (g := (mkF m 27 #[vr aS, vr a2, vi 0, vi 1, .val .null, .unset] [])) rfl (hb hby d2_27)
  refine own_st st2 ?_
  show gs T2 m 30 #[vr aS, vr a2, vi 0, vi 1, .val .null, .unset] [(.int zCS)]
  refine own_st (fun _ kS => XS.ifNo X2.here hx rfl (hb hby d2_30) rfl ((if0 _ _).trans (feq (P_CS : ¬ (zCS = (0 : Int32)))).1) kS) ?_
  show gs T2 m 33 #[vr aS, vr a2, vi 0, vi 1, .val .null, .unset] []
  refine oaloadN X2 hx hby d2_33 rfl rfl ?_
  refine oiloadN X2 hx hby d2_34 rfl ?_
  refine oiloadN X2 hx hby d2_35 rfl ?_
  refine oS 0 X2 hx hZ hby hml hown (own_w hw 19 rfl) (own_w hw 20 rfl) (own_w hw 21 rfl) (own_w hw 22 rfl) (rm_cmpA1 l Z a0 hw [] a2 kC c0 h0 n0 Z0  R_C hC0) e2 (by decide) own_pd2 d2_36 rfl rfl rfl (fun T3 L3 v3 X3 hQ3 => ?_)
  obtain ⟨tN_3, kN_3, rfl, Nq3, Kc3, P3_0, P3_1⟩ := hQ3
  have N3 := Fr.app N0 Nq3
  have ne_aS_tN_3 : aS ≠ tN_3 := Nat.ne_of_lt (Nat.lt_of_lt_of_le E_0.lt P3_0)
  have ne_a2_tN_3 : a2 ≠ tN_3 := Nat.ne_of_lt (Nat.lt_of_lt_of_le R_C.lt P3_0)
  have ge_tN_3 : n0 ≤ tN_3 := Nat.le_trans Z0 P3_0
  have sz_tN_3 : h0.size ≤ tN_3 := Nat.le_trans K0.1 P3_0
  have K3 := K0.trans Kc3 all0
  have O3 := O0.keep Kc3 all0
  show gs T3 m 39 #[vr aS, vr a2, vi 0, vi 1, .val .null, .unset] [(.ref tN_3)]
  refine own_st (fun _ kS => XS.astore X3.here hx rfl (hb hby d2_39) rfl rfl (l' := #[vr aS, vr a2, vi 0, vi 1, .val .null, vr tN_3]) rfl kS) ?_
  refine oaloadN X3 hx hby d2_41 rfl rfl ?_
  refine oaload X3 hx hby d2_42 rfl rfl ?_
  refine oiloadN X3 hx hby d2_44 rfl ?_
  refine oS 1 X3 hx hZ hby hml hown (own_w hw 27 rfl) (own_w hw 28 rfl) (own_w hw 21 rfl) (own_w hw 29 rfl) (rm_cfal1 l Z a0 hw [] tN_3 kN_3 (nar .byte (c0.toInt8.toInt32)) T3.heap n0 (Nat.le_trans Z0 Kc3.1)  P3_1) rfl (by decide) own_pd3 d2_45 rfl rfl rfl (fun T4 L4 v4 X4 hQ4 => ?_)
  obtain ⟨rfl, Nq4, eq4⟩ := hQ4
  have N4 := Fr.app N3 Nq4
  show gs T4 m 48 #[vr aS, vr a2, vi 0, vi 1, .val .null, vr tN_3] [(.int 0), (.ref aS)]
  obtain ⟨T5, h5, X5, e5, W5, st5⟩ := putFN X4 hx hZ hown (own_w hw 30 rfl) Via.refl eq4 (F0c.keep Kc3 nin0) (E_0.keep Kc3) (Or.inr ⟨(own_w hw 31 rfl), rfl, hnm⟩) (own_w hw 6 rfl) (ty := .byte) (v' := (.int 0)) (by decide) rfl (by decide) (g := (mkF m 48 #[vr aS, vr a2, vi 0, vi 1, .val .null, vr tN_3] [(.int 0), (.ref aS)])) rfl rfl (hb hby d2_48)
  refine own_st st5 ?_
  have N5 := Fr.snoc X5 N4 g_0
  have K5 := K3.wr W5 (Or.inl (List.mem_of_getElem? (i := 0) rfl))
  have O5 := O3.wr W5 g_0
  have Fw5 := Fld.same W5 (F0c.keep Kc3 nin0)
  show gs T5 m 51 #[vr aS, vr a2, vi 0, vi 1, .val .null, vr tN_3] []
  refine oaloadN X5 hx hby d2_51 rfl rfl ?_
  refine oaload X5 hx hby d2_52 rfl rfl ?_
  show gs T5 m 54 #[vr aS, vr a2, vi 0, vi 1, .val .null, vr tN_3] [(.ref tN_3), (.ref aS)]
  obtain ⟨T6, h6, X6, e6, W6, st6⟩ := putF X5 hx hZ hown (host := "") (Or.inl (own_w hw 32 rfl)) Via.refl e5 (Fld.other W5 (F0v.keep Kc3 nin0) (Or.inr (slot_ne (Or.inr (own_w hw 33 rfl)) (Or.inr (own_w hw 31 rfl)) (by decide) (t := (.array .byte)) (t' := .byte) (by decide) (by decide)))) (Exa.wr W5 (E_0.keep Kc3)) (Or.inr ⟨(own_w hw 33 rfl), rfl, hnm⟩) (own_w hw 6 rfl) (ty := (.array .byte)) (by decide) rfl rfl (g := (mkF m 54 #[vr aS, vr a2, vi 0, vi 1, .val .null, vr tN_3] [(.ref tN_3), (.ref aS)])) rfl rfl (hb hby d2_54)
  refine own_st st6 ?_
  have N6 := Fr.snoc X6 N5 g_0
  have K6 := K5.wr W6 (Or.inl (List.mem_of_getElem? (i := 0) rfl))
  have O6 := O5.wr W6 g_0
  have Fw6 := Fld.same W6 (Fld.other W5 (F0v.keep Kc3 nin0) (Or.inr (slot_ne (Or.inr (own_w hw 33 rfl)) (Or.inr (own_w hw 31 rfl)) (by decide) (t := (.array .byte)) (t' := .byte) (by decide) (by decide))))
  show gs T6 m 57 #[vr aS, vr a2, vi 0, vi 1, .val .null, vr tN_3] []
  exact own_retV X6 hx hlk hret (hb hby d2_57) (by decide) (by decide) (by rw [e6]; exact ⟨tN_3, kN_3, ⟨rfl, N6, K6, (Exa.wr W6 (Exa.wr W5 (E_0.keep Kc3))), (Fld.other W6 Fw5 (Or.inr (slot_ne (Or.inr (own_w hw 31 rfl)) (Or.inr (own_w hw 33 rfl)) (by decide) (t := .byte) (t' := (.array .byte)) (by decide) (by decide)))), Fw6, ((P3_1.other W5 (Ne.symm ne_aS_tN_3)).other W6 (Ne.symm ne_aS_tN_3))⟩⟩)
theorem ef_init1_1 (m : MethodId) (x0 : Addr) (x1 : Addr) : entryFrame m #[(.ref x0), (.ref x1)] 2 = mkF m 0 #[.val (.ref x0), .val (.ref x1)] [] := by first | (simp [entryFrame, mkF, argsToLocals, Value.category]; done) | rfl
def Q_init1_1 (Z : State) (aS : Addr) (a2 : Addr) (kC : ClassId) (c0 : Int32) (zCS : Int32) (h0 : Heap) (n0 : Nat) (v : Option Value) (h : Heap) (L : List Loc) : Prop := ∃ tN : Addr, ∃ kN : ClassId, v = none ∧ Fr n0 L ∧ Keep h0 h [aS] ∧ ek12 Z h aS ∧ fk8 Z h aS (.int 0) ∧ fk9 Z h aS (.ref tN) ∧ Arv Z h tN kN .byte (1 : Int32) [(.int (nar .byte (c0.toInt8.toInt32)))] (.int 0)
theorem rm_init1_1 (l : Launch) (Z : State) (a0 : Array Value) (hw : HW a0 Z) (ws : List Jvm.Cond) (aS : Addr) (a2 : Addr) (kC : ClassId) (c0 : Int32) (zCS : Int32) (h0 : Heap) (n0 : Nat) (Z0 : n0 ≤ h0.size) (O0 : Old Z n0 h0) (E_0 : ek12 Z h0 aS) (g_0 : n0 ≤ aS) (F0v : fk9 Z h0 aS .null) (F0c : fk8 Z h0 aS (.int 0)) (ne02 : aS ≠ a2) (R_C : Arv Z h0 a2 kC .char (1 : Int32) [(.int c0)] (.int 0)) (hC0 : ¬ ((255 : Int32) < c0)) (S_CS : sk0 Z Z.heap (.int zCS)) (P_CS : ¬ zCS = 0) :
    M4 l ws (rmk 3 1 1 52) Z #[(.ref aS), (.ref a2)] h0 (Q_init1_1 Z aS a2 kC c0 zCS h0 n0) := by
  refine own_go "java/lang/String" rfl (plainFor_of_name pn_1) (fun m => ef_init1_1 m aS a2) (fun p e s m below meth c s₁ hx hby hml hown hnm hlk hret hZ X0 e0 => ?_)
  have N0 := Fr.nil n0
  have K0 := Keep.refl h0 [aS]
  show gs s₁ m 0 #[vr aS, vr a2] []
  refine oaloadN X0 hx hby d1_0 rfl rfl ?_
  refine oaloadN X0 hx hby d1_1 rfl rfl ?_
  refine oiconst X0 hx hby d1_2 ?_
  refine oaloadN X0 hx hby d1_3 rfl rfl ?_
  show gs s₁ m 4 #[vr aS, vr a2] [(.ref a2), (.int 0), (.ref a2), (.ref aS)]
  obtain ⟨cl1, Ar1, qa1, qs1, qn1, qh1, qg1⟩ := id R_C
  refine own_st (fun _ kS => X0.arraylength hx (by rw [e0]; exact Ar1.1) (State.isArrayOf_alike hZ.alike Ar1.2.1) (g := (mkF m 4 #[vr aS, vr a2] [(.ref a2), (.int 0), (.ref a2), (.ref aS)])) rfl rfl (hb hby d1_4) _ kS) ?_
  rw [len_of qs1 qn1]
  show gs s₁ m 5 #[vr aS, vr a2] [(.int 1), (.int 0), (.ref a2), (.ref aS)]
  refine own_st (fun _ kS => XS.aconstNull X0.here hx rfl (hb hby d1_5) kS) ?_
  show gs s₁ m 6 #[vr aS, vr a2] [.null, (.int 1), (.int 0), (.ref a2), (.ref aS)]
  refine oN 0 X0 hx hZ hby hml hown (own_w hw 11 rfl) (own_w hw 12 rfl) (own_w hw 7 rfl) (own_w hw 14 rfl) (rm_init4_1 l Z a0 hw [] aS a2 kC c0 zCS h0 n0 Z0 O0 E_0 g_0 F0v F0c ne02 R_C hC0 S_CS P_CS) e0 rfl (by decide) own_pd0 d1_6 rfl rfl rfl (fun T2 L2 v2 X2 hQ2 => ?_)
  obtain ⟨tN_2, kN_2, rfl, Nq2, Kc2, P2_0, P2_1, P2_2, P2_3⟩ := hQ2
  have N2 := Fr.app N0 Nq2
  have K2 := K0.trans Kc2 (allS (Or.inl (List.mem_of_getElem? (i := 0) rfl)) all0)
  have O2 := O0.keep Kc2 (allS g_0 all0)
  show gs T2 m 9 #[vr aS, vr a2] []
  exact own_retV X2 hx hlk hret (hb hby d1_9) (by decide) (by decide) (show Q_init1_1 Z aS a2 kC c0 zCS h0 n0 _ _ _ from ⟨tN_2, kN_2, ⟨rfl, N2, K2, P2_0, P2_1, P2_2, P2_3⟩⟩)
theorem ef_cmpI2 (m : MethodId) (x0 : Addr) (x1 : Addr) : entryFrame m #[(.ref x0), (.int 0), (.ref x1), (.int 0), (.int 2)] 7 = mkF m 0 #[.val (.ref x0), .val (.int 0), .val (.ref x1), .val (.int 0), .val (.int 2), .unset, .unset] [] := by first | (simp [entryFrame, mkF, argsToLocals, Value.category]; done) | rfl
def Q_cmpI2 (Z : State) (a2 : Addr) (kC : ClassId) (tA : Addr) (kA : ClassId) (c0 : Int32) (c1 : Int32) (h0 : Heap) (n0 : Nat) (v : Option Value) (h : Heap) (L : List Loc) : Prop := v = some (.int 2) ∧ Fr n0 L ∧ Keep h0 h [tA] ∧ Arv Z h tA kA .byte (2 : Int32) [(.int (nar .byte (c0.toInt8.toInt32))), (.int (nar .byte (c1.toInt8.toInt32)))] (.int 0)
theorem rm_cmpI2 (l : Launch) (Z : State) (a0 : Array Value) (hw : HW a0 Z) (ws : List Jvm.Cond) (a2 : Addr) (kC : ClassId) (tA : Addr) (kA : ClassId) (c0 : Int32) (c1 : Int32) (h0 : Heap) (n0 : Nat) (Z0 : n0 ≤ h0.size) (R_C : Arv Z h0 a2 kC .char (2 : Int32) [(.int c0), (.int c1)] (.int 0)) (R_A : Arv Z h0 tA kA .byte (2 : Int32) [(.int 0), (.int 0)] (.int 0)) (g_A : n0 ≤ tA) (ne2A : a2 ≠ tA) (hC0 : ¬ ((255 : Int32) < c0)) (hC1 : ¬ ((255 : Int32) < c1)) :
    M0 l ws (rmk 0 0 0 0) Z #[(.ref a2), (.int 0), (.ref tA), (.int 0), (.int 2)] h0 (Q_cmpI2 Z a2 kC tA kA c0 c1 h0 n0) := by
  refine own_go "java/lang/StringUTF16" rfl (plainFor_of_name pn_5) (fun m => ef_cmpI2 m a2 tA) (fun p e s m below meth c s₁ hx hby hml hown hnm hlk hret hZ X0 e0 => ?_)
  have N0 := Fr.nil n0
  have K0 := Keep.refl h0 [tA]
  show gs s₁ m 0 #[vr a2, vi 0, vr tA, vi 0, vi 2, .unset, .unset] []
  refine oiconst X0 hx hby d5_0 ?_
  refine own_st (fun _ kS => XS.istore X0.here hx rfl (hb hby d5_1) rfl (l' := #[vr a2, vi 0, vr tA, vi 0, vi 2, vi 0, .unset]) rfl kS) ?_
  refine oiload X0 hx hby d5_3 rfl ?_
  refine oiload X0 hx hby d5_5 rfl ?_
  refine own_st (fun _ kS => XS.icmpNo X0.here hx rfl (hb hby d5_7) rfl (tlt (by decide : (0 : Int32) < (2 : Int32))).2.1 kS) ?_
  show gs s₁ m 10 #[vr a2, vi 0, vr tA, vi 0, vi 2, vi 0, .unset] []
  refine oaloadN X0 hx hby d5_10 rfl rfl ?_
  refine oiloadN X0 hx hby d5_11 rfl ?_
  show gs s₁ m 12 #[vr a2, vi 0, vr tA, vi 0, vi 2, vi 0, .unset] [(.int 0), (.ref a2)]
  obtain ⟨cl1, Ar1, qa1, qs1, qn1, qh1, qg1⟩ := id R_C
  refine own_st (fun _ kS => X0.caload hx (j := (0 : Int32)) (v := (.int c0)) (by rw [e0]; exact Ar1.1) (State.isArrayOf_alike hZ.alike Ar1.2.1) Ar1.2.2 (inb_of qs1 ⟨by decide, by decide⟩) (qh1.at (inb_of qs1 ⟨by decide, by decide⟩) rfl) (g := (mkF m 12 #[vr a2, vi 0, vr tA, vi 0, vi 2, vi 0, .unset] [(.int 0), (.ref a2)])) rfl rfl (hb hby d5_12) _ kS) ?_
  show gs s₁ m 13 #[vr a2, vi 0, vr tA, vi 0, vi 2, vi 0, .unset] [(.int c0)]
  refine own_st (fun _ kS => XS.istore X0.here hx rfl (hb hby d5_13) rfl (l' := #[vr a2, vi 0, vr tA, vi 0, vi 2, vi 0, vi c0]) rfl kS) ?_
  refine oiload X0 hx hby d5_15 rfl ?_
  refine own_st (fun _ kS => XS.sipush X0.here hx rfl (hb hby d5_17) kS) ?_
  show gs s₁ m 20 #[vr a2, vi 0, vr tA, vi 0, vi 2, vi 0, vi c0] [(.int 255), (.int c0)]
  refine own_st (fun _ kS => XS.icmpYes X0.here hx rfl (pc0 := 20) (pc' := 26) rfl (hb hby d5_20) rfl (flt (hC0 : ¬ ((255 : Int32) < c0))).2.2.2 (by decide) (by decide) kS) ?_
  show gs s₁ m 26 #[vr a2, vi 0, vr tA, vi 0, vi 2, vi 0, vi c0] []
  refine oaloadN X0 hx hby d5_26 rfl rfl ?_
  refine oiloadN X0 hx hby d5_27 rfl ?_
  refine oiload X0 hx hby d5_28 rfl ?_
  refine own_st (fun _ kS => XT.i2b X0.here hx rfl (hb hby d5_30) rfl kS) ?_
  show gs s₁ m 31 #[vr a2, vi 0, vr tA, vi 0, vi 2, vi 0, vi c0] [(.int (c0.toInt8.toInt32)), (.int 0), (.ref tA)]
  obtain ⟨cl2, Ar2, qa2, qs2, qn2, qh2, qg2⟩ := id R_A
  obtain ⟨T2, h2, X2, e2, W2, st2⟩ := stB X0 hx hZ e0 Ar2 (j := (0 : Int32)) (inb_of qs2 ⟨by decide, by decide⟩) (g := (mkF m 31 #[vr a2, vi 0, vr tA, vi 0, vi 2, vi 0, vi c0] [(.int (c0.toInt8.toInt32)), (.int 0), (.ref tA)])) rfl rfl (hb hby d5_31)
  have N2 := Fr.snoc X2 N0 g_A
  have K2 := K0.wr W2 (Or.inl (List.mem_of_getElem? (i := 0) rfl))
  have R2 : Arv Z h2 tA kA .byte (2 : Int32) [(.int (nar .byte (c0.toInt8.toInt32))), (.int 0)] (.int 0) := Arv.set Ar2 qa2 qs2 qn2 qh2 qg2 (fits_nar_byte _) W2 0 rfl (Nat.le_of_ble_eq_true rfl)
  refine own_st st2 ?_
  show gs T2 m 32 #[vr a2, vi 0, vr tA, vi 0, vi 2, vi 0, vi c0] []
  refine own_st (fun _ kS => XS.iinc X2.here hx rfl (hb hby d5_32) rfl (l' := #[vr a2, vi 1, vr tA, vi 0, vi 2, vi 0, vi c0]) rfl kS) ?_
  refine own_st (fun _ kS => XS.iinc X2.here hx rfl (hb hby d5_35) rfl (l' := #[vr a2, vi 1, vr tA, vi 1, vi 2, vi 0, vi c0]) rfl kS) ?_
  refine own_st (fun _ kS => XS.iinc X2.here hx rfl (hb hby d5_38) rfl (l' := #[vr a2, vi 1, vr tA, vi 1, vi 2, vi 1, vi c0]) rfl kS) ?_
  refine own_st (fun _ kS => XS.goto X2.here hx rfl (pc0 := 41) (pc' := 3) rfl (hb hby d5_41) (by decide) (by decide) kS) ?_
  refine oiload X2 hx hby d5_3 rfl ?_
  refine oiload X2 hx hby d5_5 rfl ?_
  refine own_st (fun _ kS => XS.icmpNo X2.here hx rfl (hb hby d5_7) rfl (tlt (by decide : (1 : Int32) < (2 : Int32))).2.1 kS) ?_
  show gs T2 m 10 #[vr a2, vi 1, vr tA, vi 1, vi 2, vi 1, vi c0] []
  refine oaloadN X2 hx hby d5_10 rfl rfl ?_
  refine oiloadN X2 hx hby d5_11 rfl ?_
  show gs T2 m 12 #[vr a2, vi 1, vr tA, vi 1, vi 2, vi 1, vi c0] [(.int 1), (.ref a2)]
  obtain ⟨cl3, Ar3, qa3, qs3, qn3, qh3, qg3⟩ := id (R_C.other W2 ne2A)
  refine own_st (fun _ kS => X2.caload hx (j := (1 : Int32)) (v := (.int c1)) (by rw [e2]; exact Ar3.1) (State.isArrayOf_alike hZ.alike Ar3.2.1) Ar3.2.2 (inb_of qs3 ⟨by decide, by decide⟩) (qh3.at (inb_of qs3 ⟨by decide, by decide⟩) rfl) (g := (mkF m 12 #[vr a2, vi 1, vr tA, vi 1, vi 2, vi 1, vi c0] [(.int 1), (.ref a2)])) rfl rfl (hb hby d5_12) _ kS) ?_
  show gs T2 m 13 #[vr a2, vi 1, vr tA, vi 1, vi 2, vi 1, vi c0] [(.int c1)]
  refine own_st (fun _ kS => XS.istore X2.here hx rfl (hb hby d5_13) rfl (l' := #[vr a2, vi 1, vr tA, vi 1, vi 2, vi 1, vi c1]) rfl kS) ?_
  refine oiload X2 hx hby d5_15 rfl ?_
  refine own_st (fun _ kS => XS.sipush X2.here hx rfl (hb hby d5_17) kS) ?_
  show gs T2 m 20 #[vr a2, vi 1, vr tA, vi 1, vi 2, vi 1, vi c1] [(.int 255), (.int c1)]
  refine own_st (fun _ kS => XS.icmpYes X2.here hx rfl (pc0 := 20) (pc' := 26) rfl (hb hby d5_20) rfl (flt (hC1 : ¬ ((255 : Int32) < c1))).2.2.2 (by decide) (by decide) kS) ?_
  show gs T2 m 26 #[vr a2, vi 1, vr tA, vi 1, vi 2, vi 1, vi c1] []
  refine oaloadN X2 hx hby d5_26 rfl rfl ?_
  refine oiloadN X2 hx hby d5_27 rfl ?_
  refine oiload X2 hx hby d5_28 rfl ?_
  refine own_st (fun _ kS => XT.i2b X2.here hx rfl (hb hby d5_30) rfl kS) ?_
  show gs T2 m 31 #[vr a2, vi 1, vr tA, vi 1, vi 2, vi 1, vi c1] [(.int (c1.toInt8.toInt32)), (.int 1), (.ref tA)]
  obtain ⟨cl4, Ar4, qa4, qs4, qn4, qh4, qg4⟩ := id R2
  obtain ⟨T4, h4, X4, e4, W4, st4⟩ := stB X2 hx hZ e2 Ar4 (j := (1 : Int32)) (inb_of qs4 ⟨by decide, by decide⟩) (g := (mkF m 31 #[vr a2, vi 1, vr tA, vi 1, vi 2, vi 1, vi c1] [(.int (c1.toInt8.toInt32)), (.int 1), (.ref tA)])) rfl rfl (hb hby d5_31)
  have N4 := Fr.snoc X4 N2 g_A
  have K4 := K2.wr W4 (Or.inl (List.mem_of_getElem? (i := 0) rfl))
  have R4 : Arv Z h4 tA kA .byte (2 : Int32) [(.int (nar .byte (c0.toInt8.toInt32))), (.int (nar .byte (c1.toInt8.toInt32)))] (.int 0) := Arv.set Ar4 qa4 qs4 qn4 qh4 qg4 (fits_nar_byte _) W4 1 rfl (Nat.le_of_ble_eq_true rfl)
  refine own_st st4 ?_
  show gs T4 m 32 #[vr a2, vi 1, vr tA, vi 1, vi 2, vi 1, vi c1] []
  refine own_st (fun _ kS => XS.iinc X4.here hx rfl (hb hby d5_32) rfl (l' := #[vr a2, vi 2, vr tA, vi 1, vi 2, vi 1, vi c1]) rfl kS) ?_
  refine own_st (fun _ kS => XS.iinc X4.here hx rfl (hb hby d5_35) rfl (l' := #[vr a2, vi 2, vr tA, vi 2, vi 2, vi 1, vi c1]) rfl kS) ?_
  refine own_st (fun _ kS => XS.iinc X4.here hx rfl (hb hby d5_38) rfl (l' := #[vr a2, vi 2, vr tA, vi 2, vi 2, vi 2, vi c1]) rfl kS) ?_
  refine own_st (fun _ kS => XS.goto X4.here hx rfl (pc0 := 41) (pc' := 3) rfl (hb hby d5_41) (by decide) (by decide) kS) ?_
  refine oiload X4 hx hby d5_3 rfl ?_
  refine oiload X4 hx hby d5_5 rfl ?_
  refine own_st (fun _ kS => XS.icmpYes X4.here hx rfl (pc0 := 7) (pc' := 44) rfl (hb hby d5_7) rfl (flt (by decide : ¬ ((2 : Int32) < (2 : Int32)))).2.1 (by decide) (by decide) kS) ?_
  show gs T4 m 44 #[vr a2, vi 2, vr tA, vi 2, vi 2, vi 2, vi c1] []
  refine oiload X4 hx hby d5_44 rfl ?_
  exact own_retI X4 hx hlk hret (hb hby d5_46) (by decide) (by decide) (by rw [e4]; exact ⟨rfl, N4, K4, R4⟩)
theorem ef_cmpA2 (m : MethodId) (x0 : Addr) : entryFrame m #[(.ref x0), (.int 0), (.int 2)] 6 = mkF m 0 #[.val (.ref x0), .val (.int 0), .val (.int 2), .unset, .unset, .unset] [] := by first | (simp [entryFrame, mkF, argsToLocals, Value.category]; done) | rfl
def Q_cmpA2 (Z : State) (a2 : Addr) (kC : ClassId) (c0 : Int32) (c1 : Int32) (h0 : Heap) (n0 : Nat) (v : Option Value) (h : Heap) (L : List Loc) : Prop := ∃ tN : Addr, ∃ kN : ClassId, v = some (.ref tN) ∧ Fr n0 L ∧ Keep h0 h [] ∧ h0.size ≤ tN ∧ Arv Z h tN kN .byte (2 : Int32) [(.int (nar .byte (c0.toInt8.toInt32))), (.int (nar .byte (c1.toInt8.toInt32)))] (.int 0)
theorem rm_cmpA2 (l : Launch) (Z : State) (a0 : Array Value) (hw : HW a0 Z) (ws : List Jvm.Cond) (a2 : Addr) (kC : ClassId) (c0 : Int32) (c1 : Int32) (h0 : Heap) (n0 : Nat) (Z0 : n0 ≤ h0.size) (R_C : Arv Z h0 a2 kC .char (2 : Int32) [(.int c0), (.int c1)] (.int 0)) (hC0 : ¬ ((255 : Int32) < c0)) (hC1 : ¬ ((255 : Int32) < c1)) :
    M1 l ws (rmk 1 1 2 18) Z #[(.ref a2), (.int 0), (.int 2)] h0 (Q_cmpA2 Z a2 kC c0 c1 h0 n0) := by
  refine own_go "java/lang/StringUTF16" rfl (plainFor_of_name pn_4) (fun m => ef_cmpA2 m a2) (fun p e s m below meth c s₁ hx hby hml hown hnm hlk hret hZ X0 e0 => ?_)
  have N0 := Fr.nil n0
  have K0 := Keep.refl h0 []
  show gs s₁ m 0 #[vr a2, vi 0, vi 2, .unset, .unset, .unset] []
  refine oiloadN X0 hx hby d4_0 rfl ?_
  show gs s₁ m 1 #[vr a2, vi 0, vi 2, .unset, .unset, .unset] [(.int 2)]
  obtain ⟨T1, h1, k1, X1, e1, E1, A1, st1⟩ := newP X0 hx hZ (own_w hw 23 rfl) e0 (g := (mkF m 1 #[vr a2, vi 0, vi 2, .unset, .unset, .unset] [(.int 2)])) rfl (hb hby d4_1) rfl (by decide) (cap := 2) (by decide) (by decide) (by decide) (by decide)
  obtain ⟨b1, g1⟩ : ∃ z, z = h0.size := ⟨_, rfl⟩
  have ne_a2_b1 : a2 ≠ b1 := Nat.ne_of_lt (Nat.lt_of_lt_of_eq R_C.lt g1.symm)
  have ge_b1 : n0 ≤ b1 := Nat.le_trans Z0 (Nat.le_of_eq g1.symm)
  have sz_b1 : h0.size ≤ b1 := Nat.le_trans K0.1 (Nat.le_of_eq g1.symm)
  rw [← g1] at A1 st1
  have K1 := K0.ext E1
  have R1 : Arv Z h1 b1 k1 .byte (2 : Int32) [(.int 0), (.int 0)] (.int 0) := (Arv.new A1 (by decide)).pad (pad_rep [] (.int 0) 2)
  refine own_st st1 ?_
  show gs T1 m 3 #[vr a2, vi 0, vi 2, .unset, .unset, .unset] [(.ref b1)]
  refine own_st (fun _ kS => XS.astoreN X1.here hx rfl (hb hby d4_3) rfl rfl (l' := #[vr a2, vi 0, vi 2, vr b1, .unset, .unset]) rfl kS) ?_
  refine oaloadN X1 hx hby d4_4 rfl rfl ?_
  refine oiloadN X1 hx hby d4_5 rfl ?_
  refine oaloadN X1 hx hby d4_6 rfl rfl ?_
  refine oiconst X1 hx hby d4_7 ?_
  refine oiloadN X1 hx hby d4_8 rfl ?_
  refine oS 0 X1 hx hZ hby hml hown (own_w hw 24 rfl) (own_w hw 25 rfl) (own_w hw 21 rfl) (own_w hw 26 rfl) (rm_cmpI2 l Z a0 hw [] a2 kC b1 k1 c0 c1 h1 n0 (Nat.le_trans Z0 E1.1)  (Arv.ext R_C E1) R1 ge_b1 ne_a2_b1 hC0 hC1) e1 (by decide) own_pd1 d4_9 rfl rfl rfl (fun T2 L2 v2 X2 hQ2 => ?_)
  obtain ⟨rfl, Nq2, Kc2, P2_0⟩ := hQ2
  have N2 := Fr.app N0 Nq2
  have K2 := K1.trans Kc2 (allS (Or.inr sz_b1) all0)
  show gs T2 m 12 #[vr a2, vi 0, vi 2, vr b1, .unset, .unset] [(.int 2)]
  refine own_st (fun _ kS => XS.istore X2.here hx rfl (hb hby d4_12) rfl (l' := #[vr a2, vi 0, vi 2, vr b1, vi 2, .unset]) rfl kS) ?_
  refine oiload X2 hx hby d4_14 rfl ?_
  refine oiloadN X2 hx hby d4_16 rfl ?_
  refine own_st (fun _ kS => XS.icmpYes X2.here hx rfl (pc0 := 17) (pc' := 57) rfl (hb hby d4_17) rfl (teq (by decide : (2 : Int32) = (2 : Int32))).1 (by decide) (by decide) kS) ?_
  show gs T2 m 57 #[vr a2, vi 0, vi 2, vr b1, vi 2, .unset] []
  refine oaloadN X2 hx hby d4_57 rfl rfl ?_
  exact own_retA X2 hx hlk hret rfl rfl (hb hby d4_58) (by decide) (by decide) (show Q_cmpA2 Z a2 kC c0 c1 h0 n0 _ _ _ from ⟨b1, k1, ⟨rfl, N2, K2, sz_b1, P2_0⟩⟩)
theorem ef_cfal2 (m : MethodId) (x0 : Addr) : entryFrame m #[(.ref x0), (.int 2)] 2 = mkF m 0 #[.val (.ref x0), .val (.int 2)] [] := by first | (simp [entryFrame, mkF, argsToLocals, Value.category]; done) | rfl
def Q_cfal2 (Z : State) (tA : Addr) (kA : ClassId) (y0 : Int32) (y1 : Int32) (h0 : Heap) (n0 : Nat) (v : Option Value) (h : Heap) (L : List Loc) : Prop := v = some (.int 0) ∧ Fr n0 L ∧ h = h0
theorem rm_cfal2 (l : Launch) (Z : State) (a0 : Array Value) (hw : HW a0 Z) (ws : List Jvm.Cond) (tA : Addr) (kA : ClassId) (y0 : Int32) (y1 : Int32) (h0 : Heap) (n0 : Nat) (Z0 : n0 ≤ h0.size) (R_A : Arv Z h0 tA kA .byte (2 : Int32) [(.int y0), (.int y1)] (.int 0)) :
    M2 l ws (rmk 0 0 0 0) Z #[(.ref tA), (.int 2)] h0 (Q_cfal2 Z tA kA y0 y1 h0 n0) := by
  refine own_go "java/lang/StringUTF16" rfl (plainFor_of_name pn_6) (fun m => ef_cfal2 m tA) (fun p e s m below meth c s₁ hx hby hml hown hnm hlk hret hZ X0 e0 => ?_)
  have N0 := Fr.nil n0
  show gs s₁ m 0 #[vr tA, vi 2] []
  refine oiloadN X0 hx hby d6_0 rfl ?_
  refine oaloadN X0 hx hby d6_1 rfl rfl ?_
  show gs s₁ m 2 #[vr tA, vi 2] [(.ref tA), (.int 2)]
  obtain ⟨cl1, Ar1, qa1, qs1, qn1, qh1, qg1⟩ := id R_A
  refine own_st (fun _ kS => X0.arraylength hx (by rw [e0]; exact Ar1.1) (State.isArrayOf_alike hZ.alike Ar1.2.1) (g := (mkF m 2 #[vr tA, vi 2] [(.ref tA), (.int 2)])) rfl rfl (hb hby d6_2) _ kS) ?_
  rw [len_of qs1 qn1]
  show gs s₁ m 3 #[vr tA, vi 2] [(.int 2), (.int 2)]
  refine own_st (fun _ kS => XS.isub X0.here hx rfl (hb hby d6_3) rfl kS) ?_
  refine own_st (fun _ kS => XS.bipush X0.here hx rfl (hb hby d6_4) kS) ?_
  refine own_st (fun _ kS => XT.iushr X0.here hx rfl (hb hby d6_6) rfl kS) ?_
  refine own_st (fun _ kS => XT.i2b X0.here hx rfl (hb hby d6_7) rfl kS) ?_
  show gs s₁ m 8 #[vr tA, vi 2] [(.int 0)]
  exact own_retN X0 hx hlk (t := .byte) hret (by simp) (hb hby d6_8) (by decide) (by decide) (v' := (0 : Int32)) rfl (by rw [e0]; exact ⟨rfl, N0, rfl⟩)
theorem ef_init4_2 (m : MethodId) (x0 : Addr) (x1 : Addr) : entryFrame m #[(.ref x0), (.ref x1), (.int 0), (.int 2), .null] 6 = mkF m 0 #[.val (.ref x0), .val (.ref x1), .val (.int 0), .val (.int 2), .val .null, .unset] [] := by first | (simp [entryFrame, mkF, argsToLocals, Value.category]; done) | rfl
def Q_init4_2 (Z : State) (aS : Addr) (a2 : Addr) (kC : ClassId) (c0 : Int32) (c1 : Int32) (zCS : Int32) (h0 : Heap) (n0 : Nat) (v : Option Value) (h : Heap) (L : List Loc) : Prop := ∃ tN : Addr, ∃ kN : ClassId, v = none ∧ Fr n0 L ∧ Keep h0 h [aS] ∧ ek12 Z h aS ∧ fk8 Z h aS (.int 0) ∧ fk9 Z h aS (.ref tN) ∧ Arv Z h tN kN .byte (2 : Int32) [(.int (nar .byte (c0.toInt8.toInt32))), (.int (nar .byte (c1.toInt8.toInt32)))] (.int 0)
theorem rm_init4_2 (l : Launch) (Z : State) (a0 : Array Value) (hw : HW a0 Z) (ws : List Jvm.Cond) (aS : Addr) (a2 : Addr) (kC : ClassId) (c0 : Int32) (c1 : Int32) (zCS : Int32) (h0 : Heap) (n0 : Nat) (Z0 : n0 ≤ h0.size) (O0 : Old Z n0 h0) (E_0 : ek12 Z h0 aS) (g_0 : n0 ≤ aS) (F0v : fk9 Z h0 aS .null) (F0c : fk8 Z h0 aS (.int 0)) (ne02 : aS ≠ a2) (R_C : Arv Z h0 a2 kC .char (2 : Int32) [(.int c0), (.int c1)] (.int 0)) (hC0 : ¬ ((255 : Int32) < c0)) (hC1 : ¬ ((255 : Int32) < c1)) (S_CS : sk0 Z Z.heap (.int zCS)) (P_CS : ¬ zCS = 0) :
    M3 l ws (rmk 2 1 2 35) Z #[(.ref aS), (.ref a2), (.int 0), (.int 2), .null] h0 (Q_init4_2 Z aS a2 kC c0 c1 zCS h0 n0) := by
  refine own_go "java/lang/String" rfl (plainFor_of_name pn_2) (fun m => ef_init4_2 m aS a2) (fun p e s m below meth c s₁ hx hby hml hown hnm hlk hret hZ X0 e0 => ?_)
  have N0 := Fr.nil n0
  have K0 := Keep.refl h0 [aS]
  show gs s₁ m 0 #[vr aS, vr a2, vi 0, vi 2, .val .null, .unset] []
  refine oaloadN X0 hx hby d2_0 rfl rfl ?_
  obtain ⟨T1, X1, e1, st1⟩ := initO X0 hx hZ hown (own_w hw 15 rfl) (own_w hw 16 rfl) (own_w hw 17 rfl) e0 (g := (mkF m 1 #[vr aS, vr a2, vi 0, vi 2, .val .null, .unset] [(.ref aS)])) rfl (by rw [hml]; rfl) rfl (hb hby d2_1) (by decide) (W := 0) (by show 2 * 0 + _ ≤ _; exact Nat.le_of_eq rfl) (by decide)
  refine own_st st1 ?_
  show gs T1 m 4 #[vr aS, vr a2, vi 0, vi 2, .val .null, .unset] []
  refine oiloadN X1 hx hby d2_4 rfl ?_
  refine own_st (fun _ kS => XS.ifYes X1.here hx rfl (pc0 := 5) (pc' := 27) rfl (hb hby d2_5) rfl ((if0 _ _).trans (feq (by decide : ¬ ((2 : Int32) = (0 : Int32)))).2) (by decide) (by decide) kS) ?_
  show gs T1 m 27 #[vr aS, vr a2, vi 0, vi 2, .val .null, .unset] []
  obtain ⟨T2, X2, e2, st2⟩ := getS2 X1 hx hZ hown (host := "") (Or.inl (own_w hw 18 rfl)) Via.refl e1 (Sta.ext O0.2 S_CS) (g := (mkF m 27 #[vr aS, vr a2, vi 0, vi 2, .val .null, .unset] [])) rfl (hb hby d2_27)
  refine own_st st2 ?_
  show gs T2 m 30 #[vr aS, vr a2, vi 0, vi 2, .val .null, .unset] [(.int zCS)]
  refine own_st (fun _ kS => XS.ifNo X2.here hx rfl (hb hby d2_30) rfl ((if0 _ _).trans (feq (P_CS : ¬ (zCS = (0 : Int32)))).1) kS) ?_
  show gs T2 m 33 #[vr aS, vr a2, vi 0, vi 2, .val .null, .unset] []
  refine oaloadN X2 hx hby d2_33 rfl rfl ?_
  refine oiloadN X2 hx hby d2_34 rfl ?_
  refine oiloadN X2 hx hby d2_35 rfl ?_
  refine oS 0 X2 hx hZ hby hml hown (own_w hw 19 rfl) (own_w hw 20 rfl) (own_w hw 21 rfl) (own_w hw 22 rfl) (rm_cmpA2 l Z a0 hw [] a2 kC c0 c1 h0 n0 Z0  R_C hC0 hC1) e2 (by decide) own_pd2 d2_36 rfl rfl rfl (fun T3 L3 v3 X3 hQ3 => ?_)
  obtain ⟨tN_3, kN_3, rfl, Nq3, Kc3, P3_0, P3_1⟩ := hQ3
  have N3 := Fr.app N0 Nq3
  have ne_aS_tN_3 : aS ≠ tN_3 := Nat.ne_of_lt (Nat.lt_of_lt_of_le E_0.lt P3_0)
  have ne_a2_tN_3 : a2 ≠ tN_3 := Nat.ne_of_lt (Nat.lt_of_lt_of_le R_C.lt P3_0)
  have ge_tN_3 : n0 ≤ tN_3 := Nat.le_trans Z0 P3_0
  have sz_tN_3 : h0.size ≤ tN_3 := Nat.le_trans K0.1 P3_0
  have K3 := K0.trans Kc3 all0
  have O3 := O0.keep Kc3 all0
  show gs T3 m 39 #[vr aS, vr a2, vi 0, vi 2, .val .null, .unset] [(.ref tN_3)]
  refine own_st (fun _ kS => XS.astore X3.here hx rfl (hb hby d2_39) rfl rfl (l' := #[vr aS, vr a2, vi 0, vi 2, .val .null, vr tN_3]) rfl kS) ?_
  refine oaloadN X3 hx hby d2_41 rfl rfl ?_
  refine oaload X3 hx hby d2_42 rfl rfl ?_
  refine oiloadN X3 hx hby d2_44 rfl ?_
  refine oS 1 X3 hx hZ hby hml hown (own_w hw 27 rfl) (own_w hw 28 rfl) (own_w hw 21 rfl) (own_w hw 29 rfl) (rm_cfal2 l Z a0 hw [] tN_3 kN_3 (nar .byte (c0.toInt8.toInt32)) (nar .byte (c1.toInt8.toInt32)) T3.heap n0 (Nat.le_trans Z0 Kc3.1)  P3_1) rfl (by decide) own_pd3 d2_45 rfl rfl rfl (fun T4 L4 v4 X4 hQ4 => ?_)
  obtain ⟨rfl, Nq4, eq4⟩ := hQ4
  have N4 := Fr.app N3 Nq4
  show gs T4 m 48 #[vr aS, vr a2, vi 0, vi 2, .val .null, vr tN_3] [(.int 0), (.ref aS)]
  obtain ⟨T5, h5, X5, e5, W5, st5⟩ := putFN X4 hx hZ hown (own_w hw 30 rfl) Via.refl eq4 (F0c.keep Kc3 nin0) (E_0.keep Kc3) (Or.inr ⟨(own_w hw 31 rfl), rfl, hnm⟩) (own_w hw 6 rfl) (ty := .byte) (v' := (.int 0)) (by decide) rfl (by decide) (g := (mkF m 48 #[vr aS, vr a2, vi 0, vi 2, .val .null, vr tN_3] [(.int 0), (.ref aS)])) rfl rfl (hb hby d2_48)
  refine own_st st5 ?_
  have N5 := Fr.snoc X5 N4 g_0
  have K5 := K3.wr W5 (Or.inl (List.mem_of_getElem? (i := 0) rfl))
  have O5 := O3.wr W5 g_0
  have Fw5 := Fld.same W5 (F0c.keep Kc3 nin0)
  show gs T5 m 51 #[vr aS, vr a2, vi 0, vi 2, .val .null, vr tN_3] []
  refine oaloadN X5 hx hby d2_51 rfl rfl ?_
  refine oaload X5 hx hby d2_52 rfl rfl ?_
  show gs T5 m 54 #[vr aS, vr a2, vi 0, vi 2, .val .null, vr tN_3] [(.ref tN_3), (.ref aS)]
  obtain ⟨T6, h6, X6, e6, W6, st6⟩ := putF X5 hx hZ hown (host := "") (Or.inl (own_w hw 32 rfl)) Via.refl e5 (Fld.other W5 (F0v.keep Kc3 nin0) (Or.inr (slot_ne (Or.inr (own_w hw 33 rfl)) (Or.inr (own_w hw 31 rfl)) (by decide) (t := (.array .byte)) (t' := .byte) (by decide) (by decide)))) (Exa.wr W5 (E_0.keep Kc3)) (Or.inr ⟨(own_w hw 33 rfl), rfl, hnm⟩) (own_w hw 6 rfl) (ty := (.array .byte)) (by decide) rfl rfl (g := (mkF m 54 #[vr aS, vr a2, vi 0, vi 2, .val .null, vr tN_3] [(.ref tN_3), (.ref aS)])) rfl rfl (hb hby d2_54)
  refine own_st st6 ?_
  have N6 := Fr.snoc X6 N5 g_0
  have K6 := K5.wr W6 (Or.inl (List.mem_of_getElem? (i := 0) rfl))
  have O6 := O5.wr W6 g_0
  have Fw6 := Fld.same W6 (Fld.other W5 (F0v.keep Kc3 nin0) (Or.inr (slot_ne (Or.inr (own_w hw 33 rfl)) (Or.inr (own_w hw 31 rfl)) (by decide) (t := (.array .byte)) (t' := .byte) (by decide) (by decide))))
  show gs T6 m 57 #[vr aS, vr a2, vi 0, vi 2, .val .null, vr tN_3] []
  exact own_retV X6 hx hlk hret (hb hby d2_57) (by decide) (by decide) (by rw [e6]; exact ⟨tN_3, kN_3, ⟨rfl, N6, K6, (Exa.wr W6 (Exa.wr W5 (E_0.keep Kc3))), (Fld.other W6 Fw5 (Or.inr (slot_ne (Or.inr (own_w hw 31 rfl)) (Or.inr (own_w hw 33 rfl)) (by decide) (t := .byte) (t' := (.array .byte)) (by decide) (by decide)))), Fw6, ((P3_1.other W5 (Ne.symm ne_aS_tN_3)).other W6 (Ne.symm ne_aS_tN_3))⟩⟩)
theorem ef_init1_2 (m : MethodId) (x0 : Addr) (x1 : Addr) : entryFrame m #[(.ref x0), (.ref x1)] 2 = mkF m 0 #[.val (.ref x0), .val (.ref x1)] [] := by first | (simp [entryFrame, mkF, argsToLocals, Value.category]; done) | rfl
def Q_init1_2 (Z : State) (aS : Addr) (a2 : Addr) (kC : ClassId) (c0 : Int32) (c1 : Int32) (zCS : Int32) (h0 : Heap) (n0 : Nat) (v : Option Value) (h : Heap) (L : List Loc) : Prop := ∃ tN : Addr, ∃ kN : ClassId, v = none ∧ Fr n0 L ∧ Keep h0 h [aS] ∧ ek12 Z h aS ∧ fk8 Z h aS (.int 0) ∧ fk9 Z h aS (.ref tN) ∧ Arv Z h tN kN .byte (2 : Int32) [(.int (nar .byte (c0.toInt8.toInt32))), (.int (nar .byte (c1.toInt8.toInt32)))] (.int 0)
theorem rm_init1_2 (l : Launch) (Z : State) (a0 : Array Value) (hw : HW a0 Z) (ws : List Jvm.Cond) (aS : Addr) (a2 : Addr) (kC : ClassId) (c0 : Int32) (c1 : Int32) (zCS : Int32) (h0 : Heap) (n0 : Nat) (Z0 : n0 ≤ h0.size) (O0 : Old Z n0 h0) (E_0 : ek12 Z h0 aS) (g_0 : n0 ≤ aS) (F0v : fk9 Z h0 aS .null) (F0c : fk8 Z h0 aS (.int 0)) (ne02 : aS ≠ a2) (R_C : Arv Z h0 a2 kC .char (2 : Int32) [(.int c0), (.int c1)] (.int 0)) (hC0 : ¬ ((255 : Int32) < c0)) (hC1 : ¬ ((255 : Int32) < c1)) (S_CS : sk0 Z Z.heap (.int zCS)) (P_CS : ¬ zCS = 0) :
    M4 l ws (rmk 3 1 2 52) Z #[(.ref aS), (.ref a2)] h0 (Q_init1_2 Z aS a2 kC c0 c1 zCS h0 n0) := by
  refine own_go "java/lang/String" rfl (plainFor_of_name pn_1) (fun m => ef_init1_2 m aS a2) (fun p e s m below meth c s₁ hx hby hml hown hnm hlk hret hZ X0 e0 => ?_)
  have N0 := Fr.nil n0
  have K0 := Keep.refl h0 [aS]
  show gs s₁ m 0 #[vr aS, vr a2] []
  refine oaloadN X0 hx hby d1_0 rfl rfl ?_
  refine oaloadN X0 hx hby d1_1 rfl rfl ?_
  refine oiconst X0 hx hby d1_2 ?_
  refine oaloadN X0 hx hby d1_3 rfl rfl ?_
  show gs s₁ m 4 #[vr aS, vr a2] [(.ref a2), (.int 0), (.ref a2), (.ref aS)]
  obtain ⟨cl1, Ar1, qa1, qs1, qn1, qh1, qg1⟩ := id R_C
  refine own_st (fun _ kS => X0.arraylength hx (by rw [e0]; exact Ar1.1) (State.isArrayOf_alike hZ.alike Ar1.2.1) (g := (mkF m 4 #[vr aS, vr a2] [(.ref a2), (.int 0), (.ref a2), (.ref aS)])) rfl rfl (hb hby d1_4) _ kS) ?_
  rw [len_of qs1 qn1]
  show gs s₁ m 5 #[vr aS, vr a2] [(.int 2), (.int 0), (.ref a2), (.ref aS)]
  refine own_st (fun _ kS => XS.aconstNull X0.here hx rfl (hb hby d1_5) kS) ?_
  show gs s₁ m 6 #[vr aS, vr a2] [.null, (.int 2), (.int 0), (.ref a2), (.ref aS)]
  refine oN 0 X0 hx hZ hby hml hown (own_w hw 11 rfl) (own_w hw 12 rfl) (own_w hw 7 rfl) (own_w hw 14 rfl) (rm_init4_2 l Z a0 hw [] aS a2 kC c0 c1 zCS h0 n0 Z0 O0 E_0 g_0 F0v F0c ne02 R_C hC0 hC1 S_CS P_CS) e0 rfl (by decide) own_pd0 d1_6 rfl rfl rfl (fun T2 L2 v2 X2 hQ2 => ?_)
  obtain ⟨tN_2, kN_2, rfl, Nq2, Kc2, P2_0, P2_1, P2_2, P2_3⟩ := hQ2
  have N2 := Fr.app N0 Nq2
  have K2 := K0.trans Kc2 (allS (Or.inl (List.mem_of_getElem? (i := 0) rfl)) all0)
  have O2 := O0.keep Kc2 (allS g_0 all0)
  show gs T2 m 9 #[vr aS, vr a2] []
  exact own_retV X2 hx hlk hret (hb hby d1_9) (by decide) (by decide) (show Q_init1_2 Z aS a2 kC c0 c1 zCS h0 n0 _ _ _ from ⟨tN_2, kN_2, ⟨rfl, N2, K2, P2_0, P2_1, P2_2, P2_3⟩⟩)
theorem ef_cmpI3 (m : MethodId) (x0 : Addr) (x1 : Addr) : entryFrame m #[(.ref x0), (.int 0), (.ref x1), (.int 0), (.int 3)] 7 = mkF m 0 #[.val (.ref x0), .val (.int 0), .val (.ref x1), .val (.int 0), .val (.int 3), .unset, .unset] [] := by first | (simp [entryFrame, mkF, argsToLocals, Value.category]; done) | rfl
def Q_cmpI3 (Z : State) (a2 : Addr) (kC : ClassId) (tA : Addr) (kA : ClassId) (c0 : Int32) (c1 : Int32) (c2 : Int32) (h0 : Heap) (n0 : Nat) (v : Option Value) (h : Heap) (L : List Loc) : Prop := v = some (.int 3) ∧ Fr n0 L ∧ Keep h0 h [tA] ∧ Arv Z h tA kA .byte (3 : Int32) [(.int (nar .byte (c0.toInt8.toInt32))), (.int (nar .byte (c1.toInt8.toInt32))), (.int (nar .byte (c2.toInt8.toInt32)))] (.int 0)
theorem rm_cmpI3 (l : Launch) (Z : State) (a0 : Array Value) (hw : HW a0 Z) (ws : List Jvm.Cond) (a2 : Addr) (kC : ClassId) (tA : Addr) (kA : ClassId) (c0 : Int32) (c1 : Int32) (c2 : Int32) (h0 : Heap) (n0 : Nat) (Z0 : n0 ≤ h0.size) (R_C : Arv Z h0 a2 kC .char (3 : Int32) [(.int c0), (.int c1), (.int c2)] (.int 0)) (R_A : Arv Z h0 tA kA .byte (3 : Int32) [(.int 0), (.int 0), (.int 0)] (.int 0)) (g_A : n0 ≤ tA) (ne2A : a2 ≠ tA) (hC0 : ¬ ((255 : Int32) < c0)) (hC1 : ¬ ((255 : Int32) < c1)) (hC2 : ¬ ((255 : Int32) < c2)) :
    M0 l ws (rmk 0 0 0 0) Z #[(.ref a2), (.int 0), (.ref tA), (.int 0), (.int 3)] h0 (Q_cmpI3 Z a2 kC tA kA c0 c1 c2 h0 n0) := by
  refine own_go "java/lang/StringUTF16" rfl (plainFor_of_name pn_5) (fun m => ef_cmpI3 m a2 tA) (fun p e s m below meth c s₁ hx hby hml hown hnm hlk hret hZ X0 e0 => ?_)
  have N0 := Fr.nil n0
  have K0 := Keep.refl h0 [tA]
  show gs s₁ m 0 #[vr a2, vi 0, vr tA, vi 0, vi 3, .unset, .unset] []
  refine oiconst X0 hx hby d5_0 ?_
  refine own_st (fun _ kS => XS.istore X0.here hx rfl (hb hby d5_1) rfl (l' := #[vr a2, vi 0, vr tA, vi 0, vi 3, vi 0, .unset]) rfl kS) ?_
  refine oiload X0 hx hby d5_3 rfl ?_
  refine oiload X0 hx hby d5_5 rfl ?_
  refine own_st (fun _ kS => XS.icmpNo X0.here hx rfl (hb hby d5_7) rfl (tlt (by decide : (0 : Int32) < (3 : Int32))).2.1 kS) ?_
  show gs s₁ m 10 #[vr a2, vi 0, vr tA, vi 0, vi 3, vi 0, .unset] []
  refine oaloadN X0 hx hby d5_10 rfl rfl ?_
  refine oiloadN X0 hx hby d5_11 rfl ?_
  show gs s₁ m 12 #[vr a2, vi 0, vr tA, vi 0, vi 3, vi 0, .unset] [(.int 0), (.ref a2)]
  obtain ⟨cl1, Ar1, qa1, qs1, qn1, qh1, qg1⟩ := id R_C
  refine own_st (fun _ kS => X0.caload hx (j := (0 : Int32)) (v := (.int c0)) (by rw [e0]; exact Ar1.1) (State.isArrayOf_alike hZ.alike Ar1.2.1) Ar1.2.2 (inb_of qs1 ⟨by decide, by decide⟩) (qh1.at (inb_of qs1 ⟨by decide, by decide⟩) rfl) (g := (mkF m 12 #[vr a2, vi 0, vr tA, vi 0, vi 3, vi 0, .unset] [(.int 0), (.ref a2)])) rfl rfl (hb hby d5_12) _ kS) ?_
  show gs s₁ m 13 #[vr a2, vi 0, vr tA, vi 0, vi 3, vi 0, .unset] [(.int c0)]
  refine own_st (fun _ kS => XS.istore X0.here hx rfl (hb hby d5_13) rfl (l' := #[vr a2, vi 0, vr tA, vi 0, vi 3, vi 0, vi c0]) rfl kS) ?_
  refine oiload X0 hx hby d5_15 rfl ?_
  refine own_st (fun _ kS => XS.sipush X0.here hx rfl (hb hby d5_17) kS) ?_
  show gs s₁ m 20 #[vr a2, vi 0, vr tA, vi 0, vi 3, vi 0, vi c0] [(.int 255), (.int c0)]
  refine own_st (fun _ kS => XS.icmpYes X0.here hx rfl (pc0 := 20) (pc' := 26) rfl (hb hby d5_20) rfl (flt (hC0 : ¬ ((255 : Int32) < c0))).2.2.2 (by decide) (by decide) kS) ?_
  show gs s₁ m 26 #[vr a2, vi 0, vr tA, vi 0, vi 3, vi 0, vi c0] []
  refine oaloadN X0 hx hby d5_26 rfl rfl ?_
  refine oiloadN X0 hx hby d5_27 rfl ?_
  refine oiload X0 hx hby d5_28 rfl ?_
  refine own_st (fun _ kS => XT.i2b X0.here hx rfl (hb hby d5_30) rfl kS) ?_
  show gs s₁ m 31 #[vr a2, vi 0, vr tA, vi 0, vi 3, vi 0, vi c0] [(.int (c0.toInt8.toInt32)), (.int 0), (.ref tA)]
  obtain ⟨cl2, Ar2, qa2, qs2, qn2, qh2, qg2⟩ := id R_A
  obtain ⟨T2, h2, X2, e2, W2, st2⟩ := stB X0 hx hZ e0 Ar2 (j := (0 : Int32)) (inb_of qs2 ⟨by decide, by decide⟩) (g := (mkF m 31 #[vr a2, vi 0, vr tA, vi 0, vi 3, vi 0, vi c0] [(.int (c0.toInt8.toInt32)), (.int 0), (.ref tA)])) rfl rfl (hb hby d5_31)
  have N2 := Fr.snoc X2 N0 g_A
  have K2 := K0.wr W2 (Or.inl (List.mem_of_getElem? (i := 0) rfl))
  have R2 : Arv Z h2 tA kA .byte (3 : Int32) [(.int (nar .byte (c0.toInt8.toInt32))), (.int 0), (.int 0)] (.int 0) := Arv.set Ar2 qa2 qs2 qn2 qh2 qg2 (fits_nar_byte _) W2 0 rfl (Nat.le_of_ble_eq_true rfl)
  refine own_st st2 ?_
  show gs T2 m 32 #[vr a2, vi 0, vr tA, vi 0, vi 3, vi 0, vi c0] []
  refine own_st (fun _ kS => XS.iinc X2.here hx rfl (hb hby d5_32) rfl (l' := #[vr a2, vi 1, vr tA, vi 0, vi 3, vi 0, vi c0]) rfl kS) ?_
  refine own_st (fun _ kS => XS.iinc X2.here hx rfl (hb hby d5_35) rfl (l' := #[vr a2, vi 1, vr tA, vi 1, vi 3, vi 0, vi c0]) rfl kS) ?_
  refine own_st (fun _ kS => XS.iinc X2.here hx rfl (hb hby d5_38) rfl (l' := #[vr a2, vi 1, vr tA, vi 1, vi 3, vi 1, vi c0]) rfl kS) ?_
  refine own_st (fun _ kS => XS.goto X2.here hx rfl (pc0 := 41) (pc' := 3) rfl (hb hby d5_41) (by decide) (by decide) kS) ?_
  refine oiload X2 hx hby d5_3 rfl ?_
  refine oiload X2 hx hby d5_5 rfl ?_
  refine own_st (fun _ kS => XS.icmpNo X2.here hx rfl (hb hby d5_7) rfl (tlt (by decide : (1 : Int32) < (3 : Int32))).2.1 kS) ?_
  show gs T2 m 10 #[vr a2, vi 1, vr tA, vi 1, vi 3, vi 1, vi c0] []
  refine oaloadN X2 hx hby d5_10 rfl rfl ?_
  refine oiloadN X2 hx hby d5_11 rfl ?_
  show gs T2 m 12 #[vr a2, vi 1, vr tA, vi 1, vi 3, vi 1, vi c0] [(.int 1), (.ref a2)]
  obtain ⟨cl3, Ar3, qa3, qs3, qn3, qh3, qg3⟩ := id (R_C.other W2 ne2A)
  refine own_st (fun _ kS => X2.caload hx (j := (1 : Int32)) (v := (.int c1)) (by rw [e2]; exact Ar3.1) (State.isArrayOf_alike hZ.alike Ar3.2.1) Ar3.2.2 (inb_of qs3 ⟨by decide, by decide⟩) (qh3.at (inb_of qs3 ⟨by decide, by decide⟩) rfl) (g := (mkF m 12 #[vr a2, vi 1, vr tA, vi 1, vi 3, vi 1, vi c0] [(.int 1), (.ref a2)])) rfl rfl (hb hby d5_12) _ kS) ?_
  show gs T2 m 13 #[vr a2, vi 1, vr tA, vi 1, vi 3, vi 1, vi c0] [(.int c1)]
  refine own_st (fun _ kS => XS.istore X2.here hx rfl (hb hby d5_13) rfl (l' := #[vr a2, vi 1, vr tA, vi 1, vi 3, vi 1, vi c1]) rfl kS) ?_
  refine oiload X2 hx hby d5_15 rfl ?_
  refine own_st (fun _ kS => XS.sipush X2.here hx rfl (hb hby d5_17) kS) ?_
  show gs T2 m 20 #[vr a2, vi 1, vr tA, vi 1, vi 3, vi 1, vi c1] [(.int 255), (.int c1)]
  refine own_st (fun _ kS => XS.icmpYes X2.here hx rfl (pc0 := 20) (pc' := 26) rfl (hb hby d5_20) rfl (flt (hC1 : ¬ ((255 : Int32) < c1))).2.2.2 (by decide) (by decide) kS) ?_
  show gs T2 m 26 #[vr a2, vi 1, vr tA, vi 1, vi 3, vi 1, vi c1] []
  refine oaloadN X2 hx hby d5_26 rfl rfl ?_
  refine oiloadN X2 hx hby d5_27 rfl ?_
  refine oiload X2 hx hby d5_28 rfl ?_
  refine own_st (fun _ kS => XT.i2b X2.here hx rfl (hb hby d5_30) rfl kS) ?_
  show gs T2 m 31 #[vr a2, vi 1, vr tA, vi 1, vi 3, vi 1, vi c1] [(.int (c1.toInt8.toInt32)), (.int 1), (.ref tA)]
  obtain ⟨cl4, Ar4, qa4, qs4, qn4, qh4, qg4⟩ := id R2
  obtain ⟨T4, h4, X4, e4, W4, st4⟩ := stB X2 hx hZ e2 Ar4 (j := (1 : Int32)) (inb_of qs4 ⟨by decide, by decide⟩) (g := (mkF m 31 #[vr a2, vi 1, vr tA, vi 1, vi 3, vi 1, vi c1] [(.int (c1.toInt8.toInt32)), (.int 1), (.ref tA)])) rfl rfl (hb hby d5_31)
  have N4 := Fr.snoc X4 N2 g_A
  have K4 := K2.wr W4 (Or.inl (List.mem_of_getElem? (i := 0) rfl))
  have R4 : Arv Z h4 tA kA .byte (3 : Int32) [(.int (nar .byte (c0.toInt8.toInt32))), (.int (nar .byte (c1.toInt8.toInt32))), (.int 0)] (.int 0) := Arv.set Ar4 qa4 qs4 qn4 qh4 qg4 (fits_nar_byte _) W4 1 rfl (Nat.le_of_ble_eq_true rfl)
  refine own_st st4 ?_
  show gs T4 m 32 #[vr a2, vi 1, vr tA, vi 1, vi 3, vi 1, vi c1] []
  refine own_st (fun _ kS => XS.iinc X4.here hx rfl (hb hby d5_32) rfl (l' := #[vr a2, vi 2, vr tA, vi 1, vi 3, vi 1, vi c1]) rfl kS) ?_
  refine own_st (fun _ kS => XS.iinc X4.here hx rfl (hb hby d5_35) rfl (l' := #[vr a2, vi 2, vr tA, vi 2, vi 3, vi 1, vi c1]) rfl kS) ?_
  refine own_st (fun _ kS => XS.iinc X4.here hx rfl (hb hby d5_38) rfl (l' := #[vr a2, vi 2, vr tA, vi 2, vi 3, vi 2, vi c1]) rfl kS) ?_
  refine own_st (fun _ kS => XS.goto X4.here hx rfl (pc0 := 41) (pc' := 3) rfl (hb hby d5_41) (by decide) (by decide) kS) ?_
  refine oiload X4 hx hby d5_3 rfl ?_
  refine oiload X4 hx hby d5_5 rfl ?_
  refine own_st (fun _ kS => XS.icmpNo X4.here hx rfl (hb hby d5_7) rfl (tlt (by decide : (2 : Int32) < (3 : Int32))).2.1 kS) ?_
  show gs T4 m 10 #[vr a2, vi 2, vr tA, vi 2, vi 3, vi 2, vi c1] []
  refine oaloadN X4 hx hby d5_10 rfl rfl ?_
  refine oiloadN X4 hx hby d5_11 rfl ?_
  show gs T4 m 12 #[vr a2, vi 2, vr tA, vi 2, vi 3, vi 2, vi c1] [(.int 2), (.ref a2)]
  obtain ⟨cl5, Ar5, qa5, qs5, qn5, qh5, qg5⟩ := id ((R_C.other W2 ne2A).other W4 ne2A)
  refine own_st (fun _ kS => X4.caload hx (j := (2 : Int32)) (v := (.int c2)) (by rw [e4]; exact Ar5.1) (State.isArrayOf_alike hZ.alike Ar5.2.1) Ar5.2.2 (inb_of qs5 ⟨by decide, by decide⟩) (qh5.at (inb_of qs5 ⟨by decide, by decide⟩) rfl) (g := (mkF m 12 #[vr a2, vi 2, vr tA, vi 2, vi 3, vi 2, vi c1] [(.int 2), (.ref a2)])) rfl rfl (hb hby d5_12) _ kS) ?_
  show gs T4 m 13 #[vr a2, vi 2, vr tA, vi 2, vi 3, vi 2, vi c1] [(.int c2)]
  refine own_st (fun _ kS => XS.istore X4.here hx rfl (hb hby d5_13) rfl (l' := #[vr a2, vi 2, vr tA, vi 2, vi 3, vi 2, vi c2]) rfl kS) ?_
  refine oiload X4 hx hby d5_15 rfl ?_
  refine own_st (fun _ kS => XS.sipush X4.here hx rfl (hb hby d5_17) kS) ?_
  show gs T4 m 20 #[vr a2, vi 2, vr tA, vi 2, vi 3, vi 2, vi c2] [(.int 255), (.int c2)]
  refine own_st (fun _ kS => XS.icmpYes X4.here hx rfl (pc0 := 20) (pc' := 26) rfl (hb hby d5_20) rfl (flt (hC2 : ¬ ((255 : Int32) < c2))).2.2.2 (by decide) (by decide) kS) ?_
  show gs T4 m 26 #[vr a2, vi 2, vr tA, vi 2, vi 3, vi 2, vi c2] []
  refine oaloadN X4 hx hby d5_26 rfl rfl ?_
  refine oiloadN X4 hx hby d5_27 rfl ?_
  refine oiload X4 hx hby d5_28 rfl ?_
  refine own_st (fun _ kS => XT.i2b X4.here hx rfl (hb hby d5_30) rfl kS) ?_
  show gs T4 m 31 #[vr a2, vi 2, vr tA, vi 2, vi 3, vi 2, vi c2] [(.int (c2.toInt8.toInt32)), (.int 2), (.ref tA)]
  obtain ⟨cl6, Ar6, qa6, qs6, qn6, qh6, qg6⟩ := id R4
  obtain ⟨T6, h6, X6, e6, W6, st6⟩ := stB X4 hx hZ e4 Ar6 (j := (2 : Int32)) (inb_of qs6 ⟨by decide, by decide⟩) (g := (mkF m 31 #[vr a2, vi 2, vr tA, vi 2, vi 3, vi 2, vi c2] [(.int (c2.toInt8.toInt32)), (.int 2), (.ref tA)])) rfl rfl (hb hby d5_31)
  have N6 := Fr.snoc X6 N4 g_A
  have K6 := K4.wr W6 (Or.inl (List.mem_of_getElem? (i := 0) rfl))
  have R6 : Arv Z h6 tA kA .byte (3 : Int32) [(.int (nar .byte (c0.toInt8.toInt32))), (.int (nar .byte (c1.toInt8.toInt32))), (.int (nar .byte (c2.toInt8.toInt32)))] (.int 0) := Arv.set Ar6 qa6 qs6 qn6 qh6 qg6 (fits_nar_byte _) W6 2 rfl (Nat.le_of_ble_eq_true rfl)
  refine own_st st6 ?_
  show gs T6 m 32 #[vr a2, vi 2, vr tA, vi 2, vi 3, vi 2, vi c2] []
  refine own_st (fun _ kS => XS.iinc X6.here hx rfl (hb hby d5_32) rfl (l' := #[vr a2, vi 3, vr tA, vi 2, vi 3, vi 2, vi c2]) rfl kS) ?_
  refine own_st (fun _ kS => XS.iinc X6.here hx rfl (hb hby d5_35) rfl (l' := #[vr a2, vi 3, vr tA, vi 3, vi 3, vi 2, vi c2]) rfl kS) ?_
  refine own_st (fun _ kS => XS.iinc X6.here hx rfl (hb hby d5_38) rfl (l' := #[vr a2, vi 3, vr tA, vi 3, vi 3, vi 3, vi c2]) rfl kS) ?_
  refine own_st (fun _ kS => XS.goto X6.here hx rfl (pc0 := 41) (pc' := 3) rfl (hb hby d5_41) (by decide) (by decide) kS) ?_
  refine oiload X6 hx hby d5_3 rfl ?_
  refine oiload X6 hx hby d5_5 rfl ?_
  refine own_st (fun _ kS => XS.icmpYes X6.here hx rfl (pc0 := 7) (pc' := 44) rfl (hb hby d5_7) rfl (flt (by decide : ¬ ((3 : Int32) < (3 : Int32)))).2.1 (by decide) (by decide) kS) ?_
  show gs T6 m 44 #[vr a2, vi 3, vr tA, vi 3, vi 3, vi 3, vi c2] []
  refine oiload X6 hx hby d5_44 rfl ?_
  exact own_retI X6 hx hlk hret (hb hby d5_46) (by decide) (by decide) (by rw [e6]; exact ⟨rfl, N6, K6, R6⟩)
theorem ef_cmpA3 (m : MethodId) (x0 : Addr) : entryFrame m #[(.ref x0), (.int 0), (.int 3)] 6 = mkF m 0 #[.val (.ref x0), .val (.int 0), .val (.int 3), .unset, .unset, .unset] [] := by first | (simp [entryFrame, mkF, argsToLocals, Value.category]; done) | rfl
def Q_cmpA3 (Z : State) (a2 : Addr) (kC : ClassId) (c0 : Int32) (c1 : Int32) (c2 : Int32) (h0 : Heap) (n0 : Nat) (v : Option Value) (h : Heap) (L : List Loc) : Prop := ∃ tN : Addr, ∃ kN : ClassId, v = some (.ref tN) ∧ Fr n0 L ∧ Keep h0 h [] ∧ h0.size ≤ tN ∧ Arv Z h tN kN .byte (3 : Int32) [(.int (nar .byte (c0.toInt8.toInt32))), (.int (nar .byte (c1.toInt8.toInt32))), (.int (nar .byte (c2.toInt8.toInt32)))] (.int 0)
theorem rm_cmpA3 (l : Launch) (Z : State) (a0 : Array Value) (hw : HW a0 Z) (ws : List Jvm.Cond) (a2 : Addr) (kC : ClassId) (c0 : Int32) (c1 : Int32) (c2 : Int32) (h0 : Heap) (n0 : Nat) (Z0 : n0 ≤ h0.size) (R_C : Arv Z h0 a2 kC .char (3 : Int32) [(.int c0), (.int c1), (.int c2)] (.int 0)) (hC0 : ¬ ((255 : Int32) < c0)) (hC1 : ¬ ((255 : Int32) < c1)) (hC2 : ¬ ((255 : Int32) < c2)) :
    M1 l ws (rmk 1 1 3 18) Z #[(.ref a2), (.int 0), (.int 3)] h0 (Q_cmpA3 Z a2 kC c0 c1 c2 h0 n0) := by
  refine own_go "java/lang/StringUTF16" rfl (plainFor_of_name pn_4) (fun m => ef_cmpA3 m a2) (fun p e s m below meth c s₁ hx hby hml hown hnm hlk hret hZ X0 e0 => ?_)
  have N0 := Fr.nil n0
  have K0 := Keep.refl h0 []
  show gs s₁ m 0 #[vr a2, vi 0, vi 3, .unset, .unset, .unset] []
  refine oiloadN X0 hx hby d4_0 rfl ?_
  show gs s₁ m 1 #[vr a2, vi 0, vi 3, .unset, .unset, .unset] [(.int 3)]
  obtain ⟨T1, h1, k1, X1, e1, E1, A1, st1⟩ := newP X0 hx hZ (own_w hw 23 rfl) e0 (g := (mkF m 1 #[vr a2, vi 0, vi 3, .unset, .unset, .unset] [(.int 3)])) rfl (hb hby d4_1) rfl (by decide) (cap := 3) (by decide) (by decide) (by decide) (by decide)
  obtain ⟨b1, g1⟩ : ∃ z, z = h0.size := ⟨_, rfl⟩
  have ne_a2_b1 : a2 ≠ b1 := Nat.ne_of_lt (Nat.lt_of_lt_of_eq R_C.lt g1.symm)
  have ge_b1 : n0 ≤ b1 := Nat.le_trans Z0 (Nat.le_of_eq g1.symm)
  have sz_b1 : h0.size ≤ b1 := Nat.le_trans K0.1 (Nat.le_of_eq g1.symm)
  rw [← g1] at A1 st1
  have K1 := K0.ext E1
  have R1 : Arv Z h1 b1 k1 .byte (3 : Int32) [(.int 0), (.int 0), (.int 0)] (.int 0) := (Arv.new A1 (by decide)).pad (pad_rep [] (.int 0) 3)
  refine own_st st1 ?_
  show gs T1 m 3 #[vr a2, vi 0, vi 3, .unset, .unset, .unset] [(.ref b1)]
  refine own_st (fun _ kS => XS.astoreN X1.here hx rfl (hb hby d4_3) rfl rfl (l' := #[vr a2, vi 0, vi 3, vr b1, .unset, .unset]) rfl kS) ?_
  refine oaloadN X1 hx hby d4_4 rfl rfl ?_
  refine oiloadN X1 hx hby d4_5 rfl ?_
  refine oaloadN X1 hx hby d4_6 rfl rfl ?_
  refine oiconst X1 hx hby d4_7 ?_
  refine oiloadN X1 hx hby d4_8 rfl ?_
  refine oS 0 X1 hx hZ hby hml hown (own_w hw 24 rfl) (own_w hw 25 rfl) (own_w hw 21 rfl) (own_w hw 26 rfl) (rm_cmpI3 l Z a0 hw [] a2 kC b1 k1 c0 c1 c2 h1 n0 (Nat.le_trans Z0 E1.1)  (Arv.ext R_C E1) R1 ge_b1 ne_a2_b1 hC0 hC1 hC2) e1 (by decide) own_pd1 d4_9 rfl rfl rfl (fun T2 L2 v2 X2 hQ2 => ?_)
  obtain ⟨rfl, Nq2, Kc2, P2_0⟩ := hQ2
  have N2 := Fr.app N0 Nq2
  have K2 := K1.trans Kc2 (allS (Or.inr sz_b1) all0)
  show gs T2 m 12 #[vr a2, vi 0, vi 3, vr b1, .unset, .unset] [(.int 3)]
  refine own_st (fun _ kS => XS.istore X2.here hx rfl (hb hby d4_12) rfl (l' := #[vr a2, vi 0, vi 3, vr b1, vi 3, .unset]) rfl kS) ?_
  refine oiload X2 hx hby d4_14 rfl ?_
  refine oiloadN X2 hx hby d4_16 rfl ?_
  refine own_st (fun _ kS => XS.icmpYes X2.here hx rfl (pc0 := 17) (pc' := 57) rfl (hb hby d4_17) rfl (teq (by decide : (3 : Int32) = (3 : Int32))).1 (by decide) (by decide) kS) ?_
  show gs T2 m 57 #[vr a2, vi 0, vi 3, vr b1, vi 3, .unset] []
  refine oaloadN X2 hx hby d4_57 rfl rfl ?_
  exact own_retA X2 hx hlk hret rfl rfl (hb hby d4_58) (by decide) (by decide) (show Q_cmpA3 Z a2 kC c0 c1 c2 h0 n0 _ _ _ from ⟨b1, k1, ⟨rfl, N2, K2, sz_b1, P2_0⟩⟩)
theorem ef_cfal3 (m : MethodId) (x0 : Addr) : entryFrame m #[(.ref x0), (.int 3)] 2 = mkF m 0 #[.val (.ref x0), .val (.int 3)] [] := by first | (simp [entryFrame, mkF, argsToLocals, Value.category]; done) | rfl
def Q_cfal3 (Z : State) (tA : Addr) (kA : ClassId) (y0 : Int32) (y1 : Int32) (y2 : Int32) (h0 : Heap) (n0 : Nat) (v : Option Value) (h : Heap) (L : List Loc) : Prop := v = some (.int 0) ∧ Fr n0 L ∧ h = h0
theorem rm_cfal3 (l : Launch) (Z : State) (a0 : Array Value) (hw : HW a0 Z) (ws : List Jvm.Cond) (tA : Addr) (kA : ClassId) (y0 : Int32) (y1 : Int32) (y2 : Int32) (h0 : Heap) (n0 : Nat) (Z0 : n0 ≤ h0.size) (R_A : Arv Z h0 tA kA .byte (3 : Int32) [(.int y0), (.int y1), (.int y2)] (.int 0)) :
    M2 l ws (rmk 0 0 0 0) Z #[(.ref tA), (.int 3)] h0 (Q_cfal3 Z tA kA y0 y1 y2 h0 n0) := by
  refine own_go "java/lang/StringUTF16" rfl (plainFor_of_name pn_6) (fun m => ef_cfal3 m tA) (fun p e s m below meth c s₁ hx hby hml hown hnm hlk hret hZ X0 e0 => ?_)
  have N0 := Fr.nil n0
  show gs s₁ m 0 #[vr tA, vi 3] []
  refine oiloadN X0 hx hby d6_0 rfl ?_
  refine oaloadN X0 hx hby d6_1 rfl rfl ?_
  show gs s₁ m 2 #[vr tA, vi 3] [(.ref tA), (.int 3)]
  obtain ⟨cl1, Ar1, qa1, qs1, qn1, qh1, qg1⟩ := id R_A
  refine own_st (fun _ kS => X0.arraylength hx (by rw [e0]; exact Ar1.1) (State.isArrayOf_alike hZ.alike Ar1.2.1) (g := (mkF m 2 #[vr tA, vi 3] [(.ref tA), (.int 3)])) rfl rfl (hb hby d6_2) _ kS) ?_
  rw [len_of qs1 qn1]
  show gs s₁ m 3 #[vr tA, vi 3] [(.int 3), (.int 3)]
  refine own_st (fun _ kS => XS.isub X0.here hx rfl (hb hby d6_3) rfl kS) ?_
  refine own_st (fun _ kS => XS.bipush X0.here hx rfl (hb hby d6_4) kS) ?_
  refine own_st (fun _ kS => XT.iushr X0.here hx rfl (hb hby d6_6) rfl kS) ?_
  refine own_st (fun _ kS => XT.i2b X0.here hx rfl (hb hby d6_7) rfl kS) ?_
  show gs s₁ m 8 #[vr tA, vi 3] [(.int 0)]
  exact own_retN X0 hx hlk (t := .byte) hret (by simp) (hb hby d6_8) (by decide) (by decide) (v' := (0 : Int32)) rfl (by rw [e0]; exact ⟨rfl, N0, rfl⟩)
theorem ef_init4_3 (m : MethodId) (x0 : Addr) (x1 : Addr) : entryFrame m #[(.ref x0), (.ref x1), (.int 0), (.int 3), .null] 6 = mkF m 0 #[.val (.ref x0), .val (.ref x1), .val (.int 0), .val (.int 3), .val .null, .unset] [] := by first | (simp [entryFrame, mkF, argsToLocals, Value.category]; done) | rfl
def Q_init4_3 (Z : State) (aS : Addr) (a2 : Addr) (kC : ClassId) (c0 : Int32) (c1 : Int32) (c2 : Int32) (zCS : Int32) (h0 : Heap) (n0 : Nat) (v : Option Value) (h : Heap) (L : List Loc) : Prop := ∃ tN : Addr, ∃ kN : ClassId, v = none ∧ Fr n0 L ∧ Keep h0 h [aS] ∧ ek12 Z h aS ∧ fk8 Z h aS (.int 0) ∧ fk9 Z h aS (.ref tN) ∧ Arv Z h tN kN .byte (3 : Int32) [(.int (nar .byte (c0.toInt8.toInt32))), (.int (nar .byte (c1.toInt8.toInt32))), (.int (nar .byte (c2.toInt8.toInt32)))] (.int 0)
theorem rm_init4_3 (l : Launch) (Z : State) (a0 : Array Value) (hw : HW a0 Z) (ws : List Jvm.Cond) (aS : Addr) (a2 : Addr) (kC : ClassId) (c0 : Int32) (c1 : Int32) (c2 : Int32) (zCS : Int32) (h0 : Heap) (n0 : Nat) (Z0 : n0 ≤ h0.size) (O0 : Old Z n0 h0) (E_0 : ek12 Z h0 aS) (g_0 : n0 ≤ aS) (F0v : fk9 Z h0 aS .null) (F0c : fk8 Z h0 aS (.int 0)) (ne02 : aS ≠ a2) (R_C : Arv Z h0 a2 kC .char (3 : Int32) [(.int c0), (.int c1), (.int c2)] (.int 0)) (hC0 : ¬ ((255 : Int32) < c0)) (hC1 : ¬ ((255 : Int32) < c1)) (hC2 : ¬ ((255 : Int32) < c2)) (S_CS : sk0 Z Z.heap (.int zCS)) (P_CS : ¬ zCS = 0) :
    M3 l ws (rmk 2 1 3 35) Z #[(.ref aS), (.ref a2), (.int 0), (.int 3), .null] h0 (Q_init4_3 Z aS a2 kC c0 c1 c2 zCS h0 n0) := by
  refine own_go "java/lang/String" rfl (plainFor_of_name pn_2) (fun m => ef_init4_3 m aS a2) (fun p e s m below meth c s₁ hx hby hml hown hnm hlk hret hZ X0 e0 => ?_)
  have N0 := Fr.nil n0
  have K0 := Keep.refl h0 [aS]
  show gs s₁ m 0 #[vr aS, vr a2, vi 0, vi 3, .val .null, .unset] []
  refine oaloadN X0 hx hby d2_0 rfl rfl ?_
  obtain ⟨T1, X1, e1, st1⟩ := initO X0 hx hZ hown (own_w hw 15 rfl) (own_w hw 16 rfl) (own_w hw 17 rfl) e0 (g := (mkF m 1 #[vr aS, vr a2, vi 0, vi 3, .val .null, .unset] [(.ref aS)])) rfl (by rw [hml]; rfl) rfl (hb hby d2_1) (by decide) (W := 0) (by show 2 * 0 + _ ≤ _; exact Nat.le_of_eq rfl) (by decide)
  refine own_st st1 ?_
  show gs T1 m 4 #[vr aS, vr a2, vi 0, vi 3, .val .null, .unset] []
  refine oiloadN X1 hx hby d2_4 rfl ?_
  refine own_st (fun _ kS => XS.ifYes X1.here hx rfl (pc0 := 5) (pc' := 27) rfl (hb hby d2_5) rfl ((if0 _ _).trans (feq (by decide : ¬ ((3 : Int32) = (0 : Int32)))).2) (by decide) (by decide) kS) ?_
  show gs T1 m 27 #[vr aS, vr a2, vi 0, vi 3, .val .null, .unset] []
  obtain ⟨T2, X2, e2, st2⟩ := getS2 X1 hx hZ hown (host := "") (Or.inl (own_w hw 18 rfl)) Via.refl e1 (Sta.ext O0.2 S_CS) (g := (mkF m 27 #[vr aS, vr a2, vi 0, vi 3, .val .null, .unset] [])) rfl (hb hby d2_27)
  refine own_st st2 ?_
  show gs T2 m 30 #[vr aS, vr a2, vi 0, vi 3, .val .null, .unset] [(.int zCS)]
  refine own_st (fun _ kS => XS.ifNo X2.here hx rfl (hb hby d2_30) rfl ((if0 _ _).trans (feq (P_CS : ¬ (zCS = (0 : Int32)))).1) kS) ?_
  show gs T2 m 33 #[vr aS, vr a2, vi 0, vi 3, .val .null, .unset] []
  refine oaloadN X2 hx hby d2_33 rfl rfl ?_
  refine oiloadN X2 hx hby d2_34 rfl ?_
  refine oiloadN X2 hx hby d2_35 rfl ?_
  refine oS 0 X2 hx hZ hby hml hown (own_w hw 19 rfl) (own_w hw 20 rfl) (own_w hw 21 rfl) (own_w hw 22 rfl) (rm_cmpA3 l Z a0 hw [] a2 kC c0 c1 c2 h0 n0 Z0  R_C hC0 hC1 hC2) e2 (by decide) own_pd2 d2_36 rfl rfl rfl (fun T3 L3 v3 X3 hQ3 => ?_)
  obtain ⟨tN_3, kN_3, rfl, Nq3, Kc3, P3_0, P3_1⟩ := hQ3
  have N3 := Fr.app N0 Nq3
  have ne_aS_tN_3 : aS ≠ tN_3 := Nat.ne_of_lt (Nat.lt_of_lt_of_le E_0.lt P3_0)
  have ne_a2_tN_3 : a2 ≠ tN_3 := Nat.ne_of_lt (Nat.lt_of_lt_of_le R_C.lt P3_0)
  have ge_tN_3 : n0 ≤ tN_3 := Nat.le_trans Z0 P3_0
  have sz_tN_3 : h0.size ≤ tN_3 := Nat.le_trans K0.1 P3_0
  have K3 := K0.trans Kc3 all0
  have O3 := O0.keep Kc3 all0
  show gs T3 m 39 #[vr aS, vr a2, vi 0, vi 3, .val .null, .unset] [(.ref tN_3)]
  refine own_st (fun _ kS => XS.astore X3.here hx rfl (hb hby d2_39) rfl rfl (l' := #[vr aS, vr a2, vi 0, vi 3, .val .null, vr tN_3]) rfl kS) ?_
  refine oaloadN X3 hx hby d2_41 rfl rfl ?_
  refine oaload X3 hx hby d2_42 rfl rfl ?_
  refine oiloadN X3 hx hby d2_44 rfl ?_
  refine oS 1 X3 hx hZ hby hml hown (own_w hw 27 rfl) (own_w hw 28 rfl) (own_w hw 21 rfl) (own_w hw 29 rfl) (rm_cfal3 l Z a0 hw [] tN_3 kN_3 (nar .byte (c0.toInt8.toInt32)) (nar .byte (c1.toInt8.toInt32)) (nar .byte (c2.toInt8.toInt32)) T3.heap n0 (Nat.le_trans Z0 Kc3.1)  P3_1) rfl (by decide) own_pd3 d2_45 rfl rfl rfl (fun T4 L4 v4 X4 hQ4 => ?_)
  obtain ⟨rfl, Nq4, eq4⟩ := hQ4
  have N4 := Fr.app N3 Nq4
  show gs T4 m 48 #[vr aS, vr a2, vi 0, vi 3, .val .null, vr tN_3] [(.int 0), (.ref aS)]
  obtain ⟨T5, h5, X5, e5, W5, st5⟩ := putFN X4 hx hZ hown (own_w hw 30 rfl) Via.refl eq4 (F0c.keep Kc3 nin0) (E_0.keep Kc3) (Or.inr ⟨(own_w hw 31 rfl), rfl, hnm⟩) (own_w hw 6 rfl) (ty := .byte) (v' := (.int 0)) (by decide) rfl (by decide) (g := (mkF m 48 #[vr aS, vr a2, vi 0, vi 3, .val .null, vr tN_3] [(.int 0), (.ref aS)])) rfl rfl (hb hby d2_48)
  refine own_st st5 ?_
  have N5 := Fr.snoc X5 N4 g_0
  have K5 := K3.wr W5 (Or.inl (List.mem_of_getElem? (i := 0) rfl))
  have O5 := O3.wr W5 g_0
  have Fw5 := Fld.same W5 (F0c.keep Kc3 nin0)
  show gs T5 m 51 #[vr aS, vr a2, vi 0, vi 3, .val .null, vr tN_3] []
  refine oaloadN X5 hx hby d2_51 rfl rfl ?_
  refine oaload X5 hx hby d2_52 rfl rfl ?_
  show gs T5 m 54 #[vr aS, vr a2, vi 0, vi 3, .val .null, vr tN_3] [(.ref tN_3), (.ref aS)]
  obtain ⟨T6, h6, X6, e6, W6, st6⟩ := putF X5 hx hZ hown (host := "") (Or.inl (own_w hw 32 rfl)) Via.refl e5 (Fld.other W5 (F0v.keep Kc3 nin0) (Or.inr (slot_ne (Or.inr (own_w hw 33 rfl)) (Or.inr (own_w hw 31 rfl)) (by decide) (t := (.array .byte)) (t' := .byte) (by decide) (by decide)))) (Exa.wr W5 (E_0.keep Kc3)) (Or.inr ⟨(own_w hw 33 rfl), rfl, hnm⟩) (own_w hw 6 rfl) (ty := (.array .byte)) (by decide) rfl rfl (g := (mkF m 54 #[vr aS, vr a2, vi 0, vi 3, .val .null, vr tN_3] [(.ref tN_3), (.ref aS)])) rfl rfl (hb hby d2_54)
  refine own_st st6 ?_
  have N6 := Fr.snoc X6 N5 g_0
  have K6 := K5.wr W6 (Or.inl (List.mem_of_getElem? (i := 0) rfl))
  have O6 := O5.wr W6 g_0
  have Fw6 := Fld.same W6 (Fld.other W5 (F0v.keep Kc3 nin0) (Or.inr (slot_ne (Or.inr (own_w hw 33 rfl)) (Or.inr (own_w hw 31 rfl)) (by decide) (t := (.array .byte)) (t' := .byte) (by decide) (by decide))))
  show gs T6 m 57 #[vr aS, vr a2, vi 0, vi 3, .val .null, vr tN_3] []
  exact own_retV X6 hx hlk hret (hb hby d2_57) (by decide) (by decide) (by rw [e6]; exact ⟨tN_3, kN_3, ⟨rfl, N6, K6, (Exa.wr W6 (Exa.wr W5 (E_0.keep Kc3))), (Fld.other W6 Fw5 (Or.inr (slot_ne (Or.inr (own_w hw 31 rfl)) (Or.inr (own_w hw 33 rfl)) (by decide) (t := .byte) (t' := (.array .byte)) (by decide) (by decide)))), Fw6, ((P3_1.other W5 (Ne.symm ne_aS_tN_3)).other W6 (Ne.symm ne_aS_tN_3))⟩⟩)
theorem ef_init1_3 (m : MethodId) (x0 : Addr) (x1 : Addr) : entryFrame m #[(.ref x0), (.ref x1)] 2 = mkF m 0 #[.val (.ref x0), .val (.ref x1)] [] := by first | (simp [entryFrame, mkF, argsToLocals, Value.category]; done) | rfl
def Q_init1_3 (Z : State) (aS : Addr) (a2 : Addr) (kC : ClassId) (c0 : Int32) (c1 : Int32) (c2 : Int32) (zCS : Int32) (h0 : Heap) (n0 : Nat) (v : Option Value) (h : Heap) (L : List Loc) : Prop := ∃ tN : Addr, ∃ kN : ClassId, v = none ∧ Fr n0 L ∧ Keep h0 h [aS] ∧ ek12 Z h aS ∧ fk8 Z h aS (.int 0) ∧ fk9 Z h aS (.ref tN) ∧ Arv Z h tN kN .byte (3 : Int32) [(.int (nar .byte (c0.toInt8.toInt32))), (.int (nar .byte (c1.toInt8.toInt32))), (.int (nar .byte (c2.toInt8.toInt32)))] (.int 0)
theorem rm_init1_3 (l : Launch) (Z : State) (a0 : Array Value) (hw : HW a0 Z) (ws : List Jvm.Cond) (aS : Addr) (a2 : Addr) (kC : ClassId) (c0 : Int32) (c1 : Int32) (c2 : Int32) (zCS : Int32) (h0 : Heap) (n0 : Nat) (Z0 : n0 ≤ h0.size) (O0 : Old Z n0 h0) (E_0 : ek12 Z h0 aS) (g_0 : n0 ≤ aS) (F0v : fk9 Z h0 aS .null) (F0c : fk8 Z h0 aS (.int 0)) (ne02 : aS ≠ a2) (R_C : Arv Z h0 a2 kC .char (3 : Int32) [(.int c0), (.int c1), (.int c2)] (.int 0)) (hC0 : ¬ ((255 : Int32) < c0)) (hC1 : ¬ ((255 : Int32) < c1)) (hC2 : ¬ ((255 : Int32) < c2)) (S_CS : sk0 Z Z.heap (.int zCS)) (P_CS : ¬ zCS = 0) :
    M4 l ws (rmk 3 1 3 52) Z #[(.ref aS), (.ref a2)] h0 (Q_init1_3 Z aS a2 kC c0 c1 c2 zCS h0 n0) := by
  refine own_go "java/lang/String" rfl (plainFor_of_name pn_1) (fun m => ef_init1_3 m aS a2) (fun p e s m below meth c s₁ hx hby hml hown hnm hlk hret hZ X0 e0 => ?_)
  have N0 := Fr.nil n0
  have K0 := Keep.refl h0 [aS]
  show gs s₁ m 0 #[vr aS, vr a2] []
  refine oaloadN X0 hx hby d1_0 rfl rfl ?_
  refine oaloadN X0 hx hby d1_1 rfl rfl ?_
  refine oiconst X0 hx hby d1_2 ?_
  refine oaloadN X0 hx hby d1_3 rfl rfl ?_
  show gs s₁ m 4 #[vr aS, vr a2] [(.ref a2), (.int 0), (.ref a2), (.ref aS)]
  obtain ⟨cl1, Ar1, qa1, qs1, qn1, qh1, qg1⟩ := id R_C
  refine own_st (fun _ kS => X0.arraylength hx (by rw [e0]; exact Ar1.1) (State.isArrayOf_alike hZ.alike Ar1.2.1) (g := (mkF m 4 #[vr aS, vr a2] [(.ref a2), (.int 0), (.ref a2), (.ref aS)])) rfl rfl (hb hby d1_4) _ kS) ?_
  rw [len_of qs1 qn1]
  show gs s₁ m 5 #[vr aS, vr a2] [(.int 3), (.int 0), (.ref a2), (.ref aS)]
  refine own_st (fun _ kS => XS.aconstNull X0.here hx rfl (hb hby d1_5) kS) ?_
  show gs s₁ m 6 #[vr aS, vr a2] [.null, (.int 3), (.int 0), (.ref a2), (.ref aS)]
  refine oN 0 X0 hx hZ hby hml hown (own_w hw 11 rfl) (own_w hw 12 rfl) (own_w hw 7 rfl) (own_w hw 14 rfl) (rm_init4_3 l Z a0 hw [] aS a2 kC c0 c1 c2 zCS h0 n0 Z0 O0 E_0 g_0 F0v F0c ne02 R_C hC0 hC1 hC2 S_CS P_CS) e0 rfl (by decide) own_pd0 d1_6 rfl rfl rfl (fun T2 L2 v2 X2 hQ2 => ?_)
  obtain ⟨tN_2, kN_2, rfl, Nq2, Kc2, P2_0, P2_1, P2_2, P2_3⟩ := hQ2
  have N2 := Fr.app N0 Nq2
  have K2 := K0.trans Kc2 (allS (Or.inl (List.mem_of_getElem? (i := 0) rfl)) all0)
  have O2 := O0.keep Kc2 (allS g_0 all0)
  show gs T2 m 9 #[vr aS, vr a2] []
  exact own_retV X2 hx hlk hret (hb hby d1_9) (by decide) (by decide) (show Q_init1_3 Z aS a2 kC c0 c1 c2 zCS h0 n0 _ _ _ from ⟨tN_2, kN_2, ⟨rfl, N2, K2, P2_0, P2_1, P2_2, P2_3⟩⟩)
theorem ef_cmpI4 (m : MethodId) (x0 : Addr) (x1 : Addr) : entryFrame m #[(.ref x0), (.int 0), (.ref x1), (.int 0), (.int 4)] 7 = mkF m 0 #[.val (.ref x0), .val (.int 0), .val (.ref x1), .val (.int 0), .val (.int 4), .unset, .unset] [] := by first | (simp [entryFrame, mkF, argsToLocals, Value.category]; done) | rfl
def Q_cmpI4 (Z : State) (a2 : Addr) (kC : ClassId) (tA : Addr) (kA : ClassId) (c0 : Int32) (c1 : Int32) (c2 : Int32) (c3 : Int32) (h0 : Heap) (n0 : Nat) (v : Option Value) (h : Heap) (L : List Loc) : Prop := v = some (.int 4) ∧ Fr n0 L ∧ Keep h0 h [tA] ∧ Arv Z h tA kA .byte (4 : Int32) [(.int (nar .byte (c0.toInt8.toInt32))), (.int (nar .byte (c1.toInt8.toInt32))), (.int (nar .byte (c2.toInt8.toInt32))), (.int (nar .byte (c3.toInt8.toInt32)))] (.int 0)
theorem rm_cmpI4 (l : Launch) (Z : State) (a0 : Array Value) (hw : HW a0 Z) (ws : List Jvm.Cond) (a2 : Addr) (kC : ClassId) (tA : Addr) (kA : ClassId) (c0 : Int32) (c1 : Int32) (c2 : Int32) (c3 : Int32) (h0 : Heap) (n0 : Nat) (Z0 : n0 ≤ h0.size) (R_C : Arv Z h0 a2 kC .char (4 : Int32) [(.int c0), (.int c1), (.int c2), (.int c3)] (.int 0)) (R_A : Arv Z h0 tA kA .byte (4 : Int32) [(.int 0), (.int 0), (.int 0), (.int 0)] (.int 0)) (g_A : n0 ≤ tA) (ne2A : a2 ≠ tA) (hC0 : ¬ ((255 : Int32) < c0)) (hC1 : ¬ ((255 : Int32) < c1)) (hC2 : ¬ ((255 : Int32) < c2)) (hC3 : ¬ ((255 : Int32) < c3)) :
    M0 l ws (rmk 0 0 0 0) Z #[(.ref a2), (.int 0), (.ref tA), (.int 0), (.int 4)] h0 (Q_cmpI4 Z a2 kC tA kA c0 c1 c2 c3 h0 n0) := by
  refine own_go "java/lang/StringUTF16" rfl (plainFor_of_name pn_5) (fun m => ef_cmpI4 m a2 tA) (fun p e s m below meth c s₁ hx hby hml hown hnm hlk hret hZ X0 e0 => ?_)
  have N0 := Fr.nil n0
  have K0 := Keep.refl h0 [tA]
  show gs s₁ m 0 #[vr a2, vi 0, vr tA, vi 0, vi 4, .unset, .unset] []
  refine oiconst X0 hx hby d5_0 ?_
  refine own_st (fun _ kS => XS.istore X0.here hx rfl (hb hby d5_1) rfl (l' := #[vr a2, vi 0, vr tA, vi 0, vi 4, vi 0, .unset]) rfl kS) ?_
  refine oiload X0 hx hby d5_3 rfl ?_
  refine oiload X0 hx hby d5_5 rfl ?_
  refine own_st (fun _ kS => XS.icmpNo X0.here hx rfl (hb hby d5_7) rfl (tlt (by decide : (0 : Int32) < (4 : Int32))).2.1 kS) ?_
  show gs s₁ m 10 #[vr a2, vi 0, vr tA, vi 0, vi 4, vi 0, .unset] []
  refine oaloadN X0 hx hby d5_10 rfl rfl ?_
  refine oiloadN X0 hx hby d5_11 rfl ?_
  show gs s₁ m 12 #[vr a2, vi 0, vr tA, vi 0, vi 4, vi 0, .unset] [(.int 0), (.ref a2)]
  obtain ⟨cl1, Ar1, qa1, qs1, qn1, qh1, qg1⟩ := id R_C
  refine own_st (fun _ kS => X0.caload hx (j := (0 : Int32)) (v := (.int c0)) (by rw [e0]; exact Ar1.1) (State.isArrayOf_alike hZ.alike Ar1.2.1) Ar1.2.2 (inb_of qs1 ⟨by decide, by decide⟩) (qh1.at (inb_of qs1 ⟨by decide, by decide⟩) rfl) (g := (mkF m 12 #[vr a2, vi 0, vr tA, vi 0, vi 4, vi 0, .unset] [(.int 0), (.ref a2)])) rfl rfl (hb hby d5_12) _ kS) ?_
  show gs s₁ m 13 #[vr a2, vi 0, vr tA, vi 0, vi 4, vi 0, .unset] [(.int c0)]
  refine own_st (fun _ kS => XS.istore X0.here hx rfl (hb hby d5_13) rfl (l' := #[vr a2, vi 0, vr tA, vi 0, vi 4, vi 0, vi c0]) rfl kS) ?_
  refine oiload X0 hx hby d5_15 rfl ?_
  refine own_st (fun _ kS => XS.sipush X0.here hx rfl (hb hby d5_17) kS) ?_
  show gs s₁ m 20 #[vr a2, vi 0, vr tA, vi 0, vi 4, vi 0, vi c0] [(.int 255), (.int c0)]
  refine own_st (fun _ kS => XS.icmpYes X0.here hx rfl (pc0 := 20) (pc' := 26) rfl (hb hby d5_20) rfl (flt (hC0 : ¬ ((255 : Int32) < c0))).2.2.2 (by decide) (by decide) kS) ?_
  show gs s₁ m 26 #[vr a2, vi 0, vr tA, vi 0, vi 4, vi 0, vi c0] []
  refine oaloadN X0 hx hby d5_26 rfl rfl ?_
  refine oiloadN X0 hx hby d5_27 rfl ?_
  refine oiload X0 hx hby d5_28 rfl ?_
  refine own_st (fun _ kS => XT.i2b X0.here hx rfl (hb hby d5_30) rfl kS) ?_
  show gs s₁ m 31 #[vr a2, vi 0, vr tA, vi 0, vi 4, vi 0, vi c0] [(.int (c0.toInt8.toInt32)), (.int 0), (.ref tA)]
  obtain ⟨cl2, Ar2, qa2, qs2, qn2, qh2, qg2⟩ := id R_A
  obtain ⟨T2, h2, X2, e2, W2, st2⟩ := stB X0 hx hZ e0 Ar2 (j := (0 : Int32)) (inb_of qs2 ⟨by decide, by decide⟩) (g := (mkF m 31 #[vr a2, vi 0, vr tA, vi 0, vi 4, vi 0, vi c0] [(.int (c0.toInt8.toInt32)), (.int 0), (.ref tA)])) rfl rfl (hb hby d5_31)
  have N2 := Fr.snoc X2 N0 g_A
  have K2 := K0.wr W2 (Or.inl (List.mem_of_getElem? (i := 0) rfl))
  have R2 : Arv Z h2 tA kA .byte (4 : Int32) [(.int (nar .byte (c0.toInt8.toInt32))), (.int 0), (.int 0), (.int 0)] (.int 0) := Arv.set Ar2 qa2 qs2 qn2 qh2 qg2 (fits_nar_byte _) W2 0 rfl (Nat.le_of_ble_eq_true rfl)
  refine own_st st2 ?_
  show gs T2 m 32 #[vr a2, vi 0, vr tA, vi 0, vi 4, vi 0, vi c0] []
  refine own_st (fun _ kS => XS.iinc X2.here hx rfl (hb hby d5_32) rfl (l' := #[vr a2, vi 1, vr tA, vi 0, vi 4, vi 0, vi c0]) rfl kS) ?_
  refine own_st (fun _ kS => XS.iinc X2.here hx rfl (hb hby d5_35) rfl (l' := #[vr a2, vi 1, vr tA, vi 1, vi 4, vi 0, vi c0]) rfl kS) ?_
  refine own_st (fun _ kS => XS.iinc X2.here hx rfl (hb hby d5_38) rfl (l' := #[vr a2, vi 1, vr tA, vi 1, vi 4, vi 1, vi c0]) rfl kS) ?_
  refine own_st (fun _ kS => XS.goto X2.here hx rfl (pc0 := 41) (pc' := 3) rfl (hb hby d5_41) (by decide) (by decide) kS) ?_
  refine oiload X2 hx hby d5_3 rfl ?_
  refine oiload X2 hx hby d5_5 rfl ?_
  refine own_st (fun _ kS => XS.icmpNo X2.here hx rfl (hb hby d5_7) rfl (tlt (by decide : (1 : Int32) < (4 : Int32))).2.1 kS) ?_
  show gs T2 m 10 #[vr a2, vi 1, vr tA, vi 1, vi 4, vi 1, vi c0] []
  refine oaloadN X2 hx hby d5_10 rfl rfl ?_
  refine oiloadN X2 hx hby d5_11 rfl ?_
  show gs T2 m 12 #[vr a2, vi 1, vr tA, vi 1, vi 4, vi 1, vi c0] [(.int 1), (.ref a2)]
  obtain ⟨cl3, Ar3, qa3, qs3, qn3, qh3, qg3⟩ := id (R_C.other W2 ne2A)
  refine own_st (fun _ kS => X2.caload hx (j := (1 : Int32)) (v := (.int c1)) (by rw [e2]; exact Ar3.1) (State.isArrayOf_alike hZ.alike Ar3.2.1) Ar3.2.2 (inb_of qs3 ⟨by decide, by decide⟩) (qh3.at (inb_of qs3 ⟨by decide, by decide⟩) rfl) (g := (mkF m 12 #[vr a2, vi 1, vr tA, vi 1, vi 4, vi 1, vi c0] [(.int 1), (.ref a2)])) rfl rfl (hb hby d5_12) _ kS) ?_
  show gs T2 m 13 #[vr a2, vi 1, vr tA, vi 1, vi 4, vi 1, vi c0] [(.int c1)]
  refine own_st (fun _ kS => XS.istore X2.here hx rfl (hb hby d5_13) rfl (l' := #[vr a2, vi 1, vr tA, vi 1, vi 4, vi 1, vi c1]) rfl kS) ?_
  refine oiload X2 hx hby d5_15 rfl ?_
  refine own_st (fun _ kS => XS.sipush X2.here hx rfl (hb hby d5_17) kS) ?_
  show gs T2 m 20 #[vr a2, vi 1, vr tA, vi 1, vi 4, vi 1, vi c1] [(.int 255), (.int c1)]
  refine own_st (fun _ kS => XS.icmpYes X2.here hx rfl (pc0 := 20) (pc' := 26) rfl (hb hby d5_20) rfl (flt (hC1 : ¬ ((255 : Int32) < c1))).2.2.2 (by decide) (by decide) kS) ?_
  show gs T2 m 26 #[vr a2, vi 1, vr tA, vi 1, vi 4, vi 1, vi c1] []
  refine oaloadN X2 hx hby d5_26 rfl rfl ?_
  refine oiloadN X2 hx hby d5_27 rfl ?_
  refine oiload X2 hx hby d5_28 rfl ?_
  refine own_st (fun _ kS => XT.i2b X2.here hx rfl (hb hby d5_30) rfl kS) ?_
  show gs T2 m 31 #[vr a2, vi 1, vr tA, vi 1, vi 4, vi 1, vi c1] [(.int (c1.toInt8.toInt32)), (.int 1), (.ref tA)]
  obtain ⟨cl4, Ar4, qa4, qs4, qn4, qh4, qg4⟩ := id R2
  obtain ⟨T4, h4, X4, e4, W4, st4⟩ := stB X2 hx hZ e2 Ar4 (j := (1 : Int32)) (inb_of qs4 ⟨by decide, by decide⟩) (g := (mkF m 31 #[vr a2, vi 1, vr tA, vi 1, vi 4, vi 1, vi c1] [(.int (c1.toInt8.toInt32)), (.int 1), (.ref tA)])) rfl rfl (hb hby d5_31)
  have N4 := Fr.snoc X4 N2 g_A
  have K4 := K2.wr W4 (Or.inl (List.mem_of_getElem? (i := 0) rfl))
  have R4 : Arv Z h4 tA kA .byte (4 : Int32) [(.int (nar .byte (c0.toInt8.toInt32))), (.int (nar .byte (c1.toInt8.toInt32))), (.int 0), (.int 0)] (.int 0) := Arv.set Ar4 qa4 qs4 qn4 qh4 qg4 (fits_nar_byte _) W4 1 rfl (Nat.le_of_ble_eq_true rfl)
  refine own_st st4 ?_
  show gs T4 m 32 #[vr a2, vi 1, vr tA, vi 1, vi 4, vi 1, vi c1] []
  refine own_st (fun _ kS => XS.iinc X4.here hx rfl (hb hby d5_32) rfl (l' := #[vr a2, vi 2, vr tA, vi 1, vi 4, vi 1, vi c1]) rfl kS) ?_
  refine own_st (fun _ kS => XS.iinc X4.here hx rfl (hb hby d5_35) rfl (l' := #[vr a2, vi 2, vr tA, vi 2, vi 4, vi 1, vi c1]) rfl kS) ?_
  refine own_st (fun _ kS => XS.iinc X4.here hx rfl (hb hby d5_38) rfl (l' := #[vr a2, vi 2, vr tA, vi 2, vi 4, vi 2, vi c1]) rfl kS) ?_
  refine own_st (fun _ kS => XS.goto X4.here hx rfl (pc0 := 41) (pc' := 3) rfl (hb hby d5_41) (by decide) (by decide) kS) ?_
  refine oiload X4 hx hby d5_3 rfl ?_
  refine oiload X4 hx hby d5_5 rfl ?_
  refine own_st (fun _ kS => XS.icmpNo X4.here hx rfl (hb hby d5_7) rfl (tlt (by decide : (2 : Int32) < (4 : Int32))).2.1 kS) ?_
  show gs T4 m 10 #[vr a2, vi 2, vr tA, vi 2, vi 4, vi 2, vi c1] []
  refine oaloadN X4 hx hby d5_10 rfl rfl ?_
  refine oiloadN X4 hx hby d5_11 rfl ?_
  show gs T4 m 12 #[vr a2, vi 2, vr tA, vi 2, vi 4, vi 2, vi c1] [(.int 2), (.ref a2)]
  obtain ⟨cl5, Ar5, qa5, qs5, qn5, qh5, qg5⟩ := id ((R_C.other W2 ne2A).other W4 ne2A)
  refine own_st (fun _ kS => X4.caload hx (j := (2 : Int32)) (v := (.int c2)) (by rw [e4]; exact Ar5.1) (State.isArrayOf_alike hZ.alike Ar5.2.1) Ar5.2.2 (inb_of qs5 ⟨by decide, by decide⟩) (qh5.at (inb_of qs5 ⟨by decide, by decide⟩) rfl) (g := (mkF m 12 #[vr a2, vi 2, vr tA, vi 2, vi 4, vi 2, vi c1] [(.int 2), (.ref a2)])) rfl rfl (hb hby d5_12) _ kS) ?_
  show gs T4 m 13 #[vr a2, vi 2, vr tA, vi 2, vi 4, vi 2, vi c1] [(.int c2)]
  refine own_st (fun _ kS => XS.istore X4.here hx rfl (hb hby d5_13) rfl (l' := #[vr a2, vi 2, vr tA, vi 2, vi 4, vi 2, vi c2]) rfl kS) ?_
  refine oiload X4 hx hby d5_15 rfl ?_
  refine own_st (fun _ kS => XS.sipush X4.here hx rfl (hb hby d5_17) kS) ?_
  show gs T4 m 20 #[vr a2, vi 2, vr tA, vi 2, vi 4, vi 2, vi c2] [(.int 255), (.int c2)]
  refine own_st (fun _ kS => XS.icmpYes X4.here hx rfl (pc0 := 20) (pc' := 26) rfl (hb hby d5_20) rfl (flt (hC2 : ¬ ((255 : Int32) < c2))).2.2.2 (by decide) (by decide) kS) ?_
  show gs T4 m 26 #[vr a2, vi 2, vr tA, vi 2, vi 4, vi 2, vi c2] []
  refine oaloadN X4 hx hby d5_26 rfl rfl ?_
  refine oiloadN X4 hx hby d5_27 rfl ?_
  refine oiload X4 hx hby d5_28 rfl ?_
  refine own_st (fun _ kS => XT.i2b X4.here hx rfl (hb hby d5_30) rfl kS) ?_
  show gs T4 m 31 #[vr a2, vi 2, vr tA, vi 2, vi 4, vi 2, vi c2] [(.int (c2.toInt8.toInt32)), (.int 2), (.ref tA)]
  obtain ⟨cl6, Ar6, qa6, qs6, qn6, qh6, qg6⟩ := id R4
  obtain ⟨T6, h6, X6, e6, W6, st6⟩ := stB X4 hx hZ e4 Ar6 (j := (2 : Int32)) (inb_of qs6 ⟨by decide, by decide⟩) (g := (mkF m 31 #[vr a2, vi 2, vr tA, vi 2, vi 4, vi 2, vi c2] [(.int (c2.toInt8.toInt32)), (.int 2), (.ref tA)])) rfl rfl (hb hby d5_31)
  have N6 := Fr.snoc X6 N4 g_A
  have K6 := K4.wr W6 (Or.inl (List.mem_of_getElem? (i := 0) rfl))
  have R6 : Arv Z h6 tA kA .byte (4 : Int32) [(.int (nar .byte (c0.toInt8.toInt32))), (.int (nar .byte (c1.toInt8.toInt32))), (.int (nar .byte (c2.toInt8.toInt32))), (.int 0)] (.int 0) := Arv.set Ar6 qa6 qs6 qn6 qh6 qg6 (fits_nar_byte _) W6 2 rfl (Nat.le_of_ble_eq_true rfl)
  refine own_st st6 ?_
  show gs T6 m 32 #[vr a2, vi 2, vr tA, vi 2, vi 4, vi 2, vi c2] []
  refine own_st (fun _ kS => XS.iinc X6.here hx rfl (hb hby d5_32) rfl (l' := #[vr a2, vi 3, vr tA, vi 2, vi 4, vi 2, vi c2]) rfl kS) ?_
  refine own_st (fun _ kS => XS.iinc X6.here hx rfl (hb hby d5_35) rfl (l' := #[vr a2, vi 3, vr tA, vi 3, vi 4, vi 2, vi c2]) rfl kS) ?_
  refine own_st (fun _ kS => XS.iinc X6.here hx rfl (hb hby d5_38) rfl (l' := #[vr a2, vi 3, vr tA, vi 3, vi 4, vi 3, vi c2]) rfl kS) ?_
  refine own_st (fun _ kS => XS.goto X6.here hx rfl (pc0 := 41) (pc' := 3) rfl (hb hby d5_41) (by decide) (by decide) kS) ?_
  refine oiload X6 hx hby d5_3 rfl ?_
  refine oiload X6 hx hby d5_5 rfl ?_
  refine own_st (fun _ kS => XS.icmpNo X6.here hx rfl (hb hby d5_7) rfl (tlt (by decide : (3 : Int32) < (4 : Int32))).2.1 kS) ?_
  show gs T6 m 10 #[vr a2, vi 3, vr tA, vi 3, vi 4, vi 3, vi c2] []
  refine oaloadN X6 hx hby d5_10 rfl rfl ?_
  refine oiloadN X6 hx hby d5_11 rfl ?_
  show gs T6 m 12 #[vr a2, vi 3, vr tA, vi 3, vi 4, vi 3, vi c2] [(.int 3), (.ref a2)]
  obtain ⟨cl7, Ar7, qa7, qs7, qn7, qh7, qg7⟩ := id (((R_C.other W2 ne2A).other W4 ne2A).other W6 ne2A)
  refine own_st (fun _ kS => X6.caload hx (j := (3 : Int32)) (v := (.int c3)) (by rw [e6]; exact Ar7.1) (State.isArrayOf_alike hZ.alike Ar7.2.1) Ar7.2.2 (inb_of qs7 ⟨by decide, by decide⟩) (qh7.at (inb_of qs7 ⟨by decide, by decide⟩) rfl) (g := (mkF m 12 #[vr a2, vi 3, vr tA, vi 3, vi 4, vi 3, vi c2] [(.int 3), (.ref a2)])) rfl rfl (hb hby d5_12) _ kS) ?_
  show gs T6 m 13 #[vr a2, vi 3, vr tA, vi 3, vi 4, vi 3, vi c2] [(.int c3)]
  refine own_st (fun _ kS => XS.istore X6.here hx rfl (hb hby d5_13) rfl (l' := #[vr a2, vi 3, vr tA, vi 3, vi 4, vi 3, vi c3]) rfl kS) ?_
  refine oiload X6 hx hby d5_15 rfl ?_
  refine own_st (fun _ kS => XS.sipush X6.here hx rfl (hb hby d5_17) kS) ?_
  show gs T6 m 20 #[vr a2, vi 3, vr tA, vi 3, vi 4, vi 3, vi c3] [(.int 255), (.int c3)]
  refine own_st (fun _ kS => XS.icmpYes X6.here hx rfl (pc0 := 20) (pc' := 26) rfl (hb hby d5_20) rfl (flt (hC3 : ¬ ((255 : Int32) < c3))).2.2.2 (by decide) (by decide) kS) ?_
  show gs T6 m 26 #[vr a2, vi 3, vr tA, vi 3, vi 4, vi 3, vi c3] []
  refine oaloadN X6 hx hby d5_26 rfl rfl ?_
  refine oiloadN X6 hx hby d5_27 rfl ?_
  refine oiload X6 hx hby d5_28 rfl ?_
  refine own_st (fun _ kS => XT.i2b X6.here hx rfl (hb hby d5_30) rfl kS) ?_
  show gs T6 m 31 #[vr a2, vi 3, vr tA, vi 3, vi 4, vi 3, vi c3] [(.int (c3.toInt8.toInt32)), (.int 3), (.ref tA)]
  obtain ⟨cl8, Ar8, qa8, qs8, qn8, qh8, qg8⟩ := id R6
  obtain ⟨T8, h8, X8, e8, W8, st8⟩ := stB X6 hx hZ e6 Ar8 (j := (3 : Int32)) (inb_of qs8 ⟨by decide, by decide⟩) (g := (mkF m 31 #[vr a2, vi 3, vr tA, vi 3, vi 4, vi 3, vi c3] [(.int (c3.toInt8.toInt32)), (.int 3), (.ref tA)])) rfl rfl (hb hby d5_31)
  have N8 := Fr.snoc X8 N6 g_A
  have K8 := K6.wr W8 (Or.inl (List.mem_of_getElem? (i := 0) rfl))
  have R8 : Arv Z h8 tA kA .byte (4 : Int32) [(.int (nar .byte (c0.toInt8.toInt32))), (.int (nar .byte (c1.toInt8.toInt32))), (.int (nar .byte (c2.toInt8.toInt32))), (.int (nar .byte (c3.toInt8.toInt32)))] (.int 0) := Arv.set Ar8 qa8 qs8 qn8 qh8 qg8 (fits_nar_byte _) W8 3 rfl (Nat.le_of_ble_eq_true rfl)
  refine own_st st8 ?_
  show gs T8 m 32 #[vr a2, vi 3, vr tA, vi 3, vi 4, vi 3, vi c3] []
  refine own_st (fun _ kS => XS.iinc X8.here hx rfl (hb hby d5_32) rfl (l' := #[vr a2, vi 4, vr tA, vi 3, vi 4, vi 3, vi c3]) rfl kS) ?_
  refine own_st (fun _ kS => XS.iinc X8.here hx rfl (hb hby d5_35) rfl (l' := #[vr a2, vi 4, vr tA, vi 4, vi 4, vi 3, vi c3]) rfl kS) ?_
  refine own_st (fun _ kS => XS.iinc X8.here hx rfl (hb hby d5_38) rfl (l' := #[vr a2, vi 4, vr tA, vi 4, vi 4, vi 4, vi c3]) rfl kS) ?_
  refine own_st (fun _ kS => XS.goto X8.here hx rfl (pc0 := 41) (pc' := 3) rfl (hb hby d5_41) (by decide) (by decide) kS) ?_
  refine oiload X8 hx hby d5_3 rfl ?_
  refine oiload X8 hx hby d5_5 rfl ?_
  refine own_st (fun _ kS => XS.icmpYes X8.here hx rfl (pc0 := 7) (pc' := 44) rfl (hb hby d5_7) rfl (flt (by decide : ¬ ((4 : Int32) < (4 : Int32)))).2.1 (by decide) (by decide) kS) ?_
  show gs T8 m 44 #[vr a2, vi 4, vr tA, vi 4, vi 4, vi 4, vi c3] []
  refine oiload X8 hx hby d5_44 rfl ?_
  exact own_retI X8 hx hlk hret (hb hby d5_46) (by decide) (by decide) (by rw [e8]; exact ⟨rfl, N8, K8, R8⟩)
theorem ef_cmpA4 (m : MethodId) (x0 : Addr) : entryFrame m #[(.ref x0), (.int 0), (.int 4)] 6 = mkF m 0 #[.val (.ref x0), .val (.int 0), .val (.int 4), .unset, .unset, .unset] [] := by first | (simp [entryFrame, mkF, argsToLocals, Value.category]; done) | rfl
def Q_cmpA4 (Z : State) (a2 : Addr) (kC : ClassId) (c0 : Int32) (c1 : Int32) (c2 : Int32) (c3 : Int32) (h0 : Heap) (n0 : Nat) (v : Option Value) (h : Heap) (L : List Loc) : Prop := ∃ tN : Addr, ∃ kN : ClassId, v = some (.ref tN) ∧ Fr n0 L ∧ Keep h0 h [] ∧ h0.size ≤ tN ∧ Arv Z h tN kN .byte (4 : Int32) [(.int (nar .byte (c0.toInt8.toInt32))), (.int (nar .byte (c1.toInt8.toInt32))), (.int (nar .byte (c2.toInt8.toInt32))), (.int (nar .byte (c3.toInt8.toInt32)))] (.int 0)
theorem rm_cmpA4 (l : Launch) (Z : State) (a0 : Array Value) (hw : HW a0 Z) (ws : List Jvm.Cond) (a2 : Addr) (kC : ClassId) (c0 : Int32) (c1 : Int32) (c2 : Int32) (c3 : Int32) (h0 : Heap) (n0 : Nat) (Z0 : n0 ≤ h0.size) (R_C : Arv Z h0 a2 kC .char (4 : Int32) [(.int c0), (.int c1), (.int c2), (.int c3)] (.int 0)) (hC0 : ¬ ((255 : Int32) < c0)) (hC1 : ¬ ((255 : Int32) < c1)) (hC2 : ¬ ((255 : Int32) < c2)) (hC3 : ¬ ((255 : Int32) < c3)) :
    M1 l ws (rmk 1 1 4 18) Z #[(.ref a2), (.int 0), (.int 4)] h0 (Q_cmpA4 Z a2 kC c0 c1 c2 c3 h0 n0) := by
  refine own_go "java/lang/StringUTF16" rfl (plainFor_of_name pn_4) (fun m => ef_cmpA4 m a2) (fun p e s m below meth c s₁ hx hby hml hown hnm hlk hret hZ X0 e0 => ?_)
  have N0 := Fr.nil n0
  have K0 := Keep.refl h0 []
  show gs s₁ m 0 #[vr a2, vi 0, vi 4, .unset, .unset, .unset] []
  refine oiloadN X0 hx hby d4_0 rfl ?_
  show gs s₁ m 1 #[vr a2, vi 0, vi 4, .unset, .unset, .unset] [(.int 4)]
  obtain ⟨T1, h1, k1, X1, e1, E1, A1, st1⟩ := newP X0 hx hZ (own_w hw 23 rfl) e0 (g := (mkF m 1 #[vr a2, vi 0, vi 4, .unset, .unset, .unset] [(.int 4)])) rfl (hb hby d4_1) rfl (by decide) (cap := 4) (by decide) (by decide) (by decide) (by decide)
  obtain ⟨b1, g1⟩ : ∃ z, z = h0.size := ⟨_, rfl⟩
  have ne_a2_b1 : a2 ≠ b1 := Nat.ne_of_lt (Nat.lt_of_lt_of_eq R_C.lt g1.symm)
  have ge_b1 : n0 ≤ b1 := Nat.le_trans Z0 (Nat.le_of_eq g1.symm)
  have sz_b1 : h0.size ≤ b1 := Nat.le_trans K0.1 (Nat.le_of_eq g1.symm)
  rw [← g1] at A1 st1
  have K1 := K0.ext E1
  have R1 : Arv Z h1 b1 k1 .byte (4 : Int32) [(.int 0), (.int 0), (.int 0), (.int 0)] (.int 0) := (Arv.new A1 (by decide)).pad (pad_rep [] (.int 0) 4)
  refine own_st st1 ?_
  show gs T1 m 3 #[vr a2, vi 0, vi 4, .unset, .unset, .unset] [(.ref b1)]
  refine own_st (fun _ kS => XS.astoreN X1.here hx rfl (hb hby d4_3) rfl rfl (l' := #[vr a2, vi 0, vi 4, vr b1, .unset, .unset]) rfl kS) ?_
  refine oaloadN X1 hx hby d4_4 rfl rfl ?_
  refine oiloadN X1 hx hby d4_5 rfl ?_
  refine oaloadN X1 hx hby d4_6 rfl rfl ?_
  refine oiconst X1 hx hby d4_7 ?_
  refine oiloadN X1 hx hby d4_8 rfl ?_
  refine oS 0 X1 hx hZ hby hml hown (own_w hw 24 rfl) (own_w hw 25 rfl) (own_w hw 21 rfl) (own_w hw 26 rfl) (rm_cmpI4 l Z a0 hw [] a2 kC b1 k1 c0 c1 c2 c3 h1 n0 (Nat.le_trans Z0 E1.1)  (Arv.ext R_C E1) R1 ge_b1 ne_a2_b1 hC0 hC1 hC2 hC3) e1 (by decide) own_pd1 d4_9 rfl rfl rfl (fun T2 L2 v2 X2 hQ2 => ?_)
  obtain ⟨rfl, Nq2, Kc2, P2_0⟩ := hQ2
  have N2 := Fr.app N0 Nq2
  have K2 := K1.trans Kc2 (allS (Or.inr sz_b1) all0)
  show gs T2 m 12 #[vr a2, vi 0, vi 4, vr b1, .unset, .unset] [(.int 4)]
  refine own_st (fun _ kS => XS.istore X2.here hx rfl (hb hby d4_12) rfl (l' := #[vr a2, vi 0, vi 4, vr b1, vi 4, .unset]) rfl kS) ?_
  refine oiload X2 hx hby d4_14 rfl ?_
  refine oiloadN X2 hx hby d4_16 rfl ?_
  refine own_st (fun _ kS => XS.icmpYes X2.here hx rfl (pc0 := 17) (pc' := 57) rfl (hb hby d4_17) rfl (teq (by decide : (4 : Int32) = (4 : Int32))).1 (by decide) (by decide) kS) ?_
  show gs T2 m 57 #[vr a2, vi 0, vi 4, vr b1, vi 4, .unset] []
  refine oaloadN X2 hx hby d4_57 rfl rfl ?_
  exact own_retA X2 hx hlk hret rfl rfl (hb hby d4_58) (by decide) (by decide) (show Q_cmpA4 Z a2 kC c0 c1 c2 c3 h0 n0 _ _ _ from ⟨b1, k1, ⟨rfl, N2, K2, sz_b1, P2_0⟩⟩)
theorem ef_cfal4 (m : MethodId) (x0 : Addr) : entryFrame m #[(.ref x0), (.int 4)] 2 = mkF m 0 #[.val (.ref x0), .val (.int 4)] [] := by first | (simp [entryFrame, mkF, argsToLocals, Value.category]; done) | rfl
def Q_cfal4 (Z : State) (tA : Addr) (kA : ClassId) (y0 : Int32) (y1 : Int32) (y2 : Int32) (y3 : Int32) (h0 : Heap) (n0 : Nat) (v : Option Value) (h : Heap) (L : List Loc) : Prop := v = some (.int 0) ∧ Fr n0 L ∧ h = h0
theorem rm_cfal4 (l : Launch) (Z : State) (a0 : Array Value) (hw : HW a0 Z) (ws : List Jvm.Cond) (tA : Addr) (kA : ClassId) (y0 : Int32) (y1 : Int32) (y2 : Int32) (y3 : Int32) (h0 : Heap) (n0 : Nat) (Z0 : n0 ≤ h0.size) (R_A : Arv Z h0 tA kA .byte (4 : Int32) [(.int y0), (.int y1), (.int y2), (.int y3)] (.int 0)) :
    M2 l ws (rmk 0 0 0 0) Z #[(.ref tA), (.int 4)] h0 (Q_cfal4 Z tA kA y0 y1 y2 y3 h0 n0) := by
  refine own_go "java/lang/StringUTF16" rfl (plainFor_of_name pn_6) (fun m => ef_cfal4 m tA) (fun p e s m below meth c s₁ hx hby hml hown hnm hlk hret hZ X0 e0 => ?_)
  have N0 := Fr.nil n0
  show gs s₁ m 0 #[vr tA, vi 4] []
  refine oiloadN X0 hx hby d6_0 rfl ?_
  refine oaloadN X0 hx hby d6_1 rfl rfl ?_
  show gs s₁ m 2 #[vr tA, vi 4] [(.ref tA), (.int 4)]
  obtain ⟨cl1, Ar1, qa1, qs1, qn1, qh1, qg1⟩ := id R_A
  refine own_st (fun _ kS => X0.arraylength hx (by rw [e0]; exact Ar1.1) (State.isArrayOf_alike hZ.alike Ar1.2.1) (g := (mkF m 2 #[vr tA, vi 4] [(.ref tA), (.int 4)])) rfl rfl (hb hby d6_2) _ kS) ?_
  rw [len_of qs1 qn1]
  show gs s₁ m 3 #[vr tA, vi 4] [(.int 4), (.int 4)]
  refine own_st (fun _ kS => XS.isub X0.here hx rfl (hb hby d6_3) rfl kS) ?_
  refine own_st (fun _ kS => XS.bipush X0.here hx rfl (hb hby d6_4) kS) ?_
  refine own_st (fun _ kS => XT.iushr X0.here hx rfl (hb hby d6_6) rfl kS) ?_
  refine own_st (fun _ kS => XT.i2b X0.here hx rfl (hb hby d6_7) rfl kS) ?_
  show gs s₁ m 8 #[vr tA, vi 4] [(.int 0)]
  exact own_retN X0 hx hlk (t := .byte) hret (by simp) (hb hby d6_8) (by decide) (by decide) (v' := (0 : Int32)) rfl (by rw [e0]; exact ⟨rfl, N0, rfl⟩)
theorem ef_init4_4 (m : MethodId) (x0 : Addr) (x1 : Addr) : entryFrame m #[(.ref x0), (.ref x1), (.int 0), (.int 4), .null] 6 = mkF m 0 #[.val (.ref x0), .val (.ref x1), .val (.int 0), .val (.int 4), .val .null, .unset] [] := by first | (simp [entryFrame, mkF, argsToLocals, Value.category]; done) | rfl
def Q_init4_4 (Z : State) (aS : Addr) (a2 : Addr) (kC : ClassId) (c0 : Int32) (c1 : Int32) (c2 : Int32) (c3 : Int32) (zCS : Int32) (h0 : Heap) (n0 : Nat) (v : Option Value) (h : Heap) (L : List Loc) : Prop := ∃ tN : Addr, ∃ kN : ClassId, v = none ∧ Fr n0 L ∧ Keep h0 h [aS] ∧ ek12 Z h aS ∧ fk8 Z h aS (.int 0) ∧ fk9 Z h aS (.ref tN) ∧ Arv Z h tN kN .byte (4 : Int32) [(.int (nar .byte (c0.toInt8.toInt32))), (.int (nar .byte (c1.toInt8.toInt32))), (.int (nar .byte (c2.toInt8.toInt32))), (.int (nar .byte (c3.toInt8.toInt32)))] (.int 0)
theorem rm_init4_4 (l : Launch) (Z : State) (a0 : Array Value) (hw : HW a0 Z) (ws : List Jvm.Cond) (aS : Addr) (a2 : Addr) (kC : ClassId) (c0 : Int32) (c1 : Int32) (c2 : Int32) (c3 : Int32) (zCS : Int32) (h0 : Heap) (n0 : Nat) (Z0 : n0 ≤ h0.size) (O0 : Old Z n0 h0) (E_0 : ek12 Z h0 aS) (g_0 : n0 ≤ aS) (F0v : fk9 Z h0 aS .null) (F0c : fk8 Z h0 aS (.int 0)) (ne02 : aS ≠ a2) (R_C : Arv Z h0 a2 kC .char (4 : Int32) [(.int c0), (.int c1), (.int c2), (.int c3)] (.int 0)) (hC0 : ¬ ((255 : Int32) < c0)) (hC1 : ¬ ((255 : Int32) < c1)) (hC2 : ¬ ((255 : Int32) < c2)) (hC3 : ¬ ((255 : Int32) < c3)) (S_CS : sk0 Z Z.heap (.int zCS)) (P_CS : ¬ zCS = 0) :
    M3 l ws (rmk 2 1 4 35) Z #[(.ref aS), (.ref a2), (.int 0), (.int 4), .null] h0 (Q_init4_4 Z aS a2 kC c0 c1 c2 c3 zCS h0 n0) := by
  refine own_go "java/lang/String" rfl (plainFor_of_name pn_2) (fun m => ef_init4_4 m aS a2) (fun p e s m below meth c s₁ hx hby hml hown hnm hlk hret hZ X0 e0 => ?_)
  have N0 := Fr.nil n0
  have K0 := Keep.refl h0 [aS]
  show gs s₁ m 0 #[vr aS, vr a2, vi 0, vi 4, .val .null, .unset] []
  refine oaloadN X0 hx hby d2_0 rfl rfl ?_
  obtain ⟨T1, X1, e1, st1⟩ := initO X0 hx hZ hown (own_w hw 15 rfl) (own_w hw 16 rfl) (own_w hw 17 rfl) e0 (g := (mkF m 1 #[vr aS, vr a2, vi 0, vi 4, .val .null, .unset] [(.ref aS)])) rfl (by rw [hml]; rfl) rfl (hb hby d2_1) (by decide) (W := 0) (by show 2 * 0 + _ ≤ _; exact Nat.le_of_eq rfl) (by decide)
  refine own_st st1 ?_
  show gs T1 m 4 #[vr aS, vr a2, vi 0, vi 4, .val .null, .unset] []
  refine oiloadN X1 hx hby d2_4 rfl ?_
  refine own_st (fun _ kS => XS.ifYes X1.here hx rfl (pc0 := 5) (pc' := 27) rfl (hb hby d2_5) rfl ((if0 _ _).trans (feq (by decide : ¬ ((4 : Int32) = (0 : Int32)))).2) (by decide) (by decide) kS) ?_
  show gs T1 m 27 #[vr aS, vr a2, vi 0, vi 4, .val .null, .unset] []
  obtain ⟨T2, X2, e2, st2⟩ := getS2 X1 hx hZ hown (host := "") (Or.inl (own_w hw 18 rfl)) Via.refl e1 (Sta.ext O0.2 S_CS) (g := (mkF m 27 #[vr aS, vr a2, vi 0, vi 4, .val .null, .unset] [])) rfl (hb hby d2_27)
  refine own_st st2 ?_
  show gs T2 m 30 #[vr aS, vr a2, vi 0, vi 4, .val .null, .unset] [(.int zCS)]
  refine own_st (fun _ kS => XS.ifNo X2.here hx rfl (hb hby d2_30) rfl ((if0 _ _).trans (feq (P_CS : ¬ (zCS = (0 : Int32)))).1) kS) ?_
  show gs T2 m 33 #[vr aS, vr a2, vi 0, vi 4, .val .null, .unset] []
  refine oaloadN X2 hx hby d2_33 rfl rfl ?_
  refine oiloadN X2 hx hby d2_34 rfl ?_
  refine oiloadN X2 hx hby d2_35 rfl ?_
  refine oS 0 X2 hx hZ hby hml hown (own_w hw 19 rfl) (own_w hw 20 rfl) (own_w hw 21 rfl) (own_w hw 22 rfl) (rm_cmpA4 l Z a0 hw [] a2 kC c0 c1 c2 c3 h0 n0 Z0  R_C hC0 hC1 hC2 hC3) e2 (by decide) own_pd2 d2_36 rfl rfl rfl (fun T3 L3 v3 X3 hQ3 => ?_)
  obtain ⟨tN_3, kN_3, rfl, Nq3, Kc3, P3_0, P3_1⟩ := hQ3
  have N3 := Fr.app N0 Nq3
  have ne_aS_tN_3 : aS ≠ tN_3 := Nat.ne_of_lt (Nat.lt_of_lt_of_le E_0.lt P3_0)
  have ne_a2_tN_3 : a2 ≠ tN_3 := Nat.ne_of_lt (Nat.lt_of_lt_of_le R_C.lt P3_0)
  have ge_tN_3 : n0 ≤ tN_3 := Nat.le_trans Z0 P3_0
  have sz_tN_3 : h0.size ≤ tN_3 := Nat.le_trans K0.1 P3_0
  have K3 := K0.trans Kc3 all0
  have O3 := O0.keep Kc3 all0
  show gs T3 m 39 #[vr aS, vr a2, vi 0, vi 4, .val .null, .unset] [(.ref tN_3)]
  refine own_st (fun _ kS => XS.astore X3.here hx rfl (hb hby d2_39) rfl rfl (l' := #[vr aS, vr a2, vi 0, vi 4, .val .null, vr tN_3]) rfl kS) ?_
  refine oaloadN X3 hx hby d2_41 rfl rfl ?_
  refine oaload X3 hx hby d2_42 rfl rfl ?_
  refine oiloadN X3 hx hby d2_44 rfl ?_
  refine oS 1 X3 hx hZ hby hml hown (own_w hw 27 rfl) (own_w hw 28 rfl) (own_w hw 21 rfl) (own_w hw 29 rfl) (rm_cfal4 l Z a0 hw [] tN_3 kN_3 (nar .byte (c0.toInt8.toInt32)) (nar .byte (c1.toInt8.toInt32)) (nar .byte (c2.toInt8.toInt32)) (nar .byte (c3.toInt8.toInt32)) T3.heap n0 (Nat.le_trans Z0 Kc3.1)  P3_1) rfl (by decide) own_pd3 d2_45 rfl rfl rfl (fun T4 L4 v4 X4 hQ4 => ?_)
  obtain ⟨rfl, Nq4, eq4⟩ := hQ4
  have N4 := Fr.app N3 Nq4
  show gs T4 m 48 #[vr aS, vr a2, vi 0, vi 4, .val .null, vr tN_3] [(.int 0), (.ref aS)]
  obtain ⟨T5, h5, X5, e5, W5, st5⟩ := putFN X4 hx hZ hown (own_w hw 30 rfl) Via.refl eq4 (F0c.keep Kc3 nin0) (E_0.keep Kc3) (Or.inr ⟨(own_w hw 31 rfl), rfl, hnm⟩) (own_w hw 6 rfl) (ty := .byte) (v' := (.int 0)) (by decide) rfl (by decide) (g := (mkF m 48 #[vr aS, vr a2, vi 0, vi 4, .val .null, vr tN_3] [(.int 0), (.ref aS)])) rfl rfl (hb hby d2_48)
  refine own_st st5 ?_
  have N5 := Fr.snoc X5 N4 g_0
  have K5 := K3.wr W5 (Or.inl (List.mem_of_getElem? (i := 0) rfl))
  have O5 := O3.wr W5 g_0
  have Fw5 := Fld.same W5 (F0c.keep Kc3 nin0)
  show gs T5 m 51 #[vr aS, vr a2, vi 0, vi 4, .val .null, vr tN_3] []
  refine oaloadN X5 hx hby d2_51 rfl rfl ?_
  refine oaload X5 hx hby d2_52 rfl rfl ?_
  show gs T5 m 54 #[vr aS, vr a2, vi 0, vi 4, .val .null, vr tN_3] [(.ref tN_3), (.ref aS)]
  obtain ⟨T6, h6, X6, e6, W6, st6⟩ := putF X5 hx hZ hown (host := "") (Or.inl (own_w hw 32 rfl)) Via.refl e5 (Fld.other W5 (F0v.keep Kc3 nin0) (Or.inr (slot_ne (Or.inr (own_w hw 33 rfl)) (Or.inr (own_w hw 31 rfl)) (by decide) (t := (.array .byte)) (t' := .byte) (by decide) (by decide)))) (Exa.wr W5 (E_0.keep Kc3)) (Or.inr ⟨(own_w hw 33 rfl), rfl, hnm⟩) (own_w hw 6 rfl) (ty := (.array .byte)) (by decide) rfl rfl (g := (mkF m 54 #[vr aS, vr a2, vi 0, vi 4, .val .null, vr tN_3] [(.ref tN_3), (.ref aS)])) rfl rfl (hb hby d2_54)
  refine own_st st6 ?_
  have N6 := Fr.snoc X6 N5 g_0
  have K6 := K5.wr W6 (Or.inl (List.mem_of_getElem? (i := 0) rfl))
  have O6 := O5.wr W6 g_0
  have Fw6 := Fld.same W6 (Fld.other W5 (F0v.keep Kc3 nin0) (Or.inr (slot_ne (Or.inr (own_w hw 33 rfl)) (Or.inr (own_w hw 31 rfl)) (by decide) (t := (.array .byte)) (t' := .byte) (by decide) (by decide))))
  show gs T6 m 57 #[vr aS, vr a2, vi 0, vi 4, .val .null, vr tN_3] []
  exact own_retV X6 hx hlk hret (hb hby d2_57) (by decide) (by decide) (by rw [e6]; exact ⟨tN_3, kN_3, ⟨rfl, N6, K6, (Exa.wr W6 (Exa.wr W5 (E_0.keep Kc3))), (Fld.other W6 Fw5 (Or.inr (slot_ne (Or.inr (own_w hw 31 rfl)) (Or.inr (own_w hw 33 rfl)) (by decide) (t := .byte) (t' := (.array .byte)) (by decide) (by decide)))), Fw6, ((P3_1.other W5 (Ne.symm ne_aS_tN_3)).other W6 (Ne.symm ne_aS_tN_3))⟩⟩)
theorem ef_init1_4 (m : MethodId) (x0 : Addr) (x1 : Addr) : entryFrame m #[(.ref x0), (.ref x1)] 2 = mkF m 0 #[.val (.ref x0), .val (.ref x1)] [] := by first | (simp [entryFrame, mkF, argsToLocals, Value.category]; done) | rfl
def Q_init1_4 (Z : State) (aS : Addr) (a2 : Addr) (kC : ClassId) (c0 : Int32) (c1 : Int32) (c2 : Int32) (c3 : Int32) (zCS : Int32) (h0 : Heap) (n0 : Nat) (v : Option Value) (h : Heap) (L : List Loc) : Prop := ∃ tN : Addr, ∃ kN : ClassId, v = none ∧ Fr n0 L ∧ Keep h0 h [aS] ∧ ek12 Z h aS ∧ fk8 Z h aS (.int 0) ∧ fk9 Z h aS (.ref tN) ∧ Arv Z h tN kN .byte (4 : Int32) [(.int (nar .byte (c0.toInt8.toInt32))), (.int (nar .byte (c1.toInt8.toInt32))), (.int (nar .byte (c2.toInt8.toInt32))), (.int (nar .byte (c3.toInt8.toInt32)))] (.int 0)
theorem rm_init1_4 (l : Launch) (Z : State) (a0 : Array Value) (hw : HW a0 Z) (ws : List Jvm.Cond) (aS : Addr) (a2 : Addr) (kC : ClassId) (c0 : Int32) (c1 : Int32) (c2 : Int32) (c3 : Int32) (zCS : Int32) (h0 : Heap) (n0 : Nat) (Z0 : n0 ≤ h0.size) (O0 : Old Z n0 h0) (E_0 : ek12 Z h0 aS) (g_0 : n0 ≤ aS) (F0v : fk9 Z h0 aS .null) (F0c : fk8 Z h0 aS (.int 0)) (ne02 : aS ≠ a2) (R_C : Arv Z h0 a2 kC .char (4 : Int32) [(.int c0), (.int c1), (.int c2), (.int c3)] (.int 0)) (hC0 : ¬ ((255 : Int32) < c0)) (hC1 : ¬ ((255 : Int32) < c1)) (hC2 : ¬ ((255 : Int32) < c2)) (hC3 : ¬ ((255 : Int32) < c3)) (S_CS : sk0 Z Z.heap (.int zCS)) (P_CS : ¬ zCS = 0) :
    M4 l ws (rmk 3 1 4 52) Z #[(.ref aS), (.ref a2)] h0 (Q_init1_4 Z aS a2 kC c0 c1 c2 c3 zCS h0 n0) := by
  refine own_go "java/lang/String" rfl (plainFor_of_name pn_1) (fun m => ef_init1_4 m aS a2) (fun p e s m below meth c s₁ hx hby hml hown hnm hlk hret hZ X0 e0 => ?_)
  have N0 := Fr.nil n0
  have K0 := Keep.refl h0 [aS]
  show gs s₁ m 0 #[vr aS, vr a2] []
  refine oaloadN X0 hx hby d1_0 rfl rfl ?_
  refine oaloadN X0 hx hby d1_1 rfl rfl ?_
  refine oiconst X0 hx hby d1_2 ?_
  refine oaloadN X0 hx hby d1_3 rfl rfl ?_
  show gs s₁ m 4 #[vr aS, vr a2] [(.ref a2), (.int 0), (.ref a2), (.ref aS)]
  obtain ⟨cl1, Ar1, qa1, qs1, qn1, qh1, qg1⟩ := id R_C
  refine own_st (fun _ kS => X0.arraylength hx (by rw [e0]; exact Ar1.1) (State.isArrayOf_alike hZ.alike Ar1.2.1) (g := (mkF m 4 #[vr aS, vr a2] [(.ref a2), (.int 0), (.ref a2), (.ref aS)])) rfl rfl (hb hby d1_4) _ kS) ?_
  rw [len_of qs1 qn1]
  show gs s₁ m 5 #[vr aS, vr a2] [(.int 4), (.int 0), (.ref a2), (.ref aS)]
  refine own_st (fun _ kS => XS.aconstNull X0.here hx rfl (hb hby d1_5) kS) ?_
  show gs s₁ m 6 #[vr aS, vr a2] [.null, (.int 4), (.int 0), (.ref a2), (.ref aS)]
  refine oN 0 X0 hx hZ hby hml hown (own_w hw 11 rfl) (own_w hw 12 rfl) (own_w hw 7 rfl) (own_w hw 14 rfl) (rm_init4_4 l Z a0 hw [] aS a2 kC c0 c1 c2 c3 zCS h0 n0 Z0 O0 E_0 g_0 F0v F0c ne02 R_C hC0 hC1 hC2 hC3 S_CS P_CS) e0 rfl (by decide) own_pd0 d1_6 rfl rfl rfl (fun T2 L2 v2 X2 hQ2 => ?_)
  obtain ⟨tN_2, kN_2, rfl, Nq2, Kc2, P2_0, P2_1, P2_2, P2_3⟩ := hQ2
  have N2 := Fr.app N0 Nq2
  have K2 := K0.trans Kc2 (allS (Or.inl (List.mem_of_getElem? (i := 0) rfl)) all0)
  have O2 := O0.keep Kc2 (allS g_0 all0)
  show gs T2 m 9 #[vr aS, vr a2] []
  exact own_retV X2 hx hlk hret (hb hby d1_9) (by decide) (by decide) (show Q_init1_4 Z aS a2 kC c0 c1 c2 c3 zCS h0 n0 _ _ _ from ⟨tN_2, kN_2, ⟨rfl, N2, K2, P2_0, P2_1, P2_2, P2_3⟩⟩)
theorem d9_0 : dk B5 0 (.getstatic 38) 3 := by decide +kernel
theorem d9_3 : dk B5 3 (.ifCond .eq 10) 3 := by decide +kernel
theorem d9_6 : dk B5 6 (.aload_n 0) 1 := by decide +kernel
theorem d9_7 : dk B5 7 (.getfield 15) 3 := by decide +kernel
theorem d9_10 : dk B5 10 (.goto 4) 3 := by decide +kernel
theorem d9_13 : dk B5 13 (.iconst 1) 1 := by decide +kernel
theorem d9_14 : dk B5 14 (.ireturn) 1 := by decide +kernel
theorem pn_9 : plainName "java/lang/String" = true := by first | (simp [plainName, overriddenIn]; done) | decide +kernel
theorem ef_coder0 (m : MethodId) (x0 : Addr) : entryFrame m #[(.ref x0)] 1 = mkF m 0 #[.val (.ref x0)] [] := by first | (simp [entryFrame, mkF, argsToLocals, Value.category]; done) | rfl
def Q_coder0 (Z : State) (aS : Addr) (zCS : Int32) (h0 : Heap) (n0 : Nat) (v : Option Value) (h : Heap) (L : List Loc) : Prop := v = some (.int 0) ∧ Fr n0 L ∧ h = h0
theorem rm_coder0 (l : Launch) (Z : State) (a0 : Array Value) (hw : HW a0 Z) (ws : List Jvm.Cond) (aS : Addr) (zCS : Int32) (h0 : Heap) (n0 : Nat) (Z0 : n0 ≤ h0.size) (O0 : Old Z n0 h0) (S_CS : sk0 Z Z.heap (.int zCS)) (P_CS : ¬ zCS = 0) (F0c : fk8 Z h0 aS (.int 0)) :
    M5 l ws (rmk 0 0 0 0) Z #[(.ref aS)] h0 (Q_coder0 Z aS zCS h0 n0) := by
  refine own_go "java/lang/String" rfl (plainFor_of_name pn_9) (fun m => ef_coder0 m aS) (fun p e s m below meth c s₁ hx hby hml hown hnm hlk hret hZ X0 e0 => ?_)
  have N0 := Fr.nil n0
  show gs s₁ m 0 #[vr aS] []
  obtain ⟨T1, X1, e1, st1⟩ := getS2 X0 hx hZ hown (host := "") (Or.inl (own_w hw 18 rfl)) Via.refl e0 (Sta.ext O0.2 S_CS) (g := (mkF m 0 #[vr aS] [])) rfl (hb hby d9_0)
  refine own_st st1 ?_
  show gs T1 m 3 #[vr aS] [(.int zCS)]
  refine own_st (fun _ kS => XS.ifNo X1.here hx rfl (hb hby d9_3) rfl ((if0 _ _).trans (feq (P_CS : ¬ (zCS = (0 : Int32)))).1) kS) ?_
  show gs T1 m 6 #[vr aS] []
  refine oaloadN X1 hx hby d9_6 rfl rfl ?_
  obtain ⟨T2, X2, e2, st2⟩ := getF X1 hx hZ hown (host := "") (Or.inl (own_w hw 30 rfl)) Via.refl e1 F0c (g := (mkF m 7 #[vr aS] [(.ref aS)])) rfl rfl (hb hby d9_7)
  refine own_st st2 ?_
  show gs T2 m 10 #[vr aS] [(.int 0)]
  refine own_st (fun _ kS => XS.goto X2.here hx rfl (pc0 := 10) (pc' := 14) rfl (hb hby d9_10) (by decide) (by decide) kS) ?_
  show gs T2 m 14 #[vr aS] [(.int 0)]
  exact own_retN X2 hx hlk (t := .byte) hret (by simp) (hb hby d9_14) (by decide) (by decide) (v' := (0 : Int32)) rfl (by rw [e2]; exact ⟨rfl, N0, rfl⟩)
theorem d11_0 : dk B6 0 (.getstatic 38) 3 := by decide +kernel
theorem d11_3 : dk B6 3 (.ifCond .eq 14) 3 := by decide +kernel
theorem d11_6 : dk B6 6 (.aload_n 0) 1 := by decide +kernel
theorem d11_7 : dk B6 7 (.getfield 15) 3 := by decide +kernel
theorem d11_10 : dk B6 10 (.ifCond .ne 7) 3 := by decide +kernel
theorem d11_13 : dk B6 13 (.iconst 1) 1 := by decide +kernel
theorem d11_14 : dk B6 14 (.goto 4) 3 := by decide +kernel
theorem d11_17 : dk B6 17 (.iconst 0) 1 := by decide +kernel
theorem d11_18 : dk B6 18 (.ireturn) 1 := by decide +kernel
theorem pn_11 : plainName "java/lang/String" = true := by first | (simp [plainName, overriddenIn]; done) | decide +kernel
theorem ef_sLat0 (m : MethodId) (x0 : Addr) : entryFrame m #[(.ref x0)] 1 = mkF m 0 #[.val (.ref x0)] [] := by first | (simp [entryFrame, mkF, argsToLocals, Value.category]; done) | rfl
def Q_sLat0 (Z : State) (aS : Addr) (zCS : Int32) (h0 : Heap) (n0 : Nat) (v : Option Value) (h : Heap) (L : List Loc) : Prop := v = some (.int 1) ∧ Fr n0 L ∧ h = h0
theorem rm_sLat0 (l : Launch) (Z : State) (a0 : Array Value) (hw : HW a0 Z) (ws : List Jvm.Cond) (aS : Addr) (zCS : Int32) (h0 : Heap) (n0 : Nat) (Z0 : n0 ≤ h0.size) (O0 : Old Z n0 h0) (S_CS : sk0 Z Z.heap (.int zCS)) (P_CS : ¬ zCS = 0) (F0c : fk8 Z h0 aS (.int 0)) :
    M6 l ws (rmk 0 0 0 0) Z #[(.ref aS)] h0 (Q_sLat0 Z aS zCS h0 n0) := by
  refine own_go "java/lang/String" rfl (plainFor_of_name pn_11) (fun m => ef_sLat0 m aS) (fun p e s m below meth c s₁ hx hby hml hown hnm hlk hret hZ X0 e0 => ?_)
  have N0 := Fr.nil n0
  show gs s₁ m 0 #[vr aS] []
  obtain ⟨T1, X1, e1, st1⟩ := getS2 X0 hx hZ hown (host := "") (Or.inl (own_w hw 18 rfl)) Via.refl e0 (Sta.ext O0.2 S_CS) (g := (mkF m 0 #[vr aS] [])) rfl (hb hby d11_0)
  refine own_st st1 ?_
  show gs T1 m 3 #[vr aS] [(.int zCS)]
  refine own_st (fun _ kS => XS.ifNo X1.here hx rfl (hb hby d11_3) rfl ((if0 _ _).trans (feq (P_CS : ¬ (zCS = (0 : Int32)))).1) kS) ?_
  show gs T1 m 6 #[vr aS] []
  refine oaloadN X1 hx hby d11_6 rfl rfl ?_
  obtain ⟨T2, X2, e2, st2⟩ := getF X1 hx hZ hown (host := "") (Or.inl (own_w hw 30 rfl)) Via.refl e1 F0c (g := (mkF m 7 #[vr aS] [(.ref aS)])) rfl rfl (hb hby d11_7)
  refine own_st st2 ?_
  show gs T2 m 10 #[vr aS] [(.int 0)]
  refine own_st (fun _ kS => XS.ifNo X2.here hx rfl (hb hby d11_10) rfl ((if0 _ _).trans (teq (by decide : (0 : Int32) = (0 : Int32))).2) kS) ?_
  show gs T2 m 13 #[vr aS] []
  refine oiconst X2 hx hby d11_13 ?_
  refine own_st (fun _ kS => XS.goto X2.here hx rfl (pc0 := 14) (pc' := 18) rfl (hb hby d11_14) (by decide) (by decide) kS) ?_
  show gs T2 m 18 #[vr aS] [(.int 1)]
  exact own_retN X2 hx hlk (t := .boolean) hret (by simp) (hb hby d11_18) (by decide) (by decide) (v' := (1 : Int32)) rfl (by rw [e2]; exact ⟨rfl, N0, rfl⟩)
theorem d8_0 : dk B7 0 (.aload_n 0) 1 := by decide +kernel
theorem d8_1 : dk B7 1 (.getfield 9) 3 := by decide +kernel
theorem d8_4 : dk B7 4 (.arraylength) 1 := by decide +kernel
theorem d8_5 : dk B7 5 (.aload_n 0) 1 := by decide +kernel
theorem d8_6 : dk B7 6 (.invokevirtual 335) 3 := by decide +kernel
theorem d8_9 : dk B7 9 (.ishr) 1 := by decide +kernel
theorem d8_10 : dk B7 10 (.ireturn) 1 := by decide +kernel
theorem pn_8 : plainName "java/lang/String" = true := by first | (simp [plainName, overriddenIn]; done) | decide +kernel
theorem own_pd4 : parseMethodDescriptor "()B" = some ⟨[], some .byte⟩ := by decide +kernel
theorem ef_sLen_0 (m : MethodId) (x0 : Addr) : entryFrame m #[(.ref x0)] 1 = mkF m 0 #[.val (.ref x0)] [] := by first | (simp [entryFrame, mkF, argsToLocals, Value.category]; done) | rfl
def Q_sLen_0 (Z : State) (aS : Addr) (tA : Addr) (kA : ClassId) (zCS : Int32) (h0 : Heap) (n0 : Nat) (v : Option Value) (h : Heap) (L : List Loc) : Prop := v = some (.int 0) ∧ Fr n0 L ∧ h = h0
theorem rm_sLen_0 (l : Launch) (Z : State) (a0 : Array Value) (hw : HW a0 Z) (ws : List Jvm.Cond) (aS : Addr) (tA : Addr) (kA : ClassId) (zCS : Int32) (h0 : Heap) (n0 : Nat) (Z0 : n0 ≤ h0.size) (O0 : Old Z n0 h0) (E_0 : ek12 Z h0 aS) (F0v : fk9 Z h0 aS (.ref tA)) (F0c : fk8 Z h0 aS (.int 0)) (R_A : Arv Z h0 tA kA .byte (0 : Int32) [] (.int 0)) (S_CS : sk0 Z Z.heap (.int zCS)) (P_CS : ¬ zCS = 0) :
    M7 l ws (rmk 1 0 0 13) Z #[(.ref aS)] h0 (Q_sLen_0 Z aS tA kA zCS h0 n0) := by
  refine own_go "java/lang/String" rfl (plainFor_of_name pn_8) (fun m => ef_sLen_0 m aS) (fun p e s m below meth c s₁ hx hby hml hown hnm hlk hret hZ X0 e0 => ?_)
  have N0 := Fr.nil n0
  show gs s₁ m 0 #[vr aS] []
  refine oaloadN X0 hx hby d8_0 rfl rfl ?_
  obtain ⟨T1, X1, e1, st1⟩ := getF X0 hx hZ hown (host := "") (Or.inl (own_w hw 32 rfl)) Via.refl e0 F0v (g := (mkF m 1 #[vr aS] [(.ref aS)])) rfl rfl (hb hby d8_1)
  refine own_st st1 ?_
  show gs T1 m 4 #[vr aS] [(.ref tA)]
  obtain ⟨cl2, Ar2, qa2, qs2, qn2, qh2, qg2⟩ := id R_A
  refine own_st (fun _ kS => X1.arraylength hx (by rw [e1]; exact Ar2.1) (State.isArrayOf_alike hZ.alike Ar2.2.1) (g := (mkF m 4 #[vr aS] [(.ref tA)])) rfl rfl (hb hby d8_4) _ kS) ?_
  rw [len_of qs2 qn2]
  show gs T1 m 5 #[vr aS] [(.int 0)]
  refine oaloadN X1 hx hby d8_5 rfl rfl ?_
  refine oV 1 X1 hx hZ hby hml hown (own_w hw 44 rfl) (own_w hw 45 rfl) (own_w hw 47 rfl) (own_w hw 46 rfl) (rm_coder0 l Z a0 hw [] aS zCS h0 n0 Z0 O0 S_CS P_CS F0c) (own_w hw 48 rfl) (own_w hw 7 rfl) e1 E_0 (by decide) own_pd4 d8_6 rfl rfl rfl (fun T3 L3 v3 X3 hQ3 => ?_)
  obtain ⟨rfl, Nq3, eq3⟩ := hQ3
  have N3 := Fr.app N0 Nq3
  show gs T3 m 9 #[vr aS] [(.int 0), (.int 0)]
  refine own_st (fun _ kS => XT.ishr X3.here hx rfl (hb hby d8_9) rfl kS) ?_
  show gs T3 m 10 #[vr aS] [(.int 0)]
  exact own_retI X3 hx hlk hret (hb hby d8_10) (by decide) (by decide) (by rw [eq3]; exact ⟨rfl, N3, rfl⟩)
theorem ef_sLen_1 (m : MethodId) (x0 : Addr) : entryFrame m #[(.ref x0)] 1 = mkF m 0 #[.val (.ref x0)] [] := by first | (simp [entryFrame, mkF, argsToLocals, Value.category]; done) | rfl
def Q_sLen_1 (Z : State) (aS : Addr) (tA : Addr) (kA : ClassId) (y0 : Int32) (zCS : Int32) (h0 : Heap) (n0 : Nat) (v : Option Value) (h : Heap) (L : List Loc) : Prop := v = some (.int 1) ∧ Fr n0 L ∧ h = h0
theorem rm_sLen_1 (l : Launch) (Z : State) (a0 : Array Value) (hw : HW a0 Z) (ws : List Jvm.Cond) (aS : Addr) (tA : Addr) (kA : ClassId) (y0 : Int32) (zCS : Int32) (h0 : Heap) (n0 : Nat) (Z0 : n0 ≤ h0.size) (O0 : Old Z n0 h0) (E_0 : ek12 Z h0 aS) (F0v : fk9 Z h0 aS (.ref tA)) (F0c : fk8 Z h0 aS (.int 0)) (R_A : Arv Z h0 tA kA .byte (1 : Int32) [(.int y0)] (.int 0)) (S_CS : sk0 Z Z.heap (.int zCS)) (P_CS : ¬ zCS = 0) :
    M7 l ws (rmk 1 0 0 13) Z #[(.ref aS)] h0 (Q_sLen_1 Z aS tA kA y0 zCS h0 n0) := by
  refine own_go "java/lang/String" rfl (plainFor_of_name pn_8) (fun m => ef_sLen_1 m aS) (fun p e s m below meth c s₁ hx hby hml hown hnm hlk hret hZ X0 e0 => ?_)
  have N0 := Fr.nil n0
  show gs s₁ m 0 #[vr aS] []
  refine oaloadN X0 hx hby d8_0 rfl rfl ?_
  obtain ⟨T1, X1, e1, st1⟩ := getF X0 hx hZ hown (host := "") (Or.inl (own_w hw 32 rfl)) Via.refl e0 F0v (g := (mkF m 1 #[vr aS] [(.ref aS)])) rfl rfl (hb hby d8_1)
  refine own_st st1 ?_
  show gs T1 m 4 #[vr aS] [(.ref tA)]
  obtain ⟨cl2, Ar2, qa2, qs2, qn2, qh2, qg2⟩ := id R_A
  refine own_st (fun _ kS => X1.arraylength hx (by rw [e1]; exact Ar2.1) (State.isArrayOf_alike hZ.alike Ar2.2.1) (g := (mkF m 4 #[vr aS] [(.ref tA)])) rfl rfl (hb hby d8_4) _ kS) ?_
  rw [len_of qs2 qn2]
  show gs T1 m 5 #[vr aS] [(.int 1)]
  refine oaloadN X1 hx hby d8_5 rfl rfl ?_
  refine oV 1 X1 hx hZ hby hml hown (own_w hw 44 rfl) (own_w hw 45 rfl) (own_w hw 47 rfl) (own_w hw 46 rfl) (rm_coder0 l Z a0 hw [] aS zCS h0 n0 Z0 O0 S_CS P_CS F0c) (own_w hw 48 rfl) (own_w hw 7 rfl) e1 E_0 (by decide) own_pd4 d8_6 rfl rfl rfl (fun T3 L3 v3 X3 hQ3 => ?_)
  obtain ⟨rfl, Nq3, eq3⟩ := hQ3
  have N3 := Fr.app N0 Nq3
  show gs T3 m 9 #[vr aS] [(.int 0), (.int 1)]
  refine own_st (fun _ kS => XT.ishr X3.here hx rfl (hb hby d8_9) rfl kS) ?_
  show gs T3 m 10 #[vr aS] [(.int 1)]
  exact own_retI X3 hx hlk hret (hb hby d8_10) (by decide) (by decide) (by rw [eq3]; exact ⟨rfl, N3, rfl⟩)
theorem d14_0 : dk B8 0 (.iload_n 0) 1 := by decide +kernel
theorem d14_1 : dk B8 1 (.ifCond .lt 8) 3 := by decide +kernel
theorem d14_4 : dk B8 4 (.iload_n 0) 1 := by decide +kernel
theorem d14_5 : dk B8 5 (.iload_n 1) 1 := by decide +kernel
theorem d14_6 : dk B8 6 (.if_icmp .lt 10) 3 := by decide +kernel
theorem d14_9 : dk B8 9 (.aload_n 2) 1 := by decide +kernel
theorem d14_10 : dk B8 10 (.iload_n 0) 1 := by decide +kernel
theorem d14_11 : dk B8 11 (.iload_n 1) 1 := by decide +kernel
theorem d14_12 : dk B8 12 (.invokestatic 95) 3 := by decide +kernel
theorem d14_15 : dk B8 15 (.athrow) 1 := by decide +kernel
theorem d14_16 : dk B8 16 (.iload_n 0) 1 := by decide +kernel
theorem d14_17 : dk B8 17 (.ireturn) 1 := by decide +kernel
theorem pn_14 : plainName "jdk/internal/util/Preconditions" = true := by first | (simp [plainName, overriddenIn]; done) | decide +kernel
theorem ef_pchk_0_1 (m : MethodId) (x0 : Value) (hx0 : x0.isRef = true) : entryFrame m #[(.int 0), (.int 1), x0] 3 = mkF m 0 #[.val (.int 0), .val (.int 1), .val x0] [] := by
  rcases ref_cases hx0 with rfl | ⟨_, rfl⟩ <;> (first | (simp [entryFrame, mkF, argsToLocals, Value.category]; done) | rfl)
def Q_pchk_0_1 (Z : State) (fm : Value) (h0 : Heap) (n0 : Nat) (v : Option Value) (h : Heap) (L : List Loc) : Prop := v = some (.int 0) ∧ Fr n0 L ∧ h = h0
theorem rm_pchk_0_1 (l : Launch) (Z : State) (a0 : Array Value) (hw : HW a0 Z) (ws : List Jvm.Cond) (fm : Value) (h0 : Heap) (n0 : Nat) (Z0 : n0 ≤ h0.size) (P_SF : fm.isRef = true) :
    M8 l ws (rmk 0 0 0 0) Z #[(.int 0), (.int 1), fm] h0 (Q_pchk_0_1 Z fm h0 n0) := by
  refine own_go "jdk/internal/util/Preconditions" rfl (plainFor_of_name pn_14) (fun m => ef_pchk_0_1 m fm P_SF) (fun p e s m below meth c s₁ hx hby hml hown hnm hlk hret hZ X0 e0 => ?_)
  have N0 := Fr.nil n0
  show gs s₁ m 0 #[vi 0, vi 1, .val fm] []
  refine oiloadN X0 hx hby d14_0 rfl ?_
  refine own_st (fun _ kS => XS.ifNo X0.here hx rfl (hb hby d14_1) rfl ((if0 _ _).trans (flt (by decide : ¬ ((0 : Int32) < (0 : Int32)))).1) kS) ?_
  show gs s₁ m 4 #[vi 0, vi 1, .val fm] []
  refine oiloadN X0 hx hby d14_4 rfl ?_
  refine oiloadN X0 hx hby d14_5 rfl ?_
  refine own_st (fun _ kS => XS.icmpYes X0.here hx rfl (pc0 := 6) (pc' := 16) rfl (hb hby d14_6) rfl (tlt (by decide : (0 : Int32) < (1 : Int32))).1 (by decide) (by decide) kS) ?_
  show gs s₁ m 16 #[vi 0, vi 1, .val fm] []
  refine oiloadN X0 hx hby d14_16 rfl ?_
  exact own_retI X0 hx hlk hret (hb hby d14_17) (by decide) (by decide) (by rw [e0]; exact ⟨rfl, N0, rfl⟩)
theorem d13_0 : dk B9 0 (.iload_n 0) 1 := by decide +kernel
theorem d13_1 : dk B9 1 (.iload_n 1) 1 := by decide +kernel
theorem d13_2 : dk B9 2 (.getstatic 1053) 3 := by decide +kernel
theorem d13_5 : dk B9 5 (.invokestatic 1059) 3 := by decide +kernel
theorem d13_8 : dk B9 8 (.pop) 1 := by decide +kernel
theorem d13_9 : dk B9 9 (.return_) 1 := by decide +kernel
theorem pn_13 : plainName "java/lang/String" = true := by first | (simp [plainName, overriddenIn]; done) | decide +kernel
theorem own_pd5 : parseMethodDescriptor "(IILjava/util/function/BiFunction;)I" = some ⟨[.int, .int, (.object "java/util/function/BiFunction")], some .int⟩ := by decide +kernel
theorem ef_chk_0_1 (m : MethodId)  : entryFrame m #[(.int 0), (.int 1)] 2 = mkF m 0 #[.val (.int 0), .val (.int 1)] [] := by first | (simp [entryFrame, mkF, argsToLocals, Value.category]; done) | rfl
def Q_chk_0_1 (Z : State) (fm : Value) (h0 : Heap) (n0 : Nat) (v : Option Value) (h : Heap) (L : List Loc) : Prop := v = none ∧ Fr n0 L ∧ h = h0
theorem rm_chk_0_1 (l : Launch) (Z : State) (a0 : Array Value) (hw : HW a0 Z) (ws : List Jvm.Cond) (fm : Value) (h0 : Heap) (n0 : Nat) (Z0 : n0 ≤ h0.size) (O0 : Old Z n0 h0) (S_SF : sk1 Z Z.heap fm) (P_SF : fm.isRef = true) :
    M9 l ws (rmk 1 0 0 14) Z #[(.int 0), (.int 1)] h0 (Q_chk_0_1 Z fm h0 n0) := by
  refine own_go "java/lang/String" rfl (plainFor_of_name pn_13) (fun m => ef_chk_0_1 m ) (fun p e s m below meth c s₁ hx hby hml hown hnm hlk hret hZ X0 e0 => ?_)
  have N0 := Fr.nil n0
  show gs s₁ m 0 #[vi 0, vi 1] []
  refine oiloadN X0 hx hby d13_0 rfl ?_
  refine oiloadN X0 hx hby d13_1 rfl ?_
  obtain ⟨T1, X1, e1, st1⟩ := getS2 X0 hx hZ hown (host := "") (Or.inl (own_w hw 70 rfl)) Via.refl e0 (Sta.ext O0.2 S_SF) (g := (mkF m 2 #[vi 0, vi 1] [(.int 1), (.int 0)])) rfl (hb hby d13_2)
  refine own_st st1 ?_
  show gs T1 m 5 #[vi 0, vi 1] [fm, (.int 1), (.int 0)]
  refine oS 0 X1 hx hZ hby hml hown (own_w hw 72 rfl) (own_w hw 73 rfl) (own_w hw 71 rfl) (own_w hw 74 rfl) (rm_pchk_0_1 l Z a0 hw [] fm h0 n0 Z0  P_SF) e1 (by decide) own_pd5 d13_5 rfl rfl rfl (fun T2 L2 v2 X2 hQ2 => ?_)
  obtain ⟨rfl, Nq2, eq2⟩ := hQ2
  have N2 := Fr.app N0 Nq2
  show gs T2 m 8 #[vi 0, vi 1] [(.int 0)]
  refine own_st (fun _ kS => XT.pop X2.here hx rfl (hb hby d13_8) rfl rfl kS) ?_
  show gs T2 m 9 #[vi 0, vi 1] []
  exact own_retV X2 hx hlk hret (hb hby d13_9) (by decide) (by decide) (by rw [eq2]; exact ⟨rfl, N2, rfl⟩)
theorem d12_0 : dk B10 0 (.iload_n 1) 1 := by decide +kernel
theorem d12_1 : dk B10 1 (.aload_n 0) 1 := by decide +kernel
theorem d12_2 : dk B10 2 (.arraylength) 1 := by decide +kernel
theorem d12_3 : dk B10 3 (.invokestatic 9) 3 := by decide +kernel
theorem d12_6 : dk B10 6 (.aload_n 0) 1 := by decide +kernel
theorem d12_7 : dk B10 7 (.iload_n 1) 1 := by decide +kernel
theorem d12_8 : dk B10 8 (.baload) 1 := by decide +kernel
theorem d12_9 : dk B10 9 (.sipush 255) 3 := by decide +kernel
theorem d12_12 : dk B10 12 (.iand) 1 := by decide +kernel
theorem d12_13 : dk B10 13 (.i2c) 1 := by decide +kernel
theorem d12_14 : dk B10 14 (.ireturn) 1 := by decide +kernel
theorem pn_12 : plainName "java/lang/StringLatin1" = true := by first | (simp [plainName, overriddenIn]; done) | decide +kernel
theorem own_pd6 : parseMethodDescriptor "(II)V" = some ⟨[.int, .int], none⟩ := by decide +kernel
theorem ef_l1chat_1_0 (m : MethodId) (x0 : Addr) : entryFrame m #[(.ref x0), (.int 0)] 2 = mkF m 0 #[.val (.ref x0), .val (.int 0)] [] := by first | (simp [entryFrame, mkF, argsToLocals, Value.category]; done) | rfl
def Q_l1chat_1_0 (Z : State) (tA : Addr) (kA : ClassId) (y0 : Int32) (fm : Value) (h0 : Heap) (n0 : Nat) (v : Option Value) (h : Heap) (L : List Loc) : Prop := v = some (.int (own_lat y0)) ∧ Fr n0 L ∧ h = h0
theorem rm_l1chat_1_0 (l : Launch) (Z : State) (a0 : Array Value) (hw : HW a0 Z) (ws : List Jvm.Cond) (tA : Addr) (kA : ClassId) (y0 : Int32) (fm : Value) (h0 : Heap) (n0 : Nat) (Z0 : n0 ≤ h0.size) (O0 : Old Z n0 h0) (R_A : Arv Z h0 tA kA .byte (1 : Int32) [(.int y0)] (.int 0)) (S_SF : sk1 Z Z.heap fm) (P_SF : fm.isRef = true) :
    M10 l ws (rmk 2 0 0 27) Z #[(.ref tA), (.int 0)] h0 (Q_l1chat_1_0 Z tA kA y0 fm h0 n0) := by
  refine own_go "java/lang/StringLatin1" rfl (plainFor_of_name pn_12) (fun m => ef_l1chat_1_0 m tA) (fun p e s m below meth c s₁ hx hby hml hown hnm hlk hret hZ X0 e0 => ?_)
  have N0 := Fr.nil n0
  show gs s₁ m 0 #[vr tA, vi 0] []
  refine oiloadN X0 hx hby d12_0 rfl ?_
  refine oaloadN X0 hx hby d12_1 rfl rfl ?_
  show gs s₁ m 2 #[vr tA, vi 0] [(.ref tA), (.int 0)]
  obtain ⟨cl1, Ar1, qa1, qs1, qn1, qh1, qg1⟩ := id R_A
  refine own_st (fun _ kS => X0.arraylength hx (by rw [e0]; exact Ar1.1) (State.isArrayOf_alike hZ.alike Ar1.2.1) (g := (mkF m 2 #[vr tA, vi 0] [(.ref tA), (.int 0)])) rfl rfl (hb hby d12_2) _ kS) ?_
  rw [len_of qs1 qn1]
  show gs s₁ m 3 #[vr tA, vi 0] [(.int 1), (.int 0)]
  refine oS 0 X0 hx hZ hby hml hown (own_w hw 67 rfl) (own_w hw 68 rfl) (own_w hw 7 rfl) (own_w hw 69 rfl) (rm_chk_0_1 l Z a0 hw [] fm h0 n0 Z0 O0 S_SF P_SF) e0 (by decide) own_pd6 d12_3 rfl rfl rfl (fun T2 L2 v2 X2 hQ2 => ?_)
  obtain ⟨rfl, Nq2, eq2⟩ := hQ2
  have N2 := Fr.app N0 Nq2
  show gs T2 m 6 #[vr tA, vi 0] []
  refine oaloadN X2 hx hby d12_6 rfl rfl ?_
  refine oiloadN X2 hx hby d12_7 rfl ?_
  show gs T2 m 8 #[vr tA, vi 0] [(.int 0), (.ref tA)]
  obtain ⟨cl3, Ar3, qa3, qs3, qn3, qh3, qg3⟩ := id R_A
  refine own_st (fun _ kS => X2.baloadBytes hx (j := (0 : Int32)) (v := (.int y0)) (by rw [eq2]; exact Ar3.1) (State.isArrayOf_alike hZ.alike Ar3.2.1) Ar3.2.2 (inb_of qs3 ⟨by decide, by decide⟩) (qh3.at (inb_of qs3 ⟨by decide, by decide⟩) rfl) (g := (mkF m 8 #[vr tA, vi 0] [(.int 0), (.ref tA)])) rfl rfl (hb hby d12_8) _ kS) ?_
  show gs T2 m 9 #[vr tA, vi 0] [(.int y0)]
  refine own_st (fun _ kS => XS.sipush X2.here hx rfl (hb hby d12_9) kS) ?_
  refine own_st (fun _ kS => XS.iand X2.here hx rfl (hb hby d12_12) rfl kS) ?_
  refine own_st (fun _ kS => XT.i2c X2.here hx rfl (hb hby d12_13) rfl kS) ?_
  show gs T2 m 14 #[vr tA, vi 0] [(.int ((y0 &&& (255 : Int32)).toUInt32.toUInt16.toUInt32.toInt32))]
  exact own_retN X2 hx hlk (t := .char) hret (by simp) (hb hby d12_14) (by decide) (by decide) (v' := (own_lat y0)) rfl (by rw [eq2]; exact ⟨(by simp [P_SF]), N2, rfl⟩)
theorem d10_0 : dk B11 0 (.aload_n 0) 1 := by decide +kernel
theorem d10_1 : dk B11 1 (.invokevirtual 492) 3 := by decide +kernel
theorem d10_4 : dk B11 4 (.ifCond .eq 12) 3 := by decide +kernel
theorem d10_7 : dk B11 7 (.aload_n 0) 1 := by decide +kernel
theorem d10_8 : dk B11 8 (.getfield 9) 3 := by decide +kernel
theorem d10_11 : dk B11 11 (.iload_n 1) 1 := by decide +kernel
theorem d10_12 : dk B11 12 (.invokestatic 495) 3 := by decide +kernel
theorem d10_15 : dk B11 15 (.ireturn) 1 := by decide +kernel
theorem d10_16 : dk B11 16 (.aload_n 0) 1 := by decide +kernel
theorem d10_17 : dk B11 17 (.getfield 9) 3 := by decide +kernel
theorem d10_20 : dk B11 20 (.iload_n 1) 1 := by decide +kernel
theorem d10_21 : dk B11 21 (.invokestatic 498) 3 := by decide +kernel
theorem d10_24 : dk B11 24 (.ireturn) 1 := by decide +kernel
theorem pn_10 : plainName "java/lang/String" = true := by first | (simp [plainName, overriddenIn]; done) | decide +kernel
theorem own_pd7 : parseMethodDescriptor "()Z" = some ⟨[], some .boolean⟩ := by decide +kernel
theorem own_pd8 : parseMethodDescriptor "([BI)C" = some ⟨[(.array .byte), .int], some .char⟩ := by decide +kernel
theorem ef_chAt_1_0 (m : MethodId) (x0 : Addr) : entryFrame m #[(.ref x0), (.int 0)] 2 = mkF m 0 #[.val (.ref x0), .val (.int 0)] [] := by first | (simp [entryFrame, mkF, argsToLocals, Value.category]; done) | rfl
def Q_chAt_1_0 (Z : State) (aS : Addr) (tA : Addr) (kA : ClassId) (y0 : Int32) (zCS : Int32) (fm : Value) (h0 : Heap) (n0 : Nat) (v : Option Value) (h : Heap) (L : List Loc) : Prop := v = some (.int (own_lat y0)) ∧ Fr n0 L ∧ h = h0
theorem rm_chAt_1_0 (l : Launch) (Z : State) (a0 : Array Value) (hw : HW a0 Z) (ws : List Jvm.Cond) (aS : Addr) (tA : Addr) (kA : ClassId) (y0 : Int32) (zCS : Int32) (fm : Value) (h0 : Heap) (n0 : Nat) (Z0 : n0 ≤ h0.size) (O0 : Old Z n0 h0) (E_0 : ek12 Z h0 aS) (F0v : fk9 Z h0 aS (.ref tA)) (F0c : fk8 Z h0 aS (.int 0)) (R_A : Arv Z h0 tA kA .byte (1 : Int32) [(.int y0)] (.int 0)) (S_CS : sk0 Z Z.heap (.int zCS)) (P_CS : ¬ zCS = 0) (S_SF : sk1 Z Z.heap fm) (P_SF : fm.isRef = true) :
    M11 l ws (rmk 3 0 0 40) Z #[(.ref aS), (.int 0)] h0 (Q_chAt_1_0 Z aS tA kA y0 zCS fm h0 n0) := by
  refine own_go "java/lang/String" rfl (plainFor_of_name pn_10) (fun m => ef_chAt_1_0 m aS) (fun p e s m below meth c s₁ hx hby hml hown hnm hlk hret hZ X0 e0 => ?_)
  have N0 := Fr.nil n0
  show gs s₁ m 0 #[vr aS, vi 0] []
  refine oaloadN X0 hx hby d10_0 rfl rfl ?_
  refine oV 0 X0 hx hZ hby hml hown (own_w hw 58 rfl) (own_w hw 59 rfl) (own_w hw 61 rfl) (own_w hw 60 rfl) (rm_sLat0 l Z a0 hw [] aS zCS h0 n0 Z0 O0 S_CS P_CS F0c) (own_w hw 62 rfl) (own_w hw 7 rfl) e0 E_0 (by decide) own_pd7 d10_1 rfl rfl rfl (fun T1 L1 v1 X1 hQ1 => ?_)
  obtain ⟨rfl, Nq1, eq1⟩ := hQ1
  have N1 := Fr.app N0 Nq1
  show gs T1 m 4 #[vr aS, vi 0] [(.int 1)]
  refine own_st (fun _ kS => XS.ifNo X1.here hx rfl (hb hby d10_4) rfl ((if0 _ _).trans (feq (by decide : ¬ ((1 : Int32) = (0 : Int32)))).1) kS) ?_
  show gs T1 m 7 #[vr aS, vi 0] []
  refine oaloadN X1 hx hby d10_7 rfl rfl ?_
  obtain ⟨T2, X2, e2, st2⟩ := getF X1 hx hZ hown (host := "") (Or.inl (own_w hw 32 rfl)) Via.refl eq1 F0v (g := (mkF m 8 #[vr aS, vi 0] [(.ref aS)])) rfl rfl (hb hby d10_8)
  refine own_st st2 ?_
  show gs T2 m 11 #[vr aS, vi 0] [(.ref tA)]
  refine oiloadN X2 hx hby d10_11 rfl ?_
  refine oS 0 X2 hx hZ hby hml hown (own_w hw 63 rfl) (own_w hw 64 rfl) (own_w hw 65 rfl) (own_w hw 66 rfl) (rm_l1chat_1_0 l Z a0 hw [] tA kA y0 fm h0 n0 Z0 O0 R_A S_SF P_SF) e2 (by decide) own_pd8 d10_12 rfl rfl rfl (fun T3 L3 v3 X3 hQ3 => ?_)
  obtain ⟨rfl, Nq3, eq3⟩ := hQ3
  have N3 := Fr.app N1 Nq3
  show gs T3 m 15 #[vr aS, vi 0] [(.int (own_lat y0))]
  exact own_retN X3 hx hlk (t := .char) hret (by simp) (hb hby d10_15) (by decide) (by decide) (v' := (own_lat y0)) (own_nlat _) (by rw [eq3]; exact ⟨rfl, N3, rfl⟩)
theorem ef_sLen_2 (m : MethodId) (x0 : Addr) : entryFrame m #[(.ref x0)] 1 = mkF m 0 #[.val (.ref x0)] [] := by first | (simp [entryFrame, mkF, argsToLocals, Value.category]; done) | rfl
def Q_sLen_2 (Z : State) (aS : Addr) (tA : Addr) (kA : ClassId) (y0 : Int32) (y1 : Int32) (zCS : Int32) (h0 : Heap) (n0 : Nat) (v : Option Value) (h : Heap) (L : List Loc) : Prop := v = some (.int 2) ∧ Fr n0 L ∧ h = h0
theorem rm_sLen_2 (l : Launch) (Z : State) (a0 : Array Value) (hw : HW a0 Z) (ws : List Jvm.Cond) (aS : Addr) (tA : Addr) (kA : ClassId) (y0 : Int32) (y1 : Int32) (zCS : Int32) (h0 : Heap) (n0 : Nat) (Z0 : n0 ≤ h0.size) (O0 : Old Z n0 h0) (E_0 : ek12 Z h0 aS) (F0v : fk9 Z h0 aS (.ref tA)) (F0c : fk8 Z h0 aS (.int 0)) (R_A : Arv Z h0 tA kA .byte (2 : Int32) [(.int y0), (.int y1)] (.int 0)) (S_CS : sk0 Z Z.heap (.int zCS)) (P_CS : ¬ zCS = 0) :
    M7 l ws (rmk 1 0 0 13) Z #[(.ref aS)] h0 (Q_sLen_2 Z aS tA kA y0 y1 zCS h0 n0) := by
  refine own_go "java/lang/String" rfl (plainFor_of_name pn_8) (fun m => ef_sLen_2 m aS) (fun p e s m below meth c s₁ hx hby hml hown hnm hlk hret hZ X0 e0 => ?_)
  have N0 := Fr.nil n0
  show gs s₁ m 0 #[vr aS] []
  refine oaloadN X0 hx hby d8_0 rfl rfl ?_
  obtain ⟨T1, X1, e1, st1⟩ := getF X0 hx hZ hown (host := "") (Or.inl (own_w hw 32 rfl)) Via.refl e0 F0v (g := (mkF m 1 #[vr aS] [(.ref aS)])) rfl rfl (hb hby d8_1)
  refine own_st st1 ?_
  show gs T1 m 4 #[vr aS] [(.ref tA)]
  obtain ⟨cl2, Ar2, qa2, qs2, qn2, qh2, qg2⟩ := id R_A
  refine own_st (fun _ kS => X1.arraylength hx (by rw [e1]; exact Ar2.1) (State.isArrayOf_alike hZ.alike Ar2.2.1) (g := (mkF m 4 #[vr aS] [(.ref tA)])) rfl rfl (hb hby d8_4) _ kS) ?_
  rw [len_of qs2 qn2]
  show gs T1 m 5 #[vr aS] [(.int 2)]
  refine oaloadN X1 hx hby d8_5 rfl rfl ?_
  refine oV 1 X1 hx hZ hby hml hown (own_w hw 44 rfl) (own_w hw 45 rfl) (own_w hw 47 rfl) (own_w hw 46 rfl) (rm_coder0 l Z a0 hw [] aS zCS h0 n0 Z0 O0 S_CS P_CS F0c) (own_w hw 48 rfl) (own_w hw 7 rfl) e1 E_0 (by decide) own_pd4 d8_6 rfl rfl rfl (fun T3 L3 v3 X3 hQ3 => ?_)
  obtain ⟨rfl, Nq3, eq3⟩ := hQ3
  have N3 := Fr.app N0 Nq3
  show gs T3 m 9 #[vr aS] [(.int 0), (.int 2)]
  refine own_st (fun _ kS => XT.ishr X3.here hx rfl (hb hby d8_9) rfl kS) ?_
  show gs T3 m 10 #[vr aS] [(.int 2)]
  exact own_retI X3 hx hlk hret (hb hby d8_10) (by decide) (by decide) (by rw [eq3]; exact ⟨rfl, N3, rfl⟩)
theorem ef_pchk_0_2 (m : MethodId) (x0 : Value) (hx0 : x0.isRef = true) : entryFrame m #[(.int 0), (.int 2), x0] 3 = mkF m 0 #[.val (.int 0), .val (.int 2), .val x0] [] := by
  rcases ref_cases hx0 with rfl | ⟨_, rfl⟩ <;> (first | (simp [entryFrame, mkF, argsToLocals, Value.category]; done) | rfl)
def Q_pchk_0_2 (Z : State) (fm : Value) (h0 : Heap) (n0 : Nat) (v : Option Value) (h : Heap) (L : List Loc) : Prop := v = some (.int 0) ∧ Fr n0 L ∧ h = h0
theorem rm_pchk_0_2 (l : Launch) (Z : State) (a0 : Array Value) (hw : HW a0 Z) (ws : List Jvm.Cond) (fm : Value) (h0 : Heap) (n0 : Nat) (Z0 : n0 ≤ h0.size) (P_SF : fm.isRef = true) :
    M8 l ws (rmk 0 0 0 0) Z #[(.int 0), (.int 2), fm] h0 (Q_pchk_0_2 Z fm h0 n0) := by
  refine own_go "jdk/internal/util/Preconditions" rfl (plainFor_of_name pn_14) (fun m => ef_pchk_0_2 m fm P_SF) (fun p e s m below meth c s₁ hx hby hml hown hnm hlk hret hZ X0 e0 => ?_)
  have N0 := Fr.nil n0
  show gs s₁ m 0 #[vi 0, vi 2, .val fm] []
  refine oiloadN X0 hx hby d14_0 rfl ?_
  refine own_st (fun _ kS => XS.ifNo X0.here hx rfl (hb hby d14_1) rfl ((if0 _ _).trans (flt (by decide : ¬ ((0 : Int32) < (0 : Int32)))).1) kS) ?_
  show gs s₁ m 4 #[vi 0, vi 2, .val fm] []
  refine oiloadN X0 hx hby d14_4 rfl ?_
  refine oiloadN X0 hx hby d14_5 rfl ?_
  refine own_st (fun _ kS => XS.icmpYes X0.here hx rfl (pc0 := 6) (pc' := 16) rfl (hb hby d14_6) rfl (tlt (by decide : (0 : Int32) < (2 : Int32))).1 (by decide) (by decide) kS) ?_
  show gs s₁ m 16 #[vi 0, vi 2, .val fm] []
  refine oiloadN X0 hx hby d14_16 rfl ?_
  exact own_retI X0 hx hlk hret (hb hby d14_17) (by decide) (by decide) (by rw [e0]; exact ⟨rfl, N0, rfl⟩)
theorem ef_chk_0_2 (m : MethodId)  : entryFrame m #[(.int 0), (.int 2)] 2 = mkF m 0 #[.val (.int 0), .val (.int 2)] [] := by first | (simp [entryFrame, mkF, argsToLocals, Value.category]; done) | rfl
def Q_chk_0_2 (Z : State) (fm : Value) (h0 : Heap) (n0 : Nat) (v : Option Value) (h : Heap) (L : List Loc) : Prop := v = none ∧ Fr n0 L ∧ h = h0
theorem rm_chk_0_2 (l : Launch) (Z : State) (a0 : Array Value) (hw : HW a0 Z) (ws : List Jvm.Cond) (fm : Value) (h0 : Heap) (n0 : Nat) (Z0 : n0 ≤ h0.size) (O0 : Old Z n0 h0) (S_SF : sk1 Z Z.heap fm) (P_SF : fm.isRef = true) :
    M9 l ws (rmk 1 0 0 14) Z #[(.int 0), (.int 2)] h0 (Q_chk_0_2 Z fm h0 n0) := by
  refine own_go "java/lang/String" rfl (plainFor_of_name pn_13) (fun m => ef_chk_0_2 m ) (fun p e s m below meth c s₁ hx hby hml hown hnm hlk hret hZ X0 e0 => ?_)
  have N0 := Fr.nil n0
  show gs s₁ m 0 #[vi 0, vi 2] []
  refine oiloadN X0 hx hby d13_0 rfl ?_
  refine oiloadN X0 hx hby d13_1 rfl ?_
  obtain ⟨T1, X1, e1, st1⟩ := getS2 X0 hx hZ hown (host := "") (Or.inl (own_w hw 70 rfl)) Via.refl e0 (Sta.ext O0.2 S_SF) (g := (mkF m 2 #[vi 0, vi 2] [(.int 2), (.int 0)])) rfl (hb hby d13_2)
  refine own_st st1 ?_
  show gs T1 m 5 #[vi 0, vi 2] [fm, (.int 2), (.int 0)]
  refine oS 0 X1 hx hZ hby hml hown (own_w hw 72 rfl) (own_w hw 73 rfl) (own_w hw 71 rfl) (own_w hw 74 rfl) (rm_pchk_0_2 l Z a0 hw [] fm h0 n0 Z0  P_SF) e1 (by decide) own_pd5 d13_5 rfl rfl rfl (fun T2 L2 v2 X2 hQ2 => ?_)
  obtain ⟨rfl, Nq2, eq2⟩ := hQ2
  have N2 := Fr.app N0 Nq2
  show gs T2 m 8 #[vi 0, vi 2] [(.int 0)]
  refine own_st (fun _ kS => XT.pop X2.here hx rfl (hb hby d13_8) rfl rfl kS) ?_
  show gs T2 m 9 #[vi 0, vi 2] []
  exact own_retV X2 hx hlk hret (hb hby d13_9) (by decide) (by decide) (by rw [eq2]; exact ⟨rfl, N2, rfl⟩)
theorem ef_l1chat_2_0 (m : MethodId) (x0 : Addr) : entryFrame m #[(.ref x0), (.int 0)] 2 = mkF m 0 #[.val (.ref x0), .val (.int 0)] [] := by first | (simp [entryFrame, mkF, argsToLocals, Value.category]; done) | rfl
def Q_l1chat_2_0 (Z : State) (tA : Addr) (kA : ClassId) (y0 : Int32) (y1 : Int32) (fm : Value) (h0 : Heap) (n0 : Nat) (v : Option Value) (h : Heap) (L : List Loc) : Prop := v = some (.int (own_lat y0)) ∧ Fr n0 L ∧ h = h0
theorem rm_l1chat_2_0 (l : Launch) (Z : State) (a0 : Array Value) (hw : HW a0 Z) (ws : List Jvm.Cond) (tA : Addr) (kA : ClassId) (y0 : Int32) (y1 : Int32) (fm : Value) (h0 : Heap) (n0 : Nat) (Z0 : n0 ≤ h0.size) (O0 : Old Z n0 h0) (R_A : Arv Z h0 tA kA .byte (2 : Int32) [(.int y0), (.int y1)] (.int 0)) (S_SF : sk1 Z Z.heap fm) (P_SF : fm.isRef = true) :
    M10 l ws (rmk 2 0 0 27) Z #[(.ref tA), (.int 0)] h0 (Q_l1chat_2_0 Z tA kA y0 y1 fm h0 n0) := by
  refine own_go "java/lang/StringLatin1" rfl (plainFor_of_name pn_12) (fun m => ef_l1chat_2_0 m tA) (fun p e s m below meth c s₁ hx hby hml hown hnm hlk hret hZ X0 e0 => ?_)
  have N0 := Fr.nil n0
  show gs s₁ m 0 #[vr tA, vi 0] []
  refine oiloadN X0 hx hby d12_0 rfl ?_
  refine oaloadN X0 hx hby d12_1 rfl rfl ?_
  show gs s₁ m 2 #[vr tA, vi 0] [(.ref tA), (.int 0)]
  obtain ⟨cl1, Ar1, qa1, qs1, qn1, qh1, qg1⟩ := id R_A
  refine own_st (fun _ kS => X0.arraylength hx (by rw [e0]; exact Ar1.1) (State.isArrayOf_alike hZ.alike Ar1.2.1) (g := (mkF m 2 #[vr tA, vi 0] [(.ref tA), (.int 0)])) rfl rfl (hb hby d12_2) _ kS) ?_
  rw [len_of qs1 qn1]
  show gs s₁ m 3 #[vr tA, vi 0] [(.int 2), (.int 0)]
  refine oS 0 X0 hx hZ hby hml hown (own_w hw 67 rfl) (own_w hw 68 rfl) (own_w hw 7 rfl) (own_w hw 69 rfl) (rm_chk_0_2 l Z a0 hw [] fm h0 n0 Z0 O0 S_SF P_SF) e0 (by decide) own_pd6 d12_3 rfl rfl rfl (fun T2 L2 v2 X2 hQ2 => ?_)
  obtain ⟨rfl, Nq2, eq2⟩ := hQ2
  have N2 := Fr.app N0 Nq2
  show gs T2 m 6 #[vr tA, vi 0] []
  refine oaloadN X2 hx hby d12_6 rfl rfl ?_
  refine oiloadN X2 hx hby d12_7 rfl ?_
  show gs T2 m 8 #[vr tA, vi 0] [(.int 0), (.ref tA)]
  obtain ⟨cl3, Ar3, qa3, qs3, qn3, qh3, qg3⟩ := id R_A
  refine own_st (fun _ kS => X2.baloadBytes hx (j := (0 : Int32)) (v := (.int y0)) (by rw [eq2]; exact Ar3.1) (State.isArrayOf_alike hZ.alike Ar3.2.1) Ar3.2.2 (inb_of qs3 ⟨by decide, by decide⟩) (qh3.at (inb_of qs3 ⟨by decide, by decide⟩) rfl) (g := (mkF m 8 #[vr tA, vi 0] [(.int 0), (.ref tA)])) rfl rfl (hb hby d12_8) _ kS) ?_
  show gs T2 m 9 #[vr tA, vi 0] [(.int y0)]
  refine own_st (fun _ kS => XS.sipush X2.here hx rfl (hb hby d12_9) kS) ?_
  refine own_st (fun _ kS => XS.iand X2.here hx rfl (hb hby d12_12) rfl kS) ?_
  refine own_st (fun _ kS => XT.i2c X2.here hx rfl (hb hby d12_13) rfl kS) ?_
  show gs T2 m 14 #[vr tA, vi 0] [(.int ((y0 &&& (255 : Int32)).toUInt32.toUInt16.toUInt32.toInt32))]
  exact own_retN X2 hx hlk (t := .char) hret (by simp) (hb hby d12_14) (by decide) (by decide) (v' := (own_lat y0)) rfl (by rw [eq2]; exact ⟨(by simp [P_SF]), N2, rfl⟩)
theorem ef_chAt_2_0 (m : MethodId) (x0 : Addr) : entryFrame m #[(.ref x0), (.int 0)] 2 = mkF m 0 #[.val (.ref x0), .val (.int 0)] [] := by first | (simp [entryFrame, mkF, argsToLocals, Value.category]; done) | rfl
def Q_chAt_2_0 (Z : State) (aS : Addr) (tA : Addr) (kA : ClassId) (y0 : Int32) (y1 : Int32) (zCS : Int32) (fm : Value) (h0 : Heap) (n0 : Nat) (v : Option Value) (h : Heap) (L : List Loc) : Prop := v = some (.int (own_lat y0)) ∧ Fr n0 L ∧ h = h0
theorem rm_chAt_2_0 (l : Launch) (Z : State) (a0 : Array Value) (hw : HW a0 Z) (ws : List Jvm.Cond) (aS : Addr) (tA : Addr) (kA : ClassId) (y0 : Int32) (y1 : Int32) (zCS : Int32) (fm : Value) (h0 : Heap) (n0 : Nat) (Z0 : n0 ≤ h0.size) (O0 : Old Z n0 h0) (E_0 : ek12 Z h0 aS) (F0v : fk9 Z h0 aS (.ref tA)) (F0c : fk8 Z h0 aS (.int 0)) (R_A : Arv Z h0 tA kA .byte (2 : Int32) [(.int y0), (.int y1)] (.int 0)) (S_CS : sk0 Z Z.heap (.int zCS)) (P_CS : ¬ zCS = 0) (S_SF : sk1 Z Z.heap fm) (P_SF : fm.isRef = true) :
    M11 l ws (rmk 3 0 0 40) Z #[(.ref aS), (.int 0)] h0 (Q_chAt_2_0 Z aS tA kA y0 y1 zCS fm h0 n0) := by
  refine own_go "java/lang/String" rfl (plainFor_of_name pn_10) (fun m => ef_chAt_2_0 m aS) (fun p e s m below meth c s₁ hx hby hml hown hnm hlk hret hZ X0 e0 => ?_)
  have N0 := Fr.nil n0
  show gs s₁ m 0 #[vr aS, vi 0] []
  refine oaloadN X0 hx hby d10_0 rfl rfl ?_
  refine oV 0 X0 hx hZ hby hml hown (own_w hw 58 rfl) (own_w hw 59 rfl) (own_w hw 61 rfl) (own_w hw 60 rfl) (rm_sLat0 l Z a0 hw [] aS zCS h0 n0 Z0 O0 S_CS P_CS F0c) (own_w hw 62 rfl) (own_w hw 7 rfl) e0 E_0 (by decide) own_pd7 d10_1 rfl rfl rfl (fun T1 L1 v1 X1 hQ1 => ?_)
  obtain ⟨rfl, Nq1, eq1⟩ := hQ1
  have N1 := Fr.app N0 Nq1
  show gs T1 m 4 #[vr aS, vi 0] [(.int 1)]
  refine own_st (fun _ kS => XS.ifNo X1.here hx rfl (hb hby d10_4) rfl ((if0 _ _).trans (feq (by decide : ¬ ((1 : Int32) = (0 : Int32)))).1) kS) ?_
  show gs T1 m 7 #[vr aS, vi 0] []
  refine oaloadN X1 hx hby d10_7 rfl rfl ?_
  obtain ⟨T2, X2, e2, st2⟩ := getF X1 hx hZ hown (host := "") (Or.inl (own_w hw 32 rfl)) Via.refl eq1 F0v (g := (mkF m 8 #[vr aS, vi 0] [(.ref aS)])) rfl rfl (hb hby d10_8)
  refine own_st st2 ?_
  show gs T2 m 11 #[vr aS, vi 0] [(.ref tA)]
  refine oiloadN X2 hx hby d10_11 rfl ?_
  refine oS 0 X2 hx hZ hby hml hown (own_w hw 63 rfl) (own_w hw 64 rfl) (own_w hw 65 rfl) (own_w hw 66 rfl) (rm_l1chat_2_0 l Z a0 hw [] tA kA y0 y1 fm h0 n0 Z0 O0 R_A S_SF P_SF) e2 (by decide) own_pd8 d10_12 rfl rfl rfl (fun T3 L3 v3 X3 hQ3 => ?_)
  obtain ⟨rfl, Nq3, eq3⟩ := hQ3
  have N3 := Fr.app N1 Nq3
  show gs T3 m 15 #[vr aS, vi 0] [(.int (own_lat y0))]
  exact own_retN X3 hx hlk (t := .char) hret (by simp) (hb hby d10_15) (by decide) (by decide) (v' := (own_lat y0)) (own_nlat _) (by rw [eq3]; exact ⟨rfl, N3, rfl⟩)
theorem ef_pchk_1_2 (m : MethodId) (x0 : Value) (hx0 : x0.isRef = true) : entryFrame m #[(.int 1), (.int 2), x0] 3 = mkF m 0 #[.val (.int 1), .val (.int 2), .val x0] [] := by
  rcases ref_cases hx0 with rfl | ⟨_, rfl⟩ <;> (first | (simp [entryFrame, mkF, argsToLocals, Value.category]; done) | rfl)
def Q_pchk_1_2 (Z : State) (fm : Value) (h0 : Heap) (n0 : Nat) (v : Option Value) (h : Heap) (L : List Loc) : Prop := v = some (.int 1) ∧ Fr n0 L ∧ h = h0
theorem rm_pchk_1_2 (l : Launch) (Z : State) (a0 : Array Value) (hw : HW a0 Z) (ws : List Jvm.Cond) (fm : Value) (h0 : Heap) (n0 : Nat) (Z0 : n0 ≤ h0.size) (P_SF : fm.isRef = true) :
    M8 l ws (rmk 0 0 0 0) Z #[(.int 1), (.int 2), fm] h0 (Q_pchk_1_2 Z fm h0 n0) := by
  refine own_go "jdk/internal/util/Preconditions" rfl (plainFor_of_name pn_14) (fun m => ef_pchk_1_2 m fm P_SF) (fun p e s m below meth c s₁ hx hby hml hown hnm hlk hret hZ X0 e0 => ?_)
  have N0 := Fr.nil n0
  show gs s₁ m 0 #[vi 1, vi 2, .val fm] []
  refine oiloadN X0 hx hby d14_0 rfl ?_
  refine own_st (fun _ kS => XS.ifNo X0.here hx rfl (hb hby d14_1) rfl ((if0 _ _).trans (flt (by decide : ¬ ((1 : Int32) < (0 : Int32)))).1) kS) ?_
  show gs s₁ m 4 #[vi 1, vi 2, .val fm] []
  refine oiloadN X0 hx hby d14_4 rfl ?_
  refine oiloadN X0 hx hby d14_5 rfl ?_
  refine own_st (fun _ kS => XS.icmpYes X0.here hx rfl (pc0 := 6) (pc' := 16) rfl (hb hby d14_6) rfl (tlt (by decide : (1 : Int32) < (2 : Int32))).1 (by decide) (by decide) kS) ?_
  show gs s₁ m 16 #[vi 1, vi 2, .val fm] []
  refine oiloadN X0 hx hby d14_16 rfl ?_
  exact own_retI X0 hx hlk hret (hb hby d14_17) (by decide) (by decide) (by rw [e0]; exact ⟨rfl, N0, rfl⟩)
theorem ef_chk_1_2 (m : MethodId)  : entryFrame m #[(.int 1), (.int 2)] 2 = mkF m 0 #[.val (.int 1), .val (.int 2)] [] := by first | (simp [entryFrame, mkF, argsToLocals, Value.category]; done) | rfl
def Q_chk_1_2 (Z : State) (fm : Value) (h0 : Heap) (n0 : Nat) (v : Option Value) (h : Heap) (L : List Loc) : Prop := v = none ∧ Fr n0 L ∧ h = h0
theorem rm_chk_1_2 (l : Launch) (Z : State) (a0 : Array Value) (hw : HW a0 Z) (ws : List Jvm.Cond) (fm : Value) (h0 : Heap) (n0 : Nat) (Z0 : n0 ≤ h0.size) (O0 : Old Z n0 h0) (S_SF : sk1 Z Z.heap fm) (P_SF : fm.isRef = true) :
    M9 l ws (rmk 1 0 0 14) Z #[(.int 1), (.int 2)] h0 (Q_chk_1_2 Z fm h0 n0) := by
  refine own_go "java/lang/String" rfl (plainFor_of_name pn_13) (fun m => ef_chk_1_2 m ) (fun p e s m below meth c s₁ hx hby hml hown hnm hlk hret hZ X0 e0 => ?_)
  have N0 := Fr.nil n0
  show gs s₁ m 0 #[vi 1, vi 2] []
  refine oiloadN X0 hx hby d13_0 rfl ?_
  refine oiloadN X0 hx hby d13_1 rfl ?_
  obtain ⟨T1, X1, e1, st1⟩ := getS2 X0 hx hZ hown (host := "") (Or.inl (own_w hw 70 rfl)) Via.refl e0 (Sta.ext O0.2 S_SF) (g := (mkF m 2 #[vi 1, vi 2] [(.int 2), (.int 1)])) rfl (hb hby d13_2)
  refine own_st st1 ?_
  show gs T1 m 5 #[vi 1, vi 2] [fm, (.int 2), (.int 1)]
  refine oS 0 X1 hx hZ hby hml hown (own_w hw 72 rfl) (own_w hw 73 rfl) (own_w hw 71 rfl) (own_w hw 74 rfl) (rm_pchk_1_2 l Z a0 hw [] fm h0 n0 Z0  P_SF) e1 (by decide) own_pd5 d13_5 rfl rfl rfl (fun T2 L2 v2 X2 hQ2 => ?_)
  obtain ⟨rfl, Nq2, eq2⟩ := hQ2
  have N2 := Fr.app N0 Nq2
  show gs T2 m 8 #[vi 1, vi 2] [(.int 1)]
  refine own_st (fun _ kS => XT.pop X2.here hx rfl (hb hby d13_8) rfl rfl kS) ?_
  show gs T2 m 9 #[vi 1, vi 2] []
  exact own_retV X2 hx hlk hret (hb hby d13_9) (by decide) (by decide) (by rw [eq2]; exact ⟨rfl, N2, rfl⟩)
theorem ef_l1chat_2_1 (m : MethodId) (x0 : Addr) : entryFrame m #[(.ref x0), (.int 1)] 2 = mkF m 0 #[.val (.ref x0), .val (.int 1)] [] := by first | (simp [entryFrame, mkF, argsToLocals, Value.category]; done) | rfl
def Q_l1chat_2_1 (Z : State) (tA : Addr) (kA : ClassId) (y0 : Int32) (y1 : Int32) (fm : Value) (h0 : Heap) (n0 : Nat) (v : Option Value) (h : Heap) (L : List Loc) : Prop := v = some (.int (own_lat y1)) ∧ Fr n0 L ∧ h = h0
theorem rm_l1chat_2_1 (l : Launch) (Z : State) (a0 : Array Value) (hw : HW a0 Z) (ws : List Jvm.Cond) (tA : Addr) (kA : ClassId) (y0 : Int32) (y1 : Int32) (fm : Value) (h0 : Heap) (n0 : Nat) (Z0 : n0 ≤ h0.size) (O0 : Old Z n0 h0) (R_A : Arv Z h0 tA kA .byte (2 : Int32) [(.int y0), (.int y1)] (.int 0)) (S_SF : sk1 Z Z.heap fm) (P_SF : fm.isRef = true) :
    M10 l ws (rmk 2 0 0 27) Z #[(.ref tA), (.int 1)] h0 (Q_l1chat_2_1 Z tA kA y0 y1 fm h0 n0) := by
  refine own_go "java/lang/StringLatin1" rfl (plainFor_of_name pn_12) (fun m => ef_l1chat_2_1 m tA) (fun p e s m below meth c s₁ hx hby hml hown hnm hlk hret hZ X0 e0 => ?_)
  have N0 := Fr.nil n0
  show gs s₁ m 0 #[vr tA, vi 1] []
  refine oiloadN X0 hx hby d12_0 rfl ?_
  refine oaloadN X0 hx hby d12_1 rfl rfl ?_
  show gs s₁ m 2 #[vr tA, vi 1] [(.ref tA), (.int 1)]
  obtain ⟨cl1, Ar1, qa1, qs1, qn1, qh1, qg1⟩ := id R_A
  refine own_st (fun _ kS => X0.arraylength hx (by rw [e0]; exact Ar1.1) (State.isArrayOf_alike hZ.alike Ar1.2.1) (g := (mkF m 2 #[vr tA, vi 1] [(.ref tA), (.int 1)])) rfl rfl (hb hby d12_2) _ kS) ?_
  rw [len_of qs1 qn1]
  show gs s₁ m 3 #[vr tA, vi 1] [(.int 2), (.int 1)]
  refine oS 0 X0 hx hZ hby hml hown (own_w hw 67 rfl) (own_w hw 68 rfl) (own_w hw 7 rfl) (own_w hw 69 rfl) (rm_chk_1_2 l Z a0 hw [] fm h0 n0 Z0 O0 S_SF P_SF) e0 (by decide) own_pd6 d12_3 rfl rfl rfl (fun T2 L2 v2 X2 hQ2 => ?_)
  obtain ⟨rfl, Nq2, eq2⟩ := hQ2
  have N2 := Fr.app N0 Nq2
  show gs T2 m 6 #[vr tA, vi 1] []
  refine oaloadN X2 hx hby d12_6 rfl rfl ?_
  refine oiloadN X2 hx hby d12_7 rfl ?_
  show gs T2 m 8 #[vr tA, vi 1] [(.int 1), (.ref tA)]
  obtain ⟨cl3, Ar3, qa3, qs3, qn3, qh3, qg3⟩ := id R_A
  refine own_st (fun _ kS => X2.baloadBytes hx (j := (1 : Int32)) (v := (.int y1)) (by rw [eq2]; exact Ar3.1) (State.isArrayOf_alike hZ.alike Ar3.2.1) Ar3.2.2 (inb_of qs3 ⟨by decide, by decide⟩) (qh3.at (inb_of qs3 ⟨by decide, by decide⟩) rfl) (g := (mkF m 8 #[vr tA, vi 1] [(.int 1), (.ref tA)])) rfl rfl (hb hby d12_8) _ kS) ?_
  show gs T2 m 9 #[vr tA, vi 1] [(.int y1)]
  refine own_st (fun _ kS => XS.sipush X2.here hx rfl (hb hby d12_9) kS) ?_
  refine own_st (fun _ kS => XS.iand X2.here hx rfl (hb hby d12_12) rfl kS) ?_
  refine own_st (fun _ kS => XT.i2c X2.here hx rfl (hb hby d12_13) rfl kS) ?_
  show gs T2 m 14 #[vr tA, vi 1] [(.int ((y1 &&& (255 : Int32)).toUInt32.toUInt16.toUInt32.toInt32))]
  exact own_retN X2 hx hlk (t := .char) hret (by simp) (hb hby d12_14) (by decide) (by decide) (v' := (own_lat y1)) rfl (by rw [eq2]; exact ⟨(by simp [P_SF]), N2, rfl⟩)
theorem ef_chAt_2_1 (m : MethodId) (x0 : Addr) : entryFrame m #[(.ref x0), (.int 1)] 2 = mkF m 0 #[.val (.ref x0), .val (.int 1)] [] := by first | (simp [entryFrame, mkF, argsToLocals, Value.category]; done) | rfl
def Q_chAt_2_1 (Z : State) (aS : Addr) (tA : Addr) (kA : ClassId) (y0 : Int32) (y1 : Int32) (zCS : Int32) (fm : Value) (h0 : Heap) (n0 : Nat) (v : Option Value) (h : Heap) (L : List Loc) : Prop := v = some (.int (own_lat y1)) ∧ Fr n0 L ∧ h = h0
theorem rm_chAt_2_1 (l : Launch) (Z : State) (a0 : Array Value) (hw : HW a0 Z) (ws : List Jvm.Cond) (aS : Addr) (tA : Addr) (kA : ClassId) (y0 : Int32) (y1 : Int32) (zCS : Int32) (fm : Value) (h0 : Heap) (n0 : Nat) (Z0 : n0 ≤ h0.size) (O0 : Old Z n0 h0) (E_0 : ek12 Z h0 aS) (F0v : fk9 Z h0 aS (.ref tA)) (F0c : fk8 Z h0 aS (.int 0)) (R_A : Arv Z h0 tA kA .byte (2 : Int32) [(.int y0), (.int y1)] (.int 0)) (S_CS : sk0 Z Z.heap (.int zCS)) (P_CS : ¬ zCS = 0) (S_SF : sk1 Z Z.heap fm) (P_SF : fm.isRef = true) :
    M11 l ws (rmk 3 0 0 40) Z #[(.ref aS), (.int 1)] h0 (Q_chAt_2_1 Z aS tA kA y0 y1 zCS fm h0 n0) := by
  refine own_go "java/lang/String" rfl (plainFor_of_name pn_10) (fun m => ef_chAt_2_1 m aS) (fun p e s m below meth c s₁ hx hby hml hown hnm hlk hret hZ X0 e0 => ?_)
  have N0 := Fr.nil n0
  show gs s₁ m 0 #[vr aS, vi 1] []
  refine oaloadN X0 hx hby d10_0 rfl rfl ?_
  refine oV 0 X0 hx hZ hby hml hown (own_w hw 58 rfl) (own_w hw 59 rfl) (own_w hw 61 rfl) (own_w hw 60 rfl) (rm_sLat0 l Z a0 hw [] aS zCS h0 n0 Z0 O0 S_CS P_CS F0c) (own_w hw 62 rfl) (own_w hw 7 rfl) e0 E_0 (by decide) own_pd7 d10_1 rfl rfl rfl (fun T1 L1 v1 X1 hQ1 => ?_)
  obtain ⟨rfl, Nq1, eq1⟩ := hQ1
  have N1 := Fr.app N0 Nq1
  show gs T1 m 4 #[vr aS, vi 1] [(.int 1)]
  refine own_st (fun _ kS => XS.ifNo X1.here hx rfl (hb hby d10_4) rfl ((if0 _ _).trans (feq (by decide : ¬ ((1 : Int32) = (0 : Int32)))).1) kS) ?_
  show gs T1 m 7 #[vr aS, vi 1] []
  refine oaloadN X1 hx hby d10_7 rfl rfl ?_
  obtain ⟨T2, X2, e2, st2⟩ := getF X1 hx hZ hown (host := "") (Or.inl (own_w hw 32 rfl)) Via.refl eq1 F0v (g := (mkF m 8 #[vr aS, vi 1] [(.ref aS)])) rfl rfl (hb hby d10_8)
  refine own_st st2 ?_
  show gs T2 m 11 #[vr aS, vi 1] [(.ref tA)]
  refine oiloadN X2 hx hby d10_11 rfl ?_
  refine oS 0 X2 hx hZ hby hml hown (own_w hw 63 rfl) (own_w hw 64 rfl) (own_w hw 65 rfl) (own_w hw 66 rfl) (rm_l1chat_2_1 l Z a0 hw [] tA kA y0 y1 fm h0 n0 Z0 O0 R_A S_SF P_SF) e2 (by decide) own_pd8 d10_12 rfl rfl rfl (fun T3 L3 v3 X3 hQ3 => ?_)
  obtain ⟨rfl, Nq3, eq3⟩ := hQ3
  have N3 := Fr.app N1 Nq3
  show gs T3 m 15 #[vr aS, vi 1] [(.int (own_lat y1))]
  exact own_retN X3 hx hlk (t := .char) hret (by simp) (hb hby d10_15) (by decide) (by decide) (v' := (own_lat y1)) (own_nlat _) (by rw [eq3]; exact ⟨rfl, N3, rfl⟩)
theorem ef_sLen_3 (m : MethodId) (x0 : Addr) : entryFrame m #[(.ref x0)] 1 = mkF m 0 #[.val (.ref x0)] [] := by first | (simp [entryFrame, mkF, argsToLocals, Value.category]; done) | rfl
def Q_sLen_3 (Z : State) (aS : Addr) (tA : Addr) (kA : ClassId) (y0 : Int32) (y1 : Int32) (y2 : Int32) (zCS : Int32) (h0 : Heap) (n0 : Nat) (v : Option Value) (h : Heap) (L : List Loc) : Prop := v = some (.int 3) ∧ Fr n0 L ∧ h = h0
theorem rm_sLen_3 (l : Launch) (Z : State) (a0 : Array Value) (hw : HW a0 Z) (ws : List Jvm.Cond) (aS : Addr) (tA : Addr) (kA : ClassId) (y0 : Int32) (y1 : Int32) (y2 : Int32) (zCS : Int32) (h0 : Heap) (n0 : Nat) (Z0 : n0 ≤ h0.size) (O0 : Old Z n0 h0) (E_0 : ek12 Z h0 aS) (F0v : fk9 Z h0 aS (.ref tA)) (F0c : fk8 Z h0 aS (.int 0)) (R_A : Arv Z h0 tA kA .byte (3 : Int32) [(.int y0), (.int y1), (.int y2)] (.int 0)) (S_CS : sk0 Z Z.heap (.int zCS)) (P_CS : ¬ zCS = 0) :
    M7 l ws (rmk 1 0 0 13) Z #[(.ref aS)] h0 (Q_sLen_3 Z aS tA kA y0 y1 y2 zCS h0 n0) := by
  refine own_go "java/lang/String" rfl (plainFor_of_name pn_8) (fun m => ef_sLen_3 m aS) (fun p e s m below meth c s₁ hx hby hml hown hnm hlk hret hZ X0 e0 => ?_)
  have N0 := Fr.nil n0
  show gs s₁ m 0 #[vr aS] []
  refine oaloadN X0 hx hby d8_0 rfl rfl ?_
  obtain ⟨T1, X1, e1, st1⟩ := getF X0 hx hZ hown (host := "") (Or.inl (own_w hw 32 rfl)) Via.refl e0 F0v (g := (mkF m 1 #[vr aS] [(.ref aS)])) rfl rfl (hb hby d8_1)
  refine own_st st1 ?_
  show gs T1 m 4 #[vr aS] [(.ref tA)]
  obtain ⟨cl2, Ar2, qa2, qs2, qn2, qh2, qg2⟩ := id R_A
  refine own_st (fun _ kS => X1.arraylength hx (by rw [e1]; exact Ar2.1) (State.isArrayOf_alike hZ.alike Ar2.2.1) (g := (mkF m 4 #[vr aS] [(.ref tA)])) rfl rfl (hb hby d8_4) _ kS) ?_
  rw [len_of qs2 qn2]
  show gs T1 m 5 #[vr aS] [(.int 3)]
  refine oaloadN X1 hx hby d8_5 rfl rfl ?_
  refine oV 1 X1 hx hZ hby hml hown (own_w hw 44 rfl) (own_w hw 45 rfl) (own_w hw 47 rfl) (own_w hw 46 rfl) (rm_coder0 l Z a0 hw [] aS zCS h0 n0 Z0 O0 S_CS P_CS F0c) (own_w hw 48 rfl) (own_w hw 7 rfl) e1 E_0 (by decide) own_pd4 d8_6 rfl rfl rfl (fun T3 L3 v3 X3 hQ3 => ?_)
  obtain ⟨rfl, Nq3, eq3⟩ := hQ3
  have N3 := Fr.app N0 Nq3
  show gs T3 m 9 #[vr aS] [(.int 0), (.int 3)]
  refine own_st (fun _ kS => XT.ishr X3.here hx rfl (hb hby d8_9) rfl kS) ?_
  show gs T3 m 10 #[vr aS] [(.int 3)]
  exact own_retI X3 hx hlk hret (hb hby d8_10) (by decide) (by decide) (by rw [eq3]; exact ⟨rfl, N3, rfl⟩)
theorem ef_pchk_0_3 (m : MethodId) (x0 : Value) (hx0 : x0.isRef = true) : entryFrame m #[(.int 0), (.int 3), x0] 3 = mkF m 0 #[.val (.int 0), .val (.int 3), .val x0] [] := by
  rcases ref_cases hx0 with rfl | ⟨_, rfl⟩ <;> (first | (simp [entryFrame, mkF, argsToLocals, Value.category]; done) | rfl)
def Q_pchk_0_3 (Z : State) (fm : Value) (h0 : Heap) (n0 : Nat) (v : Option Value) (h : Heap) (L : List Loc) : Prop := v = some (.int 0) ∧ Fr n0 L ∧ h = h0
theorem rm_pchk_0_3 (l : Launch) (Z : State) (a0 : Array Value) (hw : HW a0 Z) (ws : List Jvm.Cond) (fm : Value) (h0 : Heap) (n0 : Nat) (Z0 : n0 ≤ h0.size) (P_SF : fm.isRef = true) :
    M8 l ws (rmk 0 0 0 0) Z #[(.int 0), (.int 3), fm] h0 (Q_pchk_0_3 Z fm h0 n0) := by
  refine own_go "jdk/internal/util/Preconditions" rfl (plainFor_of_name pn_14) (fun m => ef_pchk_0_3 m fm P_SF) (fun p e s m below meth c s₁ hx hby hml hown hnm hlk hret hZ X0 e0 => ?_)
  have N0 := Fr.nil n0
  show gs s₁ m 0 #[vi 0, vi 3, .val fm] []
  refine oiloadN X0 hx hby d14_0 rfl ?_
  refine own_st (fun _ kS => XS.ifNo X0.here hx rfl (hb hby d14_1) rfl ((if0 _ _).trans (flt (by decide : ¬ ((0 : Int32) < (0 : Int32)))).1) kS) ?_
  show gs s₁ m 4 #[vi 0, vi 3, .val fm] []
  refine oiloadN X0 hx hby d14_4 rfl ?_
  refine oiloadN X0 hx hby d14_5 rfl ?_
  refine own_st (fun _ kS => XS.icmpYes X0.here hx rfl (pc0 := 6) (pc' := 16) rfl (hb hby d14_6) rfl (tlt (by decide : (0 : Int32) < (3 : Int32))).1 (by decide) (by decide) kS) ?_
  show gs s₁ m 16 #[vi 0, vi 3, .val fm] []
  refine oiloadN X0 hx hby d14_16 rfl ?_
  exact own_retI X0 hx hlk hret (hb hby d14_17) (by decide) (by decide) (by rw [e0]; exact ⟨rfl, N0, rfl⟩)
theorem ef_chk_0_3 (m : MethodId)  : entryFrame m #[(.int 0), (.int 3)] 2 = mkF m 0 #[.val (.int 0), .val (.int 3)] [] := by first | (simp [entryFrame, mkF, argsToLocals, Value.category]; done) | rfl
def Q_chk_0_3 (Z : State) (fm : Value) (h0 : Heap) (n0 : Nat) (v : Option Value) (h : Heap) (L : List Loc) : Prop := v = none ∧ Fr n0 L ∧ h = h0
theorem rm_chk_0_3 (l : Launch) (Z : State) (a0 : Array Value) (hw : HW a0 Z) (ws : List Jvm.Cond) (fm : Value) (h0 : Heap) (n0 : Nat) (Z0 : n0 ≤ h0.size) (O0 : Old Z n0 h0) (S_SF : sk1 Z Z.heap fm) (P_SF : fm.isRef = true) :
    M9 l ws (rmk 1 0 0 14) Z #[(.int 0), (.int 3)] h0 (Q_chk_0_3 Z fm h0 n0) := by
  refine own_go "java/lang/String" rfl (plainFor_of_name pn_13) (fun m => ef_chk_0_3 m ) (fun p e s m below meth c s₁ hx hby hml hown hnm hlk hret hZ X0 e0 => ?_)
  have N0 := Fr.nil n0
  show gs s₁ m 0 #[vi 0, vi 3] []
  refine oiloadN X0 hx hby d13_0 rfl ?_
  refine oiloadN X0 hx hby d13_1 rfl ?_
  obtain ⟨T1, X1, e1, st1⟩ := getS2 X0 hx hZ hown (host := "") (Or.inl (own_w hw 70 rfl)) Via.refl e0 (Sta.ext O0.2 S_SF) (g := (mkF m 2 #[vi 0, vi 3] [(.int 3), (.int 0)])) rfl (hb hby d13_2)
  refine own_st st1 ?_
  show gs T1 m 5 #[vi 0, vi 3] [fm, (.int 3), (.int 0)]
  refine oS 0 X1 hx hZ hby hml hown (own_w hw 72 rfl) (own_w hw 73 rfl) (own_w hw 71 rfl) (own_w hw 74 rfl) (rm_pchk_0_3 l Z a0 hw [] fm h0 n0 Z0  P_SF) e1 (by decide) own_pd5 d13_5 rfl rfl rfl (fun T2 L2 v2 X2 hQ2 => ?_)
  obtain ⟨rfl, Nq2, eq2⟩ := hQ2
  have N2 := Fr.app N0 Nq2
  show gs T2 m 8 #[vi 0, vi 3] [(.int 0)]
  refine own_st (fun _ kS => XT.pop X2.here hx rfl (hb hby d13_8) rfl rfl kS) ?_
  show gs T2 m 9 #[vi 0, vi 3] []
  exact own_retV X2 hx hlk hret (hb hby d13_9) (by decide) (by decide) (by rw [eq2]; exact ⟨rfl, N2, rfl⟩)
theorem ef_l1chat_3_0 (m : MethodId) (x0 : Addr) : entryFrame m #[(.ref x0), (.int 0)] 2 = mkF m 0 #[.val (.ref x0), .val (.int 0)] [] := by first | (simp [entryFrame, mkF, argsToLocals, Value.category]; done) | rfl
def Q_l1chat_3_0 (Z : State) (tA : Addr) (kA : ClassId) (y0 : Int32) (y1 : Int32) (y2 : Int32) (fm : Value) (h0 : Heap) (n0 : Nat) (v : Option Value) (h : Heap) (L : List Loc) : Prop := v = some (.int (own_lat y0)) ∧ Fr n0 L ∧ h = h0
theorem rm_l1chat_3_0 (l : Launch) (Z : State) (a0 : Array Value) (hw : HW a0 Z) (ws : List Jvm.Cond) (tA : Addr) (kA : ClassId) (y0 : Int32) (y1 : Int32) (y2 : Int32) (fm : Value) (h0 : Heap) (n0 : Nat) (Z0 : n0 ≤ h0.size) (O0 : Old Z n0 h0) (R_A : Arv Z h0 tA kA .byte (3 : Int32) [(.int y0), (.int y1), (.int y2)] (.int 0)) (S_SF : sk1 Z Z.heap fm) (P_SF : fm.isRef = true) :
    M10 l ws (rmk 2 0 0 27) Z #[(.ref tA), (.int 0)] h0 (Q_l1chat_3_0 Z tA kA y0 y1 y2 fm h0 n0) := by
  refine own_go "java/lang/StringLatin1" rfl (plainFor_of_name pn_12) (fun m => ef_l1chat_3_0 m tA) (fun p e s m below meth c s₁ hx hby hml hown hnm hlk hret hZ X0 e0 => ?_)
  have N0 := Fr.nil n0
  show gs s₁ m 0 #[vr tA, vi 0] []
  refine oiloadN X0 hx hby d12_0 rfl ?_
  refine oaloadN X0 hx hby d12_1 rfl rfl ?_
  show gs s₁ m 2 #[vr tA, vi 0] [(.ref tA), (.int 0)]
  obtain ⟨cl1, Ar1, qa1, qs1, qn1, qh1, qg1⟩ := id R_A
  refine own_st (fun _ kS => X0.arraylength hx (by rw [e0]; exact Ar1.1) (State.isArrayOf_alike hZ.alike Ar1.2.1) (g := (mkF m 2 #[vr tA, vi 0] [(.ref tA), (.int 0)])) rfl rfl (hb hby d12_2) _ kS) ?_
  rw [len_of qs1 qn1]
  show gs s₁ m 3 #[vr tA, vi 0] [(.int 3), (.int 0)]
  refine oS 0 X0 hx hZ hby hml hown (own_w hw 67 rfl) (own_w hw 68 rfl) (own_w hw 7 rfl) (own_w hw 69 rfl) (rm_chk_0_3 l Z a0 hw [] fm h0 n0 Z0 O0 S_SF P_SF) e0 (by decide) own_pd6 d12_3 rfl rfl rfl (fun T2 L2 v2 X2 hQ2 => ?_)
  obtain ⟨rfl, Nq2, eq2⟩ := hQ2
  have N2 := Fr.app N0 Nq2
  show gs T2 m 6 #[vr tA, vi 0] []
  refine oaloadN X2 hx hby d12_6 rfl rfl ?_
  refine oiloadN X2 hx hby d12_7 rfl ?_
  show gs T2 m 8 #[vr tA, vi 0] [(.int 0), (.ref tA)]
  obtain ⟨cl3, Ar3, qa3, qs3, qn3, qh3, qg3⟩ := id R_A
  refine own_st (fun _ kS => X2.baloadBytes hx (j := (0 : Int32)) (v := (.int y0)) (by rw [eq2]; exact Ar3.1) (State.isArrayOf_alike hZ.alike Ar3.2.1) Ar3.2.2 (inb_of qs3 ⟨by decide, by decide⟩) (qh3.at (inb_of qs3 ⟨by decide, by decide⟩) rfl) (g := (mkF m 8 #[vr tA, vi 0] [(.int 0), (.ref tA)])) rfl rfl (hb hby d12_8) _ kS) ?_
  show gs T2 m 9 #[vr tA, vi 0] [(.int y0)]
  refine own_st (fun _ kS => XS.sipush X2.here hx rfl (hb hby d12_9) kS) ?_
  refine own_st (fun _ kS => XS.iand X2.here hx rfl (hb hby d12_12) rfl kS) ?_
  refine own_st (fun _ kS => XT.i2c X2.here hx rfl (hb hby d12_13) rfl kS) ?_
  show gs T2 m 14 #[vr tA, vi 0] [(.int ((y0 &&& (255 : Int32)).toUInt32.toUInt16.toUInt32.toInt32))]
  exact own_retN X2 hx hlk (t := .char) hret (by simp) (hb hby d12_14) (by decide) (by decide) (v' := (own_lat y0)) rfl (by rw [eq2]; exact ⟨(by simp [P_SF]), N2, rfl⟩)
theorem ef_chAt_3_0 (m : MethodId) (x0 : Addr) : entryFrame m #[(.ref x0), (.int 0)] 2 = mkF m 0 #[.val (.ref x0), .val (.int 0)] [] := by first | (simp [entryFrame, mkF, argsToLocals, Value.category]; done) | rfl
def Q_chAt_3_0 (Z : State) (aS : Addr) (tA : Addr) (kA : ClassId) (y0 : Int32) (y1 : Int32) (y2 : Int32) (zCS : Int32) (fm : Value) (h0 : Heap) (n0 : Nat) (v : Option Value) (h : Heap) (L : List Loc) : Prop := v = some (.int (own_lat y0)) ∧ Fr n0 L ∧ h = h0
theorem rm_chAt_3_0 (l : Launch) (Z : State) (a0 : Array Value) (hw : HW a0 Z) (ws : List Jvm.Cond) (aS : Addr) (tA : Addr) (kA : ClassId) (y0 : Int32) (y1 : Int32) (y2 : Int32) (zCS : Int32) (fm : Value) (h0 : Heap) (n0 : Nat) (Z0 : n0 ≤ h0.size) (O0 : Old Z n0 h0) (E_0 : ek12 Z h0 aS) (F0v : fk9 Z h0 aS (.ref tA)) (F0c : fk8 Z h0 aS (.int 0)) (R_A : Arv Z h0 tA kA .byte (3 : Int32) [(.int y0), (.int y1), (.int y2)] (.int 0)) (S_CS : sk0 Z Z.heap (.int zCS)) (P_CS : ¬ zCS = 0) (S_SF : sk1 Z Z.heap fm) (P_SF : fm.isRef = true) :
    M11 l ws (rmk 3 0 0 40) Z #[(.ref aS), (.int 0)] h0 (Q_chAt_3_0 Z aS tA kA y0 y1 y2 zCS fm h0 n0) := by
  refine own_go "java/lang/String" rfl (plainFor_of_name pn_10) (fun m => ef_chAt_3_0 m aS) (fun p e s m below meth c s₁ hx hby hml hown hnm hlk hret hZ X0 e0 => ?_)
  have N0 := Fr.nil n0
  show gs s₁ m 0 #[vr aS, vi 0] []
  refine oaloadN X0 hx hby d10_0 rfl rfl ?_
  refine oV 0 X0 hx hZ hby hml hown (own_w hw 58 rfl) (own_w hw 59 rfl) (own_w hw 61 rfl) (own_w hw 60 rfl) (rm_sLat0 l Z a0 hw [] aS zCS h0 n0 Z0 O0 S_CS P_CS F0c) (own_w hw 62 rfl) (own_w hw 7 rfl) e0 E_0 (by decide) own_pd7 d10_1 rfl rfl rfl (fun T1 L1 v1 X1 hQ1 => ?_)
  obtain ⟨rfl, Nq1, eq1⟩ := hQ1
  have N1 := Fr.app N0 Nq1
  show gs T1 m 4 #[vr aS, vi 0] [(.int 1)]
  refine own_st (fun _ kS => XS.ifNo X1.here hx rfl (hb hby d10_4) rfl ((if0 _ _).trans (feq (by decide : ¬ ((1 : Int32) = (0 : Int32)))).1) kS) ?_
  show gs T1 m 7 #[vr aS, vi 0] []
  refine oaloadN X1 hx hby d10_7 rfl rfl ?_
  obtain ⟨T2, X2, e2, st2⟩ := getF X1 hx hZ hown (host := "") (Or.inl (own_w hw 32 rfl)) Via.refl eq1 F0v (g := (mkF m 8 #[vr aS, vi 0] [(.ref aS)])) rfl rfl (hb hby d10_8)
  refine own_st st2 ?_
  show gs T2 m 11 #[vr aS, vi 0] [(.ref tA)]
  refine oiloadN X2 hx hby d10_11 rfl ?_
  refine oS 0 X2 hx hZ hby hml hown (own_w hw 63 rfl) (own_w hw 64 rfl) (own_w hw 65 rfl) (own_w hw 66 rfl) (rm_l1chat_3_0 l Z a0 hw [] tA kA y0 y1 y2 fm h0 n0 Z0 O0 R_A S_SF P_SF) e2 (by decide) own_pd8 d10_12 rfl rfl rfl (fun T3 L3 v3 X3 hQ3 => ?_)
  obtain ⟨rfl, Nq3, eq3⟩ := hQ3
  have N3 := Fr.app N1 Nq3
  show gs T3 m 15 #[vr aS, vi 0] [(.int (own_lat y0))]
  exact own_retN X3 hx hlk (t := .char) hret (by simp) (hb hby d10_15) (by decide) (by decide) (v' := (own_lat y0)) (own_nlat _) (by rw [eq3]; exact ⟨rfl, N3, rfl⟩)
theorem ef_pchk_1_3 (m : MethodId) (x0 : Value) (hx0 : x0.isRef = true) : entryFrame m #[(.int 1), (.int 3), x0] 3 = mkF m 0 #[.val (.int 1), .val (.int 3), .val x0] [] := by
  rcases ref_cases hx0 with rfl | ⟨_, rfl⟩ <;> (first | (simp [entryFrame, mkF, argsToLocals, Value.category]; done) | rfl)
def Q_pchk_1_3 (Z : State) (fm : Value) (h0 : Heap) (n0 : Nat) (v : Option Value) (h : Heap) (L : List Loc) : Prop := v = some (.int 1) ∧ Fr n0 L ∧ h = h0
theorem rm_pchk_1_3 (l : Launch) (Z : State) (a0 : Array Value) (hw : HW a0 Z) (ws : List Jvm.Cond) (fm : Value) (h0 : Heap) (n0 : Nat) (Z0 : n0 ≤ h0.size) (P_SF : fm.isRef = true) :
    M8 l ws (rmk 0 0 0 0) Z #[(.int 1), (.int 3), fm] h0 (Q_pchk_1_3 Z fm h0 n0) := by
  refine own_go "jdk/internal/util/Preconditions" rfl (plainFor_of_name pn_14) (fun m => ef_pchk_1_3 m fm P_SF) (fun p e s m below meth c s₁ hx hby hml hown hnm hlk hret hZ X0 e0 => ?_)
  have N0 := Fr.nil n0
  show gs s₁ m 0 #[vi 1, vi 3, .val fm] []
  refine oiloadN X0 hx hby d14_0 rfl ?_
  refine own_st (fun _ kS => XS.ifNo X0.here hx rfl (hb hby d14_1) rfl ((if0 _ _).trans (flt (by decide : ¬ ((1 : Int32) < (0 : Int32)))).1) kS) ?_
  show gs s₁ m 4 #[vi 1, vi 3, .val fm] []
  refine oiloadN X0 hx hby d14_4 rfl ?_
  refine oiloadN X0 hx hby d14_5 rfl ?_
  refine own_st (fun _ kS => XS.icmpYes X0.here hx rfl (pc0 := 6) (pc' := 16) rfl (hb hby d14_6) rfl (tlt (by decide : (1 : Int32) < (3 : Int32))).1 (by decide) (by decide) kS) ?_
  show gs s₁ m 16 #[vi 1, vi 3, .val fm] []
  refine oiloadN X0 hx hby d14_16 rfl ?_
  exact own_retI X0 hx hlk hret (hb hby d14_17) (by decide) (by decide) (by rw [e0]; exact ⟨rfl, N0, rfl⟩)
theorem ef_chk_1_3 (m : MethodId)  : entryFrame m #[(.int 1), (.int 3)] 2 = mkF m 0 #[.val (.int 1), .val (.int 3)] [] := by first | (simp [entryFrame, mkF, argsToLocals, Value.category]; done) | rfl
def Q_chk_1_3 (Z : State) (fm : Value) (h0 : Heap) (n0 : Nat) (v : Option Value) (h : Heap) (L : List Loc) : Prop := v = none ∧ Fr n0 L ∧ h = h0
theorem rm_chk_1_3 (l : Launch) (Z : State) (a0 : Array Value) (hw : HW a0 Z) (ws : List Jvm.Cond) (fm : Value) (h0 : Heap) (n0 : Nat) (Z0 : n0 ≤ h0.size) (O0 : Old Z n0 h0) (S_SF : sk1 Z Z.heap fm) (P_SF : fm.isRef = true) :
    M9 l ws (rmk 1 0 0 14) Z #[(.int 1), (.int 3)] h0 (Q_chk_1_3 Z fm h0 n0) := by
  refine own_go "java/lang/String" rfl (plainFor_of_name pn_13) (fun m => ef_chk_1_3 m ) (fun p e s m below meth c s₁ hx hby hml hown hnm hlk hret hZ X0 e0 => ?_)
  have N0 := Fr.nil n0
  show gs s₁ m 0 #[vi 1, vi 3] []
  refine oiloadN X0 hx hby d13_0 rfl ?_
  refine oiloadN X0 hx hby d13_1 rfl ?_
  obtain ⟨T1, X1, e1, st1⟩ := getS2 X0 hx hZ hown (host := "") (Or.inl (own_w hw 70 rfl)) Via.refl e0 (Sta.ext O0.2 S_SF) (g := (mkF m 2 #[vi 1, vi 3] [(.int 3), (.int 1)])) rfl (hb hby d13_2)
  refine own_st st1 ?_
  show gs T1 m 5 #[vi 1, vi 3] [fm, (.int 3), (.int 1)]
  refine oS 0 X1 hx hZ hby hml hown (own_w hw 72 rfl) (own_w hw 73 rfl) (own_w hw 71 rfl) (own_w hw 74 rfl) (rm_pchk_1_3 l Z a0 hw [] fm h0 n0 Z0  P_SF) e1 (by decide) own_pd5 d13_5 rfl rfl rfl (fun T2 L2 v2 X2 hQ2 => ?_)
  obtain ⟨rfl, Nq2, eq2⟩ := hQ2
  have N2 := Fr.app N0 Nq2
  show gs T2 m 8 #[vi 1, vi 3] [(.int 1)]
  refine own_st (fun _ kS => XT.pop X2.here hx rfl (hb hby d13_8) rfl rfl kS) ?_
  show gs T2 m 9 #[vi 1, vi 3] []
  exact own_retV X2 hx hlk hret (hb hby d13_9) (by decide) (by decide) (by rw [eq2]; exact ⟨rfl, N2, rfl⟩)
theorem ef_l1chat_3_1 (m : MethodId) (x0 : Addr) : entryFrame m #[(.ref x0), (.int 1)] 2 = mkF m 0 #[.val (.ref x0), .val (.int 1)] [] := by first | (simp [entryFrame, mkF, argsToLocals, Value.category]; done) | rfl
def Q_l1chat_3_1 (Z : State) (tA : Addr) (kA : ClassId) (y0 : Int32) (y1 : Int32) (y2 : Int32) (fm : Value) (h0 : Heap) (n0 : Nat) (v : Option Value) (h : Heap) (L : List Loc) : Prop := v = some (.int (own_lat y1)) ∧ Fr n0 L ∧ h = h0
theorem rm_l1chat_3_1 (l : Launch) (Z : State) (a0 : Array Value) (hw : HW a0 Z) (ws : List Jvm.Cond) (tA : Addr) (kA : ClassId) (y0 : Int32) (y1 : Int32) (y2 : Int32) (fm : Value) (h0 : Heap) (n0 : Nat) (Z0 : n0 ≤ h0.size) (O0 : Old Z n0 h0) (R_A : Arv Z h0 tA kA .byte (3 : Int32) [(.int y0), (.int y1), (.int y2)] (.int 0)) (S_SF : sk1 Z Z.heap fm) (P_SF : fm.isRef = true) :
    M10 l ws (rmk 2 0 0 27) Z #[(.ref tA), (.int 1)] h0 (Q_l1chat_3_1 Z tA kA y0 y1 y2 fm h0 n0) := by
  refine own_go "java/lang/StringLatin1" rfl (plainFor_of_name pn_12) (fun m => ef_l1chat_3_1 m tA) (fun p e s m below meth c s₁ hx hby hml hown hnm hlk hret hZ X0 e0 => ?_)
  have N0 := Fr.nil n0
  show gs s₁ m 0 #[vr tA, vi 1] []
  refine oiloadN X0 hx hby d12_0 rfl ?_
  refine oaloadN X0 hx hby d12_1 rfl rfl ?_
  show gs s₁ m 2 #[vr tA, vi 1] [(.ref tA), (.int 1)]
  obtain ⟨cl1, Ar1, qa1, qs1, qn1, qh1, qg1⟩ := id R_A
  refine own_st (fun _ kS => X0.arraylength hx (by rw [e0]; exact Ar1.1) (State.isArrayOf_alike hZ.alike Ar1.2.1) (g := (mkF m 2 #[vr tA, vi 1] [(.ref tA), (.int 1)])) rfl rfl (hb hby d12_2) _ kS) ?_
  rw [len_of qs1 qn1]
  show gs s₁ m 3 #[vr tA, vi 1] [(.int 3), (.int 1)]
  refine oS 0 X0 hx hZ hby hml hown (own_w hw 67 rfl) (own_w hw 68 rfl) (own_w hw 7 rfl) (own_w hw 69 rfl) (rm_chk_1_3 l Z a0 hw [] fm h0 n0 Z0 O0 S_SF P_SF) e0 (by decide) own_pd6 d12_3 rfl rfl rfl (fun T2 L2 v2 X2 hQ2 => ?_)
  obtain ⟨rfl, Nq2, eq2⟩ := hQ2
  have N2 := Fr.app N0 Nq2
  show gs T2 m 6 #[vr tA, vi 1] []
  refine oaloadN X2 hx hby d12_6 rfl rfl ?_
  refine oiloadN X2 hx hby d12_7 rfl ?_
  show gs T2 m 8 #[vr tA, vi 1] [(.int 1), (.ref tA)]
  obtain ⟨cl3, Ar3, qa3, qs3, qn3, qh3, qg3⟩ := id R_A
  refine own_st (fun _ kS => X2.baloadBytes hx (j := (1 : Int32)) (v := (.int y1)) (by rw [eq2]; exact Ar3.1) (State.isArrayOf_alike hZ.alike Ar3.2.1) Ar3.2.2 (inb_of qs3 ⟨by decide, by decide⟩) (qh3.at (inb_of qs3 ⟨by decide, by decide⟩) rfl) (g := (mkF m 8 #[vr tA, vi 1] [(.int 1), (.ref tA)])) rfl rfl (hb hby d12_8) _ kS) ?_
  show gs T2 m 9 #[vr tA, vi 1] [(.int y1)]
  refine own_st (fun _ kS => XS.sipush X2.here hx rfl (hb hby d12_9) kS) ?_
  refine own_st (fun _ kS => XS.iand X2.here hx rfl (hb hby d12_12) rfl kS) ?_
  refine own_st (fun _ kS => XT.i2c X2.here hx rfl (hb hby d12_13) rfl kS) ?_
  show gs T2 m 14 #[vr tA, vi 1] [(.int ((y1 &&& (255 : Int32)).toUInt32.toUInt16.toUInt32.toInt32))]
  exact own_retN X2 hx hlk (t := .char) hret (by simp) (hb hby d12_14) (by decide) (by decide) (v' := (own_lat y1)) rfl (by rw [eq2]; exact ⟨(by simp [P_SF]), N2, rfl⟩)
theorem ef_chAt_3_1 (m : MethodId) (x0 : Addr) : entryFrame m #[(.ref x0), (.int 1)] 2 = mkF m 0 #[.val (.ref x0), .val (.int 1)] [] := by first | (simp [entryFrame, mkF, argsToLocals, Value.category]; done) | rfl
def Q_chAt_3_1 (Z : State) (aS : Addr) (tA : Addr) (kA : ClassId) (y0 : Int32) (y1 : Int32) (y2 : Int32) (zCS : Int32) (fm : Value) (h0 : Heap) (n0 : Nat) (v : Option Value) (h : Heap) (L : List Loc) : Prop := v = some (.int (own_lat y1)) ∧ Fr n0 L ∧ h = h0
theorem rm_chAt_3_1 (l : Launch) (Z : State) (a0 : Array Value) (hw : HW a0 Z) (ws : List Jvm.Cond) (aS : Addr) (tA : Addr) (kA : ClassId) (y0 : Int32) (y1 : Int32) (y2 : Int32) (zCS : Int32) (fm : Value) (h0 : Heap) (n0 : Nat) (Z0 : n0 ≤ h0.size) (O0 : Old Z n0 h0) (E_0 : ek12 Z h0 aS) (F0v : fk9 Z h0 aS (.ref tA)) (F0c : fk8 Z h0 aS (.int 0)) (R_A : Arv Z h0 tA kA .byte (3 : Int32) [(.int y0), (.int y1), (.int y2)] (.int 0)) (S_CS : sk0 Z Z.heap (.int zCS)) (P_CS : ¬ zCS = 0) (S_SF : sk1 Z Z.heap fm) (P_SF : fm.isRef = true) :
    M11 l ws (rmk 3 0 0 40) Z #[(.ref aS), (.int 1)] h0 (Q_chAt_3_1 Z aS tA kA y0 y1 y2 zCS fm h0 n0) := by
  refine own_go "java/lang/String" rfl (plainFor_of_name pn_10) (fun m => ef_chAt_3_1 m aS) (fun p e s m below meth c s₁ hx hby hml hown hnm hlk hret hZ X0 e0 => ?_)
  have N0 := Fr.nil n0
  show gs s₁ m 0 #[vr aS, vi 1] []
  refine oaloadN X0 hx hby d10_0 rfl rfl ?_
  refine oV 0 X0 hx hZ hby hml hown (own_w hw 58 rfl) (own_w hw 59 rfl) (own_w hw 61 rfl) (own_w hw 60 rfl) (rm_sLat0 l Z a0 hw [] aS zCS h0 n0 Z0 O0 S_CS P_CS F0c) (own_w hw 62 rfl) (own_w hw 7 rfl) e0 E_0 (by decide) own_pd7 d10_1 rfl rfl rfl (fun T1 L1 v1 X1 hQ1 => ?_)
  obtain ⟨rfl, Nq1, eq1⟩ := hQ1
  have N1 := Fr.app N0 Nq1
  show gs T1 m 4 #[vr aS, vi 1] [(.int 1)]
  refine own_st (fun _ kS => XS.ifNo X1.here hx rfl (hb hby d10_4) rfl ((if0 _ _).trans (feq (by decide : ¬ ((1 : Int32) = (0 : Int32)))).1) kS) ?_
  show gs T1 m 7 #[vr aS, vi 1] []
  refine oaloadN X1 hx hby d10_7 rfl rfl ?_
  obtain ⟨T2, X2, e2, st2⟩ := getF X1 hx hZ hown (host := "") (Or.inl (own_w hw 32 rfl)) Via.refl eq1 F0v (g := (mkF m 8 #[vr aS, vi 1] [(.ref aS)])) rfl rfl (hb hby d10_8)
  refine own_st st2 ?_
  show gs T2 m 11 #[vr aS, vi 1] [(.ref tA)]
  refine oiloadN X2 hx hby d10_11 rfl ?_
  refine oS 0 X2 hx hZ hby hml hown (own_w hw 63 rfl) (own_w hw 64 rfl) (own_w hw 65 rfl) (own_w hw 66 rfl) (rm_l1chat_3_1 l Z a0 hw [] tA kA y0 y1 y2 fm h0 n0 Z0 O0 R_A S_SF P_SF) e2 (by decide) own_pd8 d10_12 rfl rfl rfl (fun T3 L3 v3 X3 hQ3 => ?_)
  obtain ⟨rfl, Nq3, eq3⟩ := hQ3
  have N3 := Fr.app N1 Nq3
  show gs T3 m 15 #[vr aS, vi 1] [(.int (own_lat y1))]
  exact own_retN X3 hx hlk (t := .char) hret (by simp) (hb hby d10_15) (by decide) (by decide) (v' := (own_lat y1)) (own_nlat _) (by rw [eq3]; exact ⟨rfl, N3, rfl⟩)
theorem ef_pchk_2_3 (m : MethodId) (x0 : Value) (hx0 : x0.isRef = true) : entryFrame m #[(.int 2), (.int 3), x0] 3 = mkF m 0 #[.val (.int 2), .val (.int 3), .val x0] [] := by
  rcases ref_cases hx0 with rfl | ⟨_, rfl⟩ <;> (first | (simp [entryFrame, mkF, argsToLocals, Value.category]; done) | rfl)
def Q_pchk_2_3 (Z : State) (fm : Value) (h0 : Heap) (n0 : Nat) (v : Option Value) (h : Heap) (L : List Loc) : Prop := v = some (.int 2) ∧ Fr n0 L ∧ h = h0
theorem rm_pchk_2_3 (l : Launch) (Z : State) (a0 : Array Value) (hw : HW a0 Z) (ws : List Jvm.Cond) (fm : Value) (h0 : Heap) (n0 : Nat) (Z0 : n0 ≤ h0.size) (P_SF : fm.isRef = true) :
    M8 l ws (rmk 0 0 0 0) Z #[(.int 2), (.int 3), fm] h0 (Q_pchk_2_3 Z fm h0 n0) := by
  refine own_go "jdk/internal/util/Preconditions" rfl (plainFor_of_name pn_14) (fun m => ef_pchk_2_3 m fm P_SF) (fun p e s m below meth c s₁ hx hby hml hown hnm hlk hret hZ X0 e0 => ?_)
  have N0 := Fr.nil n0
  show gs s₁ m 0 #[vi 2, vi 3, .val fm] []
  refine oiloadN X0 hx hby d14_0 rfl ?_
  refine own_st (fun _ kS => XS.ifNo X0.here hx rfl (hb hby d14_1) rfl ((if0 _ _).trans (flt (by decide : ¬ ((2 : Int32) < (0 : Int32)))).1) kS) ?_
  show gs s₁ m 4 #[vi 2, vi 3, .val fm] []
  refine oiloadN X0 hx hby d14_4 rfl ?_
  refine oiloadN X0 hx hby d14_5 rfl ?_
  refine own_st (fun _ kS => XS.icmpYes X0.here hx rfl (pc0 := 6) (pc' := 16) rfl (hb hby d14_6) rfl (tlt (by decide : (2 : Int32) < (3 : Int32))).1 (by decide) (by decide) kS) ?_
  show gs s₁ m 16 #[vi 2, vi 3, .val fm] []
  refine oiloadN X0 hx hby d14_16 rfl ?_
  exact own_retI X0 hx hlk hret (hb hby d14_17) (by decide) (by decide) (by rw [e0]; exact ⟨rfl, N0, rfl⟩)
theorem ef_chk_2_3 (m : MethodId)  : entryFrame m #[(.int 2), (.int 3)] 2 = mkF m 0 #[.val (.int 2), .val (.int 3)] [] := by first | (simp [entryFrame, mkF, argsToLocals, Value.category]; done) | rfl
def Q_chk_2_3 (Z : State) (fm : Value) (h0 : Heap) (n0 : Nat) (v : Option Value) (h : Heap) (L : List Loc) : Prop := v = none ∧ Fr n0 L ∧ h = h0
theorem rm_chk_2_3 (l : Launch) (Z : State) (a0 : Array Value) (hw : HW a0 Z) (ws : List Jvm.Cond) (fm : Value) (h0 : Heap) (n0 : Nat) (Z0 : n0 ≤ h0.size) (O0 : Old Z n0 h0) (S_SF : sk1 Z Z.heap fm) (P_SF : fm.isRef = true) :
    M9 l ws (rmk 1 0 0 14) Z #[(.int 2), (.int 3)] h0 (Q_chk_2_3 Z fm h0 n0) := by
  refine own_go "java/lang/String" rfl (plainFor_of_name pn_13) (fun m => ef_chk_2_3 m ) (fun p e s m below meth c s₁ hx hby hml hown hnm hlk hret hZ X0 e0 => ?_)
  have N0 := Fr.nil n0
  show gs s₁ m 0 #[vi 2, vi 3] []
  refine oiloadN X0 hx hby d13_0 rfl ?_
  refine oiloadN X0 hx hby d13_1 rfl ?_
  obtain ⟨T1, X1, e1, st1⟩ := getS2 X0 hx hZ hown (host := "") (Or.inl (own_w hw 70 rfl)) Via.refl e0 (Sta.ext O0.2 S_SF) (g := (mkF m 2 #[vi 2, vi 3] [(.int 3), (.int 2)])) rfl (hb hby d13_2)
  refine own_st st1 ?_
  show gs T1 m 5 #[vi 2, vi 3] [fm, (.int 3), (.int 2)]
  refine oS 0 X1 hx hZ hby hml hown (own_w hw 72 rfl) (own_w hw 73 rfl) (own_w hw 71 rfl) (own_w hw 74 rfl) (rm_pchk_2_3 l Z a0 hw [] fm h0 n0 Z0  P_SF) e1 (by decide) own_pd5 d13_5 rfl rfl rfl (fun T2 L2 v2 X2 hQ2 => ?_)
  obtain ⟨rfl, Nq2, eq2⟩ := hQ2
  have N2 := Fr.app N0 Nq2
  show gs T2 m 8 #[vi 2, vi 3] [(.int 2)]
  refine own_st (fun _ kS => XT.pop X2.here hx rfl (hb hby d13_8) rfl rfl kS) ?_
  show gs T2 m 9 #[vi 2, vi 3] []
  exact own_retV X2 hx hlk hret (hb hby d13_9) (by decide) (by decide) (by rw [eq2]; exact ⟨rfl, N2, rfl⟩)
theorem ef_l1chat_3_2 (m : MethodId) (x0 : Addr) : entryFrame m #[(.ref x0), (.int 2)] 2 = mkF m 0 #[.val (.ref x0), .val (.int 2)] [] := by first | (simp [entryFrame, mkF, argsToLocals, Value.category]; done) | rfl
def Q_l1chat_3_2 (Z : State) (tA : Addr) (kA : ClassId) (y0 : Int32) (y1 : Int32) (y2 : Int32) (fm : Value) (h0 : Heap) (n0 : Nat) (v : Option Value) (h : Heap) (L : List Loc) : Prop := v = some (.int (own_lat y2)) ∧ Fr n0 L ∧ h = h0
theorem rm_l1chat_3_2 (l : Launch) (Z : State) (a0 : Array Value) (hw : HW a0 Z) (ws : List Jvm.Cond) (tA : Addr) (kA : ClassId) (y0 : Int32) (y1 : Int32) (y2 : Int32) (fm : Value) (h0 : Heap) (n0 : Nat) (Z0 : n0 ≤ h0.size) (O0 : Old Z n0 h0) (R_A : Arv Z h0 tA kA .byte (3 : Int32) [(.int y0), (.int y1), (.int y2)] (.int 0)) (S_SF : sk1 Z Z.heap fm) (P_SF : fm.isRef = true) :
    M10 l ws (rmk 2 0 0 27) Z #[(.ref tA), (.int 2)] h0 (Q_l1chat_3_2 Z tA kA y0 y1 y2 fm h0 n0) := by
  refine own_go "java/lang/StringLatin1" rfl (plainFor_of_name pn_12) (fun m => ef_l1chat_3_2 m tA) (fun p e s m below meth c s₁ hx hby hml hown hnm hlk hret hZ X0 e0 => ?_)
  have N0 := Fr.nil n0
  show gs s₁ m 0 #[vr tA, vi 2] []
  refine oiloadN X0 hx hby d12_0 rfl ?_
  refine oaloadN X0 hx hby d12_1 rfl rfl ?_
  show gs s₁ m 2 #[vr tA, vi 2] [(.ref tA), (.int 2)]
  obtain ⟨cl1, Ar1, qa1, qs1, qn1, qh1, qg1⟩ := id R_A
  refine own_st (fun _ kS => X0.arraylength hx (by rw [e0]; exact Ar1.1) (State.isArrayOf_alike hZ.alike Ar1.2.1) (g := (mkF m 2 #[vr tA, vi 2] [(.ref tA), (.int 2)])) rfl rfl (hb hby d12_2) _ kS) ?_
  rw [len_of qs1 qn1]
  show gs s₁ m 3 #[vr tA, vi 2] [(.int 3), (.int 2)]
  refine oS 0 X0 hx hZ hby hml hown (own_w hw 67 rfl) (own_w hw 68 rfl) (own_w hw 7 rfl) (own_w hw 69 rfl) (rm_chk_2_3 l Z a0 hw [] fm h0 n0 Z0 O0 S_SF P_SF) e0 (by decide) own_pd6 d12_3 rfl rfl rfl (fun T2 L2 v2 X2 hQ2 => ?_)
  obtain ⟨rfl, Nq2, eq2⟩ := hQ2
  have N2 := Fr.app N0 Nq2
  show gs T2 m 6 #[vr tA, vi 2] []
  refine oaloadN X2 hx hby d12_6 rfl rfl ?_
  refine oiloadN X2 hx hby d12_7 rfl ?_
  show gs T2 m 8 #[vr tA, vi 2] [(.int 2), (.ref tA)]
  obtain ⟨cl3, Ar3, qa3, qs3, qn3, qh3, qg3⟩ := id R_A
  refine own_st (fun _ kS => X2.baloadBytes hx (j := (2 : Int32)) (v := (.int y2)) (by rw [eq2]; exact Ar3.1) (State.isArrayOf_alike hZ.alike Ar3.2.1) Ar3.2.2 (inb_of qs3 ⟨by decide, by decide⟩) (qh3.at (inb_of qs3 ⟨by decide, by decide⟩) rfl) (g := (mkF m 8 #[vr tA, vi 2] [(.int 2), (.ref tA)])) rfl rfl (hb hby d12_8) _ kS) ?_
  show gs T2 m 9 #[vr tA, vi 2] [(.int y2)]
  refine own_st (fun _ kS => XS.sipush X2.here hx rfl (hb hby d12_9) kS) ?_
  refine own_st (fun _ kS => XS.iand X2.here hx rfl (hb hby d12_12) rfl kS) ?_
  refine own_st (fun _ kS => XT.i2c X2.here hx rfl (hb hby d12_13) rfl kS) ?_
  show gs T2 m 14 #[vr tA, vi 2] [(.int ((y2 &&& (255 : Int32)).toUInt32.toUInt16.toUInt32.toInt32))]
  exact own_retN X2 hx hlk (t := .char) hret (by simp) (hb hby d12_14) (by decide) (by decide) (v' := (own_lat y2)) rfl (by rw [eq2]; exact ⟨(by simp [P_SF]), N2, rfl⟩)
theorem ef_chAt_3_2 (m : MethodId) (x0 : Addr) : entryFrame m #[(.ref x0), (.int 2)] 2 = mkF m 0 #[.val (.ref x0), .val (.int 2)] [] := by first | (simp [entryFrame, mkF, argsToLocals, Value.category]; done) | rfl
def Q_chAt_3_2 (Z : State) (aS : Addr) (tA : Addr) (kA : ClassId) (y0 : Int32) (y1 : Int32) (y2 : Int32) (zCS : Int32) (fm : Value) (h0 : Heap) (n0 : Nat) (v : Option Value) (h : Heap) (L : List Loc) : Prop := v = some (.int (own_lat y2)) ∧ Fr n0 L ∧ h = h0
theorem rm_chAt_3_2 (l : Launch) (Z : State) (a0 : Array Value) (hw : HW a0 Z) (ws : List Jvm.Cond) (aS : Addr) (tA : Addr) (kA : ClassId) (y0 : Int32) (y1 : Int32) (y2 : Int32) (zCS : Int32) (fm : Value) (h0 : Heap) (n0 : Nat) (Z0 : n0 ≤ h0.size) (O0 : Old Z n0 h0) (E_0 : ek12 Z h0 aS) (F0v : fk9 Z h0 aS (.ref tA)) (F0c : fk8 Z h0 aS (.int 0)) (R_A : Arv Z h0 tA kA .byte (3 : Int32) [(.int y0), (.int y1), (.int y2)] (.int 0)) (S_CS : sk0 Z Z.heap (.int zCS)) (P_CS : ¬ zCS = 0) (S_SF : sk1 Z Z.heap fm) (P_SF : fm.isRef = true) :
    M11 l ws (rmk 3 0 0 40) Z #[(.ref aS), (.int 2)] h0 (Q_chAt_3_2 Z aS tA kA y0 y1 y2 zCS fm h0 n0) := by
  refine own_go "java/lang/String" rfl (plainFor_of_name pn_10) (fun m => ef_chAt_3_2 m aS) (fun p e s m below meth c s₁ hx hby hml hown hnm hlk hret hZ X0 e0 => ?_)
  have N0 := Fr.nil n0
  show gs s₁ m 0 #[vr aS, vi 2] []
  refine oaloadN X0 hx hby d10_0 rfl rfl ?_
  refine oV 0 X0 hx hZ hby hml hown (own_w hw 58 rfl) (own_w hw 59 rfl) (own_w hw 61 rfl) (own_w hw 60 rfl) (rm_sLat0 l Z a0 hw [] aS zCS h0 n0 Z0 O0 S_CS P_CS F0c) (own_w hw 62 rfl) (own_w hw 7 rfl) e0 E_0 (by decide) own_pd7 d10_1 rfl rfl rfl (fun T1 L1 v1 X1 hQ1 => ?_)
  obtain ⟨rfl, Nq1, eq1⟩ := hQ1
  have N1 := Fr.app N0 Nq1
  show gs T1 m 4 #[vr aS, vi 2] [(.int 1)]
  refine own_st (fun _ kS => XS.ifNo X1.here hx rfl (hb hby d10_4) rfl ((if0 _ _).trans (feq (by decide : ¬ ((1 : Int32) = (0 : Int32)))).1) kS) ?_
  show gs T1 m 7 #[vr aS, vi 2] []
  refine oaloadN X1 hx hby d10_7 rfl rfl ?_
  obtain ⟨T2, X2, e2, st2⟩ := getF X1 hx hZ hown (host := "") (Or.inl (own_w hw 32 rfl)) Via.refl eq1 F0v (g := (mkF m 8 #[vr aS, vi 2] [(.ref aS)])) rfl rfl (hb hby d10_8)
  refine own_st st2 ?_
  show gs T2 m 11 #[vr aS, vi 2] [(.ref tA)]
  refine oiloadN X2 hx hby d10_11 rfl ?_
  refine oS 0 X2 hx hZ hby hml hown (own_w hw 63 rfl) (own_w hw 64 rfl) (own_w hw 65 rfl) (own_w hw 66 rfl) (rm_l1chat_3_2 l Z a0 hw [] tA kA y0 y1 y2 fm h0 n0 Z0 O0 R_A S_SF P_SF) e2 (by decide) own_pd8 d10_12 rfl rfl rfl (fun T3 L3 v3 X3 hQ3 => ?_)
  obtain ⟨rfl, Nq3, eq3⟩ := hQ3
  have N3 := Fr.app N1 Nq3
  show gs T3 m 15 #[vr aS, vi 2] [(.int (own_lat y2))]
  exact own_retN X3 hx hlk (t := .char) hret (by simp) (hb hby d10_15) (by decide) (by decide) (v' := (own_lat y2)) (own_nlat _) (by rw [eq3]; exact ⟨rfl, N3, rfl⟩)
theorem ef_sLen_4 (m : MethodId) (x0 : Addr) : entryFrame m #[(.ref x0)] 1 = mkF m 0 #[.val (.ref x0)] [] := by first | (simp [entryFrame, mkF, argsToLocals, Value.category]; done) | rfl
def Q_sLen_4 (Z : State) (aS : Addr) (tA : Addr) (kA : ClassId) (y0 : Int32) (y1 : Int32) (y2 : Int32) (y3 : Int32) (zCS : Int32) (h0 : Heap) (n0 : Nat) (v : Option Value) (h : Heap) (L : List Loc) : Prop := v = some (.int 4) ∧ Fr n0 L ∧ h = h0
theorem rm_sLen_4 (l : Launch) (Z : State) (a0 : Array Value) (hw : HW a0 Z) (ws : List Jvm.Cond) (aS : Addr) (tA : Addr) (kA : ClassId) (y0 : Int32) (y1 : Int32) (y2 : Int32) (y3 : Int32) (zCS : Int32) (h0 : Heap) (n0 : Nat) (Z0 : n0 ≤ h0.size) (O0 : Old Z n0 h0) (E_0 : ek12 Z h0 aS) (F0v : fk9 Z h0 aS (.ref tA)) (F0c : fk8 Z h0 aS (.int 0)) (R_A : Arv Z h0 tA kA .byte (4 : Int32) [(.int y0), (.int y1), (.int y2), (.int y3)] (.int 0)) (S_CS : sk0 Z Z.heap (.int zCS)) (P_CS : ¬ zCS = 0) :
    M7 l ws (rmk 1 0 0 13) Z #[(.ref aS)] h0 (Q_sLen_4 Z aS tA kA y0 y1 y2 y3 zCS h0 n0) := by
  refine own_go "java/lang/String" rfl (plainFor_of_name pn_8) (fun m => ef_sLen_4 m aS) (fun p e s m below meth c s₁ hx hby hml hown hnm hlk hret hZ X0 e0 => ?_)
  have N0 := Fr.nil n0
  show gs s₁ m 0 #[vr aS] []
  refine oaloadN X0 hx hby d8_0 rfl rfl ?_
  obtain ⟨T1, X1, e1, st1⟩ := getF X0 hx hZ hown (host := "") (Or.inl (own_w hw 32 rfl)) Via.refl e0 F0v (g := (mkF m 1 #[vr aS] [(.ref aS)])) rfl rfl (hb hby d8_1)
  refine own_st st1 ?_
  show gs T1 m 4 #[vr aS] [(.ref tA)]
  obtain ⟨cl2, Ar2, qa2, qs2, qn2, qh2, qg2⟩ := id R_A
  refine own_st (fun _ kS => X1.arraylength hx (by rw [e1]; exact Ar2.1) (State.isArrayOf_alike hZ.alike Ar2.2.1) (g := (mkF m 4 #[vr aS] [(.ref tA)])) rfl rfl (hb hby d8_4) _ kS) ?_
  rw [len_of qs2 qn2]
  show gs T1 m 5 #[vr aS] [(.int 4)]
  refine oaloadN X1 hx hby d8_5 rfl rfl ?_
  refine oV 1 X1 hx hZ hby hml hown (own_w hw 44 rfl) (own_w hw 45 rfl) (own_w hw 47 rfl) (own_w hw 46 rfl) (rm_coder0 l Z a0 hw [] aS zCS h0 n0 Z0 O0 S_CS P_CS F0c) (own_w hw 48 rfl) (own_w hw 7 rfl) e1 E_0 (by decide) own_pd4 d8_6 rfl rfl rfl (fun T3 L3 v3 X3 hQ3 => ?_)
  obtain ⟨rfl, Nq3, eq3⟩ := hQ3
  have N3 := Fr.app N0 Nq3
  show gs T3 m 9 #[vr aS] [(.int 0), (.int 4)]
  refine own_st (fun _ kS => XT.ishr X3.here hx rfl (hb hby d8_9) rfl kS) ?_
  show gs T3 m 10 #[vr aS] [(.int 4)]
  exact own_retI X3 hx hlk hret (hb hby d8_10) (by decide) (by decide) (by rw [eq3]; exact ⟨rfl, N3, rfl⟩)
theorem ef_pchk_0_4 (m : MethodId) (x0 : Value) (hx0 : x0.isRef = true) : entryFrame m #[(.int 0), (.int 4), x0] 3 = mkF m 0 #[.val (.int 0), .val (.int 4), .val x0] [] := by
  rcases ref_cases hx0 with rfl | ⟨_, rfl⟩ <;> (first | (simp [entryFrame, mkF, argsToLocals, Value.category]; done) | rfl)
def Q_pchk_0_4 (Z : State) (fm : Value) (h0 : Heap) (n0 : Nat) (v : Option Value) (h : Heap) (L : List Loc) : Prop := v = some (.int 0) ∧ Fr n0 L ∧ h = h0
theorem rm_pchk_0_4 (l : Launch) (Z : State) (a0 : Array Value) (hw : HW a0 Z) (ws : List Jvm.Cond) (fm : Value) (h0 : Heap) (n0 : Nat) (Z0 : n0 ≤ h0.size) (P_SF : fm.isRef = true) :
    M8 l ws (rmk 0 0 0 0) Z #[(.int 0), (.int 4), fm] h0 (Q_pchk_0_4 Z fm h0 n0) := by
  refine own_go "jdk/internal/util/Preconditions" rfl (plainFor_of_name pn_14) (fun m => ef_pchk_0_4 m fm P_SF) (fun p e s m below meth c s₁ hx hby hml hown hnm hlk hret hZ X0 e0 => ?_)
  have N0 := Fr.nil n0
  show gs s₁ m 0 #[vi 0, vi 4, .val fm] []
  refine oiloadN X0 hx hby d14_0 rfl ?_
  refine own_st (fun _ kS => XS.ifNo X0.here hx rfl (hb hby d14_1) rfl ((if0 _ _).trans (flt (by decide : ¬ ((0 : Int32) < (0 : Int32)))).1) kS) ?_
  show gs s₁ m 4 #[vi 0, vi 4, .val fm] []
  refine oiloadN X0 hx hby d14_4 rfl ?_
  refine oiloadN X0 hx hby d14_5 rfl ?_
  refine own_st (fun _ kS => XS.icmpYes X0.here hx rfl (pc0 := 6) (pc' := 16) rfl (hb hby d14_6) rfl (tlt (by decide : (0 : Int32) < (4 : Int32))).1 (by decide) (by decide) kS) ?_
  show gs s₁ m 16 #[vi 0, vi 4, .val fm] []
  refine oiloadN X0 hx hby d14_16 rfl ?_
  exact own_retI X0 hx hlk hret (hb hby d14_17) (by decide) (by decide) (by rw [e0]; exact ⟨rfl, N0, rfl⟩)
theorem ef_chk_0_4 (m : MethodId)  : entryFrame m #[(.int 0), (.int 4)] 2 = mkF m 0 #[.val (.int 0), .val (.int 4)] [] := by first | (simp [entryFrame, mkF, argsToLocals, Value.category]; done) | rfl
def Q_chk_0_4 (Z : State) (fm : Value) (h0 : Heap) (n0 : Nat) (v : Option Value) (h : Heap) (L : List Loc) : Prop := v = none ∧ Fr n0 L ∧ h = h0
theorem rm_chk_0_4 (l : Launch) (Z : State) (a0 : Array Value) (hw : HW a0 Z) (ws : List Jvm.Cond) (fm : Value) (h0 : Heap) (n0 : Nat) (Z0 : n0 ≤ h0.size) (O0 : Old Z n0 h0) (S_SF : sk1 Z Z.heap fm) (P_SF : fm.isRef = true) :
    M9 l ws (rmk 1 0 0 14) Z #[(.int 0), (.int 4)] h0 (Q_chk_0_4 Z fm h0 n0) := by
  refine own_go "java/lang/String" rfl (plainFor_of_name pn_13) (fun m => ef_chk_0_4 m ) (fun p e s m below meth c s₁ hx hby hml hown hnm hlk hret hZ X0 e0 => ?_)
  have N0 := Fr.nil n0
  show gs s₁ m 0 #[vi 0, vi 4] []
  refine oiloadN X0 hx hby d13_0 rfl ?_
  refine oiloadN X0 hx hby d13_1 rfl ?_
  obtain ⟨T1, X1, e1, st1⟩ := getS2 X0 hx hZ hown (host := "") (Or.inl (own_w hw 70 rfl)) Via.refl e0 (Sta.ext O0.2 S_SF) (g := (mkF m 2 #[vi 0, vi 4] [(.int 4), (.int 0)])) rfl (hb hby d13_2)
  refine own_st st1 ?_
  show gs T1 m 5 #[vi 0, vi 4] [fm, (.int 4), (.int 0)]
  refine oS 0 X1 hx hZ hby hml hown (own_w hw 72 rfl) (own_w hw 73 rfl) (own_w hw 71 rfl) (own_w hw 74 rfl) (rm_pchk_0_4 l Z a0 hw [] fm h0 n0 Z0  P_SF) e1 (by decide) own_pd5 d13_5 rfl rfl rfl (fun T2 L2 v2 X2 hQ2 => ?_)
  obtain ⟨rfl, Nq2, eq2⟩ := hQ2
  have N2 := Fr.app N0 Nq2
  show gs T2 m 8 #[vi 0, vi 4] [(.int 0)]
  refine own_st (fun _ kS => XT.pop X2.here hx rfl (hb hby d13_8) rfl rfl kS) ?_
  show gs T2 m 9 #[vi 0, vi 4] []
  exact own_retV X2 hx hlk hret (hb hby d13_9) (by decide) (by decide) (by rw [eq2]; exact ⟨rfl, N2, rfl⟩)
theorem ef_l1chat_4_0 (m : MethodId) (x0 : Addr) : entryFrame m #[(.ref x0), (.int 0)] 2 = mkF m 0 #[.val (.ref x0), .val (.int 0)] [] := by first | (simp [entryFrame, mkF, argsToLocals, Value.category]; done) | rfl
def Q_l1chat_4_0 (Z : State) (tA : Addr) (kA : ClassId) (y0 : Int32) (y1 : Int32) (y2 : Int32) (y3 : Int32) (fm : Value) (h0 : Heap) (n0 : Nat) (v : Option Value) (h : Heap) (L : List Loc) : Prop := v = some (.int (own_lat y0)) ∧ Fr n0 L ∧ h = h0
theorem rm_l1chat_4_0 (l : Launch) (Z : State) (a0 : Array Value) (hw : HW a0 Z) (ws : List Jvm.Cond) (tA : Addr) (kA : ClassId) (y0 : Int32) (y1 : Int32) (y2 : Int32) (y3 : Int32) (fm : Value) (h0 : Heap) (n0 : Nat) (Z0 : n0 ≤ h0.size) (O0 : Old Z n0 h0) (R_A : Arv Z h0 tA kA .byte (4 : Int32) [(.int y0), (.int y1), (.int y2), (.int y3)] (.int 0)) (S_SF : sk1 Z Z.heap fm) (P_SF : fm.isRef = true) :
    M10 l ws (rmk 2 0 0 27) Z #[(.ref tA), (.int 0)] h0 (Q_l1chat_4_0 Z tA kA y0 y1 y2 y3 fm h0 n0) := by
  refine own_go "java/lang/StringLatin1" rfl (plainFor_of_name pn_12) (fun m => ef_l1chat_4_0 m tA) (fun p e s m below meth c s₁ hx hby hml hown hnm hlk hret hZ X0 e0 => ?_)
  have N0 := Fr.nil n0
  show gs s₁ m 0 #[vr tA, vi 0] []
  refine oiloadN X0 hx hby d12_0 rfl ?_
  refine oaloadN X0 hx hby d12_1 rfl rfl ?_
  show gs s₁ m 2 #[vr tA, vi 0] [(.ref tA), (.int 0)]
  obtain ⟨cl1, Ar1, qa1, qs1, qn1, qh1, qg1⟩ := id R_A
  refine own_st (fun _ kS => X0.arraylength hx (by rw [e0]; exact Ar1.1) (State.isArrayOf_alike hZ.alike Ar1.2.1) (g := (mkF m 2 #[vr tA, vi 0] [(.ref tA), (.int 0)])) rfl rfl (hb hby d12_2) _ kS) ?_
  rw [len_of qs1 qn1]
  show gs s₁ m 3 #[vr tA, vi 0] [(.int 4), (.int 0)]
  refine oS 0 X0 hx hZ hby hml hown (own_w hw 67 rfl) (own_w hw 68 rfl) (own_w hw 7 rfl) (own_w hw 69 rfl) (rm_chk_0_4 l Z a0 hw [] fm h0 n0 Z0 O0 S_SF P_SF) e0 (by decide) own_pd6 d12_3 rfl rfl rfl (fun T2 L2 v2 X2 hQ2 => ?_)
  obtain ⟨rfl, Nq2, eq2⟩ := hQ2
  have N2 := Fr.app N0 Nq2
  show gs T2 m 6 #[vr tA, vi 0] []
  refine oaloadN X2 hx hby d12_6 rfl rfl ?_
  refine oiloadN X2 hx hby d12_7 rfl ?_
  show gs T2 m 8 #[vr tA, vi 0] [(.int 0), (.ref tA)]
  obtain ⟨cl3, Ar3, qa3, qs3, qn3, qh3, qg3⟩ := id R_A
  refine own_st (fun _ kS => X2.baloadBytes hx (j := (0 : Int32)) (v := (.int y0)) (by rw [eq2]; exact Ar3.1) (State.isArrayOf_alike hZ.alike Ar3.2.1) Ar3.2.2 (inb_of qs3 ⟨by decide, by decide⟩) (qh3.at (inb_of qs3 ⟨by decide, by decide⟩) rfl) (g := (mkF m 8 #[vr tA, vi 0] [(.int 0), (.ref tA)])) rfl rfl (hb hby d12_8) _ kS) ?_
  show gs T2 m 9 #[vr tA, vi 0] [(.int y0)]
  refine own_st (fun _ kS => XS.sipush X2.here hx rfl (hb hby d12_9) kS) ?_
  refine own_st (fun _ kS => XS.iand X2.here hx rfl (hb hby d12_12) rfl kS) ?_
  refine own_st (fun _ kS => XT.i2c X2.here hx rfl (hb hby d12_13) rfl kS) ?_
  show gs T2 m 14 #[vr tA, vi 0] [(.int ((y0 &&& (255 : Int32)).toUInt32.toUInt16.toUInt32.toInt32))]
  exact own_retN X2 hx hlk (t := .char) hret (by simp) (hb hby d12_14) (by decide) (by decide) (v' := (own_lat y0)) rfl (by rw [eq2]; exact ⟨(by simp [P_SF]), N2, rfl⟩)
theorem ef_chAt_4_0 (m : MethodId) (x0 : Addr) : entryFrame m #[(.ref x0), (.int 0)] 2 = mkF m 0 #[.val (.ref x0), .val (.int 0)] [] := by first | (simp [entryFrame, mkF, argsToLocals, Value.category]; done) | rfl
def Q_chAt_4_0 (Z : State) (aS : Addr) (tA : Addr) (kA : ClassId) (y0 : Int32) (y1 : Int32) (y2 : Int32) (y3 : Int32) (zCS : Int32) (fm : Value) (h0 : Heap) (n0 : Nat) (v : Option Value) (h : Heap) (L : List Loc) : Prop := v = some (.int (own_lat y0)) ∧ Fr n0 L ∧ h = h0
theorem rm_chAt_4_0 (l : Launch) (Z : State) (a0 : Array Value) (hw : HW a0 Z) (ws : List Jvm.Cond) (aS : Addr) (tA : Addr) (kA : ClassId) (y0 : Int32) (y1 : Int32) (y2 : Int32) (y3 : Int32) (zCS : Int32) (fm : Value) (h0 : Heap) (n0 : Nat) (Z0 : n0 ≤ h0.size) (O0 : Old Z n0 h0) (E_0 : ek12 Z h0 aS) (F0v : fk9 Z h0 aS (.ref tA)) (F0c : fk8 Z h0 aS (.int 0)) (R_A : Arv Z h0 tA kA .byte (4 : Int32) [(.int y0), (.int y1), (.int y2), (.int y3)] (.int 0)) (S_CS : sk0 Z Z.heap (.int zCS)) (P_CS : ¬ zCS = 0) (S_SF : sk1 Z Z.heap fm) (P_SF : fm.isRef = true) :
    M11 l ws (rmk 3 0 0 40) Z #[(.ref aS), (.int 0)] h0 (Q_chAt_4_0 Z aS tA kA y0 y1 y2 y3 zCS fm h0 n0) := by
  refine own_go "java/lang/String" rfl (plainFor_of_name pn_10) (fun m => ef_chAt_4_0 m aS) (fun p e s m below meth c s₁ hx hby hml hown hnm hlk hret hZ X0 e0 => ?_)
  have N0 := Fr.nil n0
  show gs s₁ m 0 #[vr aS, vi 0] []
  refine oaloadN X0 hx hby d10_0 rfl rfl ?_
  refine oV 0 X0 hx hZ hby hml hown (own_w hw 58 rfl) (own_w hw 59 rfl) (own_w hw 61 rfl) (own_w hw 60 rfl) (rm_sLat0 l Z a0 hw [] aS zCS h0 n0 Z0 O0 S_CS P_CS F0c) (own_w hw 62 rfl) (own_w hw 7 rfl) e0 E_0 (by decide) own_pd7 d10_1 rfl rfl rfl (fun T1 L1 v1 X1 hQ1 => ?_)
  obtain ⟨rfl, Nq1, eq1⟩ := hQ1
  have N1 := Fr.app N0 Nq1
  show gs T1 m 4 #[vr aS, vi 0] [(.int 1)]
  refine own_st (fun _ kS => XS.ifNo X1.here hx rfl (hb hby d10_4) rfl ((if0 _ _).trans (feq (by decide : ¬ ((1 : Int32) = (0 : Int32)))).1) kS) ?_
  show gs T1 m 7 #[vr aS, vi 0] []
  refine oaloadN X1 hx hby d10_7 rfl rfl ?_
  obtain ⟨T2, X2, e2, st2⟩ := getF X1 hx hZ hown (host := "") (Or.inl (own_w hw 32 rfl)) Via.refl eq1 F0v (g := (mkF m 8 #[vr aS, vi 0] [(.ref aS)])) rfl rfl (hb hby d10_8)
  refine own_st st2 ?_
  show gs T2 m 11 #[vr aS, vi 0] [(.ref tA)]
  refine oiloadN X2 hx hby d10_11 rfl ?_
  refine oS 0 X2 hx hZ hby hml hown (own_w hw 63 rfl) (own_w hw 64 rfl) (own_w hw 65 rfl) (own_w hw 66 rfl) (rm_l1chat_4_0 l Z a0 hw [] tA kA y0 y1 y2 y3 fm h0 n0 Z0 O0 R_A S_SF P_SF) e2 (by decide) own_pd8 d10_12 rfl rfl rfl (fun T3 L3 v3 X3 hQ3 => ?_)
  obtain ⟨rfl, Nq3, eq3⟩ := hQ3
  have N3 := Fr.app N1 Nq3
  show gs T3 m 15 #[vr aS, vi 0] [(.int (own_lat y0))]
  exact own_retN X3 hx hlk (t := .char) hret (by simp) (hb hby d10_15) (by decide) (by decide) (v' := (own_lat y0)) (own_nlat _) (by rw [eq3]; exact ⟨rfl, N3, rfl⟩)
theorem ef_pchk_1_4 (m : MethodId) (x0 : Value) (hx0 : x0.isRef = true) : entryFrame m #[(.int 1), (.int 4), x0] 3 = mkF m 0 #[.val (.int 1), .val (.int 4), .val x0] [] := by
  rcases ref_cases hx0 with rfl | ⟨_, rfl⟩ <;> (first | (simp [entryFrame, mkF, argsToLocals, Value.category]; done) | rfl)
def Q_pchk_1_4 (Z : State) (fm : Value) (h0 : Heap) (n0 : Nat) (v : Option Value) (h : Heap) (L : List Loc) : Prop := v = some (.int 1) ∧ Fr n0 L ∧ h = h0
theorem rm_pchk_1_4 (l : Launch) (Z : State) (a0 : Array Value) (hw : HW a0 Z) (ws : List Jvm.Cond) (fm : Value) (h0 : Heap) (n0 : Nat) (Z0 : n0 ≤ h0.size) (P_SF : fm.isRef = true) :
    M8 l ws (rmk 0 0 0 0) Z #[(.int 1), (.int 4), fm] h0 (Q_pchk_1_4 Z fm h0 n0) := by
  refine own_go "jdk/internal/util/Preconditions" rfl (plainFor_of_name pn_14) (fun m => ef_pchk_1_4 m fm P_SF) (fun p e s m below meth c s₁ hx hby hml hown hnm hlk hret hZ X0 e0 => ?_)
  have N0 := Fr.nil n0
  show gs s₁ m 0 #[vi 1, vi 4, .val fm] []
  refine oiloadN X0 hx hby d14_0 rfl ?_
  refine own_st (fun _ kS => XS.ifNo X0.here hx rfl (hb hby d14_1) rfl ((if0 _ _).trans (flt (by decide : ¬ ((1 : Int32) < (0 : Int32)))).1) kS) ?_
  show gs s₁ m 4 #[vi 1, vi 4, .val fm] []
  refine oiloadN X0 hx hby d14_4 rfl ?_
  refine oiloadN X0 hx hby d14_5 rfl ?_
  refine own_st (fun _ kS => XS.icmpYes X0.here hx rfl (pc0 := 6) (pc' := 16) rfl (hb hby d14_6) rfl (tlt (by decide : (1 : Int32) < (4 : Int32))).1 (by decide) (by decide) kS) ?_
  show gs s₁ m 16 #[vi 1, vi 4, .val fm] []
  refine oiloadN X0 hx hby d14_16 rfl ?_
  exact own_retI X0 hx hlk hret (hb hby d14_17) (by decide) (by decide) (by rw [e0]; exact ⟨rfl, N0, rfl⟩)
theorem ef_chk_1_4 (m : MethodId)  : entryFrame m #[(.int 1), (.int 4)] 2 = mkF m 0 #[.val (.int 1), .val (.int 4)] [] := by first | (simp [entryFrame, mkF, argsToLocals, Value.category]; done) | rfl
def Q_chk_1_4 (Z : State) (fm : Value) (h0 : Heap) (n0 : Nat) (v : Option Value) (h : Heap) (L : List Loc) : Prop := v = none ∧ Fr n0 L ∧ h = h0
theorem rm_chk_1_4 (l : Launch) (Z : State) (a0 : Array Value) (hw : HW a0 Z) (ws : List Jvm.Cond) (fm : Value) (h0 : Heap) (n0 : Nat) (Z0 : n0 ≤ h0.size) (O0 : Old Z n0 h0) (S_SF : sk1 Z Z.heap fm) (P_SF : fm.isRef = true) :
    M9 l ws (rmk 1 0 0 14) Z #[(.int 1), (.int 4)] h0 (Q_chk_1_4 Z fm h0 n0) := by
  refine own_go "java/lang/String" rfl (plainFor_of_name pn_13) (fun m => ef_chk_1_4 m ) (fun p e s m below meth c s₁ hx hby hml hown hnm hlk hret hZ X0 e0 => ?_)
  have N0 := Fr.nil n0
  show gs s₁ m 0 #[vi 1, vi 4] []
  refine oiloadN X0 hx hby d13_0 rfl ?_
  refine oiloadN X0 hx hby d13_1 rfl ?_
  obtain ⟨T1, X1, e1, st1⟩ := getS2 X0 hx hZ hown (host := "") (Or.inl (own_w hw 70 rfl)) Via.refl e0 (Sta.ext O0.2 S_SF) (g := (mkF m 2 #[vi 1, vi 4] [(.int 4), (.int 1)])) rfl (hb hby d13_2)
  refine own_st st1 ?_
  show gs T1 m 5 #[vi 1, vi 4] [fm, (.int 4), (.int 1)]
  refine oS 0 X1 hx hZ hby hml hown (own_w hw 72 rfl) (own_w hw 73 rfl) (own_w hw 71 rfl) (own_w hw 74 rfl) (rm_pchk_1_4 l Z a0 hw [] fm h0 n0 Z0  P_SF) e1 (by decide) own_pd5 d13_5 rfl rfl rfl (fun T2 L2 v2 X2 hQ2 => ?_)
  obtain ⟨rfl, Nq2, eq2⟩ := hQ2
  have N2 := Fr.app N0 Nq2
  show gs T2 m 8 #[vi 1, vi 4] [(.int 1)]
  refine own_st (fun _ kS => XT.pop X2.here hx rfl (hb hby d13_8) rfl rfl kS) ?_
  show gs T2 m 9 #[vi 1, vi 4] []
  exact own_retV X2 hx hlk hret (hb hby d13_9) (by decide) (by decide) (by rw [eq2]; exact ⟨rfl, N2, rfl⟩)
theorem ef_l1chat_4_1 (m : MethodId) (x0 : Addr) : entryFrame m #[(.ref x0), (.int 1)] 2 = mkF m 0 #[.val (.ref x0), .val (.int 1)] [] := by first | (simp [entryFrame, mkF, argsToLocals, Value.category]; done) | rfl
def Q_l1chat_4_1 (Z : State) (tA : Addr) (kA : ClassId) (y0 : Int32) (y1 : Int32) (y2 : Int32) (y3 : Int32) (fm : Value) (h0 : Heap) (n0 : Nat) (v : Option Value) (h : Heap) (L : List Loc) : Prop := v = some (.int (own_lat y1)) ∧ Fr n0 L ∧ h = h0
theorem rm_l1chat_4_1 (l : Launch) (Z : State) (a0 : Array Value) (hw : HW a0 Z) (ws : List Jvm.Cond) (tA : Addr) (kA : ClassId) (y0 : Int32) (y1 : Int32) (y2 : Int32) (y3 : Int32) (fm : Value) (h0 : Heap) (n0 : Nat) (Z0 : n0 ≤ h0.size) (O0 : Old Z n0 h0) (R_A : Arv Z h0 tA kA .byte (4 : Int32) [(.int y0), (.int y1), (.int y2), (.int y3)] (.int 0)) (S_SF : sk1 Z Z.heap fm) (P_SF : fm.isRef = true) :
    M10 l ws (rmk 2 0 0 27) Z #[(.ref tA), (.int 1)] h0 (Q_l1chat_4_1 Z tA kA y0 y1 y2 y3 fm h0 n0) := by
  refine own_go "java/lang/StringLatin1" rfl (plainFor_of_name pn_12) (fun m => ef_l1chat_4_1 m tA) (fun p e s m below meth c s₁ hx hby hml hown hnm hlk hret hZ X0 e0 => ?_)
  have N0 := Fr.nil n0
  show gs s₁ m 0 #[vr tA, vi 1] []
  refine oiloadN X0 hx hby d12_0 rfl ?_
  refine oaloadN X0 hx hby d12_1 rfl rfl ?_
  show gs s₁ m 2 #[vr tA, vi 1] [(.ref tA), (.int 1)]
  obtain ⟨cl1, Ar1, qa1, qs1, qn1, qh1, qg1⟩ := id R_A
  refine own_st (fun _ kS => X0.arraylength hx (by rw [e0]; exact Ar1.1) (State.isArrayOf_alike hZ.alike Ar1.2.1) (g := (mkF m 2 #[vr tA, vi 1] [(.ref tA), (.int 1)])) rfl rfl (hb hby d12_2) _ kS) ?_
  rw [len_of qs1 qn1]
  show gs s₁ m 3 #[vr tA, vi 1] [(.int 4), (.int 1)]
  refine oS 0 X0 hx hZ hby hml hown (own_w hw 67 rfl) (own_w hw 68 rfl) (own_w hw 7 rfl) (own_w hw 69 rfl) (rm_chk_1_4 l Z a0 hw [] fm h0 n0 Z0 O0 S_SF P_SF) e0 (by decide) own_pd6 d12_3 rfl rfl rfl (fun T2 L2 v2 X2 hQ2 => ?_)
  obtain ⟨rfl, Nq2, eq2⟩ := hQ2
  have N2 := Fr.app N0 Nq2
  show gs T2 m 6 #[vr tA, vi 1] []
  refine oaloadN X2 hx hby d12_6 rfl rfl ?_
  refine oiloadN X2 hx hby d12_7 rfl ?_
  show gs T2 m 8 #[vr tA, vi 1] [(.int 1), (.ref tA)]
  obtain ⟨cl3, Ar3, qa3, qs3, qn3, qh3, qg3⟩ := id R_A
  refine own_st (fun _ kS => X2.baloadBytes hx (j := (1 : Int32)) (v := (.int y1)) (by rw [eq2]; exact Ar3.1) (State.isArrayOf_alike hZ.alike Ar3.2.1) Ar3.2.2 (inb_of qs3 ⟨by decide, by decide⟩) (qh3.at (inb_of qs3 ⟨by decide, by decide⟩) rfl) (g := (mkF m 8 #[vr tA, vi 1] [(.int 1), (.ref tA)])) rfl rfl (hb hby d12_8) _ kS) ?_
  show gs T2 m 9 #[vr tA, vi 1] [(.int y1)]
  refine own_st (fun _ kS => XS.sipush X2.here hx rfl (hb hby d12_9) kS) ?_
  refine own_st (fun _ kS => XS.iand X2.here hx rfl (hb hby d12_12) rfl kS) ?_
  refine own_st (fun _ kS => XT.i2c X2.here hx rfl (hb hby d12_13) rfl kS) ?_
  show gs T2 m 14 #[vr tA, vi 1] [(.int ((y1 &&& (255 : Int32)).toUInt32.toUInt16.toUInt32.toInt32))]
  exact own_retN X2 hx hlk (t := .char) hret (by simp) (hb hby d12_14) (by decide) (by decide) (v' := (own_lat y1)) rfl (by rw [eq2]; exact ⟨(by simp [P_SF]), N2, rfl⟩)
theorem ef_chAt_4_1 (m : MethodId) (x0 : Addr) : entryFrame m #[(.ref x0), (.int 1)] 2 = mkF m 0 #[.val (.ref x0), .val (.int 1)] [] := by first | (simp [entryFrame, mkF, argsToLocals, Value.category]; done) | rfl
def Q_chAt_4_1 (Z : State) (aS : Addr) (tA : Addr) (kA : ClassId) (y0 : Int32) (y1 : Int32) (y2 : Int32) (y3 : Int32) (zCS : Int32) (fm : Value) (h0 : Heap) (n0 : Nat) (v : Option Value) (h : Heap) (L : List Loc) : Prop := v = some (.int (own_lat y1)) ∧ Fr n0 L ∧ h = h0
theorem rm_chAt_4_1 (l : Launch) (Z : State) (a0 : Array Value) (hw : HW a0 Z) (ws : List Jvm.Cond) (aS : Addr) (tA : Addr) (kA : ClassId) (y0 : Int32) (y1 : Int32) (y2 : Int32) (y3 : Int32) (zCS : Int32) (fm : Value) (h0 : Heap) (n0 : Nat) (Z0 : n0 ≤ h0.size) (O0 : Old Z n0 h0) (E_0 : ek12 Z h0 aS) (F0v : fk9 Z h0 aS (.ref tA)) (F0c : fk8 Z h0 aS (.int 0)) (R_A : Arv Z h0 tA kA .byte (4 : Int32) [(.int y0), (.int y1), (.int y2), (.int y3)] (.int 0)) (S_CS : sk0 Z Z.heap (.int zCS)) (P_CS : ¬ zCS = 0) (S_SF : sk1 Z Z.heap fm) (P_SF : fm.isRef = true) :
    M11 l ws (rmk 3 0 0 40) Z #[(.ref aS), (.int 1)] h0 (Q_chAt_4_1 Z aS tA kA y0 y1 y2 y3 zCS fm h0 n0) := by
  refine own_go "java/lang/String" rfl (plainFor_of_name pn_10) (fun m => ef_chAt_4_1 m aS) (fun p e s m below meth c s₁ hx hby hml hown hnm hlk hret hZ X0 e0 => ?_)
  have N0 := Fr.nil n0
  show gs s₁ m 0 #[vr aS, vi 1] []
  refine oaloadN X0 hx hby d10_0 rfl rfl ?_
  refine oV 0 X0 hx hZ hby hml hown (own_w hw 58 rfl) (own_w hw 59 rfl) (own_w hw 61 rfl) (own_w hw 60 rfl) (rm_sLat0 l Z a0 hw [] aS zCS h0 n0 Z0 O0 S_CS P_CS F0c) (own_w hw 62 rfl) (own_w hw 7 rfl) e0 E_0 (by decide) own_pd7 d10_1 rfl rfl rfl (fun T1 L1 v1 X1 hQ1 => ?_)
  obtain ⟨rfl, Nq1, eq1⟩ := hQ1
  have N1 := Fr.app N0 Nq1
  show gs T1 m 4 #[vr aS, vi 1] [(.int 1)]
  refine own_st (fun _ kS => XS.ifNo X1.here hx rfl (hb hby d10_4) rfl ((if0 _ _).trans (feq (by decide : ¬ ((1 : Int32) = (0 : Int32)))).1) kS) ?_
  show gs T1 m 7 #[vr aS, vi 1] []
  refine oaloadN X1 hx hby d10_7 rfl rfl ?_
  obtain ⟨T2, X2, e2, st2⟩ := getF X1 hx hZ hown (host := "") (Or.inl (own_w hw 32 rfl)) Via.refl eq1 F0v (g := (mkF m 8 #[vr aS, vi 1] [(.ref aS)])) rfl rfl (hb hby d10_8)
  refine own_st st2 ?_
  show gs T2 m 11 #[vr aS, vi 1] [(.ref tA)]
  refine oiloadN X2 hx hby d10_11 rfl ?_
  refine oS 0 X2 hx hZ hby hml hown (own_w hw 63 rfl) (own_w hw 64 rfl) (own_w hw 65 rfl) (own_w hw 66 rfl) (rm_l1chat_4_1 l Z a0 hw [] tA kA y0 y1 y2 y3 fm h0 n0 Z0 O0 R_A S_SF P_SF) e2 (by decide) own_pd8 d10_12 rfl rfl rfl (fun T3 L3 v3 X3 hQ3 => ?_)
  obtain ⟨rfl, Nq3, eq3⟩ := hQ3
  have N3 := Fr.app N1 Nq3
  show gs T3 m 15 #[vr aS, vi 1] [(.int (own_lat y1))]
  exact own_retN X3 hx hlk (t := .char) hret (by simp) (hb hby d10_15) (by decide) (by decide) (v' := (own_lat y1)) (own_nlat _) (by rw [eq3]; exact ⟨rfl, N3, rfl⟩)
theorem ef_pchk_2_4 (m : MethodId) (x0 : Value) (hx0 : x0.isRef = true) : entryFrame m #[(.int 2), (.int 4), x0] 3 = mkF m 0 #[.val (.int 2), .val (.int 4), .val x0] [] := by
  rcases ref_cases hx0 with rfl | ⟨_, rfl⟩ <;> (first | (simp [entryFrame, mkF, argsToLocals, Value.category]; done) | rfl)
def Q_pchk_2_4 (Z : State) (fm : Value) (h0 : Heap) (n0 : Nat) (v : Option Value) (h : Heap) (L : List Loc) : Prop := v = some (.int 2) ∧ Fr n0 L ∧ h = h0
theorem rm_pchk_2_4 (l : Launch) (Z : State) (a0 : Array Value) (hw : HW a0 Z) (ws : List Jvm.Cond) (fm : Value) (h0 : Heap) (n0 : Nat) (Z0 : n0 ≤ h0.size) (P_SF : fm.isRef = true) :
    M8 l ws (rmk 0 0 0 0) Z #[(.int 2), (.int 4), fm] h0 (Q_pchk_2_4 Z fm h0 n0) := by
  refine own_go "jdk/internal/util/Preconditions" rfl (plainFor_of_name pn_14) (fun m => ef_pchk_2_4 m fm P_SF) (fun p e s m below meth c s₁ hx hby hml hown hnm hlk hret hZ X0 e0 => ?_)
  have N0 := Fr.nil n0
  show gs s₁ m 0 #[vi 2, vi 4, .val fm] []
  refine oiloadN X0 hx hby d14_0 rfl ?_
  refine own_st (fun _ kS => XS.ifNo X0.here hx rfl (hb hby d14_1) rfl ((if0 _ _).trans (flt (by decide : ¬ ((2 : Int32) < (0 : Int32)))).1) kS) ?_
  show gs s₁ m 4 #[vi 2, vi 4, .val fm] []
  refine oiloadN X0 hx hby d14_4 rfl ?_
  refine oiloadN X0 hx hby d14_5 rfl ?_
  refine own_st (fun _ kS => XS.icmpYes X0.here hx rfl (pc0 := 6) (pc' := 16) rfl (hb hby d14_6) rfl (tlt (by decide : (2 : Int32) < (4 : Int32))).1 (by decide) (by decide) kS) ?_
  show gs s₁ m 16 #[vi 2, vi 4, .val fm] []
  refine oiloadN X0 hx hby d14_16 rfl ?_
  exact own_retI X0 hx hlk hret (hb hby d14_17) (by decide) (by decide) (by rw [e0]; exact ⟨rfl, N0, rfl⟩)
theorem ef_chk_2_4 (m : MethodId)  : entryFrame m #[(.int 2), (.int 4)] 2 = mkF m 0 #[.val (.int 2), .val (.int 4)] [] := by first | (simp [entryFrame, mkF, argsToLocals, Value.category]; done) | rfl
def Q_chk_2_4 (Z : State) (fm : Value) (h0 : Heap) (n0 : Nat) (v : Option Value) (h : Heap) (L : List Loc) : Prop := v = none ∧ Fr n0 L ∧ h = h0
theorem rm_chk_2_4 (l : Launch) (Z : State) (a0 : Array Value) (hw : HW a0 Z) (ws : List Jvm.Cond) (fm : Value) (h0 : Heap) (n0 : Nat) (Z0 : n0 ≤ h0.size) (O0 : Old Z n0 h0) (S_SF : sk1 Z Z.heap fm) (P_SF : fm.isRef = true) :
    M9 l ws (rmk 1 0 0 14) Z #[(.int 2), (.int 4)] h0 (Q_chk_2_4 Z fm h0 n0) := by
  refine own_go "java/lang/String" rfl (plainFor_of_name pn_13) (fun m => ef_chk_2_4 m ) (fun p e s m below meth c s₁ hx hby hml hown hnm hlk hret hZ X0 e0 => ?_)
  have N0 := Fr.nil n0
  show gs s₁ m 0 #[vi 2, vi 4] []
  refine oiloadN X0 hx hby d13_0 rfl ?_
  refine oiloadN X0 hx hby d13_1 rfl ?_
  obtain ⟨T1, X1, e1, st1⟩ := getS2 X0 hx hZ hown (host := "") (Or.inl (own_w hw 70 rfl)) Via.refl e0 (Sta.ext O0.2 S_SF) (g := (mkF m 2 #[vi 2, vi 4] [(.int 4), (.int 2)])) rfl (hb hby d13_2)
  refine own_st st1 ?_
  show gs T1 m 5 #[vi 2, vi 4] [fm, (.int 4), (.int 2)]
  refine oS 0 X1 hx hZ hby hml hown (own_w hw 72 rfl) (own_w hw 73 rfl) (own_w hw 71 rfl) (own_w hw 74 rfl) (rm_pchk_2_4 l Z a0 hw [] fm h0 n0 Z0  P_SF) e1 (by decide) own_pd5 d13_5 rfl rfl rfl (fun T2 L2 v2 X2 hQ2 => ?_)
  obtain ⟨rfl, Nq2, eq2⟩ := hQ2
  have N2 := Fr.app N0 Nq2
  show gs T2 m 8 #[vi 2, vi 4] [(.int 2)]
  refine own_st (fun _ kS => XT.pop X2.here hx rfl (hb hby d13_8) rfl rfl kS) ?_
  show gs T2 m 9 #[vi 2, vi 4] []
  exact own_retV X2 hx hlk hret (hb hby d13_9) (by decide) (by decide) (by rw [eq2]; exact ⟨rfl, N2, rfl⟩)
theorem ef_l1chat_4_2 (m : MethodId) (x0 : Addr) : entryFrame m #[(.ref x0), (.int 2)] 2 = mkF m 0 #[.val (.ref x0), .val (.int 2)] [] := by first | (simp [entryFrame, mkF, argsToLocals, Value.category]; done) | rfl
def Q_l1chat_4_2 (Z : State) (tA : Addr) (kA : ClassId) (y0 : Int32) (y1 : Int32) (y2 : Int32) (y3 : Int32) (fm : Value) (h0 : Heap) (n0 : Nat) (v : Option Value) (h : Heap) (L : List Loc) : Prop := v = some (.int (own_lat y2)) ∧ Fr n0 L ∧ h = h0
theorem rm_l1chat_4_2 (l : Launch) (Z : State) (a0 : Array Value) (hw : HW a0 Z) (ws : List Jvm.Cond) (tA : Addr) (kA : ClassId) (y0 : Int32) (y1 : Int32) (y2 : Int32) (y3 : Int32) (fm : Value) (h0 : Heap) (n0 : Nat) (Z0 : n0 ≤ h0.size) (O0 : Old Z n0 h0) (R_A : Arv Z h0 tA kA .byte (4 : Int32) [(.int y0), (.int y1), (.int y2), (.int y3)] (.int 0)) (S_SF : sk1 Z Z.heap fm) (P_SF : fm.isRef = true) :
    M10 l ws (rmk 2 0 0 27) Z #[(.ref tA), (.int 2)] h0 (Q_l1chat_4_2 Z tA kA y0 y1 y2 y3 fm h0 n0) := by
  refine own_go "java/lang/StringLatin1" rfl (plainFor_of_name pn_12) (fun m => ef_l1chat_4_2 m tA) (fun p e s m below meth c s₁ hx hby hml hown hnm hlk hret hZ X0 e0 => ?_)
  have N0 := Fr.nil n0
  show gs s₁ m 0 #[vr tA, vi 2] []
  refine oiloadN X0 hx hby d12_0 rfl ?_
  refine oaloadN X0 hx hby d12_1 rfl rfl ?_
  show gs s₁ m 2 #[vr tA, vi 2] [(.ref tA), (.int 2)]
  obtain ⟨cl1, Ar1, qa1, qs1, qn1, qh1, qg1⟩ := id R_A
  refine own_st (fun _ kS => X0.arraylength hx (by rw [e0]; exact Ar1.1) (State.isArrayOf_alike hZ.alike Ar1.2.1) (g := (mkF m 2 #[vr tA, vi 2] [(.ref tA), (.int 2)])) rfl rfl (hb hby d12_2) _ kS) ?_
  rw [len_of qs1 qn1]
  show gs s₁ m 3 #[vr tA, vi 2] [(.int 4), (.int 2)]
  refine oS 0 X0 hx hZ hby hml hown (own_w hw 67 rfl) (own_w hw 68 rfl) (own_w hw 7 rfl) (own_w hw 69 rfl) (rm_chk_2_4 l Z a0 hw [] fm h0 n0 Z0 O0 S_SF P_SF) e0 (by decide) own_pd6 d12_3 rfl rfl rfl (fun T2 L2 v2 X2 hQ2 => ?_)
  obtain ⟨rfl, Nq2, eq2⟩ := hQ2
  have N2 := Fr.app N0 Nq2
  show gs T2 m 6 #[vr tA, vi 2] []
  refine oaloadN X2 hx hby d12_6 rfl rfl ?_
  refine oiloadN X2 hx hby d12_7 rfl ?_
  show gs T2 m 8 #[vr tA, vi 2] [(.int 2), (.ref tA)]
  obtain ⟨cl3, Ar3, qa3, qs3, qn3, qh3, qg3⟩ := id R_A
  refine own_st (fun _ kS => X2.baloadBytes hx (j := (2 : Int32)) (v := (.int y2)) (by rw [eq2]; exact Ar3.1) (State.isArrayOf_alike hZ.alike Ar3.2.1) Ar3.2.2 (inb_of qs3 ⟨by decide, by decide⟩) (qh3.at (inb_of qs3 ⟨by decide, by decide⟩) rfl) (g := (mkF m 8 #[vr tA, vi 2] [(.int 2), (.ref tA)])) rfl rfl (hb hby d12_8) _ kS) ?_
  show gs T2 m 9 #[vr tA, vi 2] [(.int y2)]
  refine own_st (fun _ kS => XS.sipush X2.here hx rfl (hb hby d12_9) kS) ?_
  refine own_st (fun _ kS => XS.iand X2.here hx rfl (hb hby d12_12) rfl kS) ?_
  refine own_st (fun _ kS => XT.i2c X2.here hx rfl (hb hby d12_13) rfl kS) ?_
  show gs T2 m 14 #[vr tA, vi 2] [(.int ((y2 &&& (255 : Int32)).toUInt32.toUInt16.toUInt32.toInt32))]
  exact own_retN X2 hx hlk (t := .char) hret (by simp) (hb hby d12_14) (by decide) (by decide) (v' := (own_lat y2)) rfl (by rw [eq2]; exact ⟨(by simp [P_SF]), N2, rfl⟩)
theorem ef_chAt_4_2 (m : MethodId) (x0 : Addr) : entryFrame m #[(.ref x0), (.int 2)] 2 = mkF m 0 #[.val (.ref x0), .val (.int 2)] [] := by first | (simp [entryFrame, mkF, argsToLocals, Value.category]; done) | rfl
def Q_chAt_4_2 (Z : State) (aS : Addr) (tA : Addr) (kA : ClassId) (y0 : Int32) (y1 : Int32) (y2 : Int32) (y3 : Int32) (zCS : Int32) (fm : Value) (h0 : Heap) (n0 : Nat) (v : Option Value) (h : Heap) (L : List Loc) : Prop := v = some (.int (own_lat y2)) ∧ Fr n0 L ∧ h = h0
theorem rm_chAt_4_2 (l : Launch) (Z : State) (a0 : Array Value) (hw : HW a0 Z) (ws : List Jvm.Cond) (aS : Addr) (tA : Addr) (kA : ClassId) (y0 : Int32) (y1 : Int32) (y2 : Int32) (y3 : Int32) (zCS : Int32) (fm : Value) (h0 : Heap) (n0 : Nat) (Z0 : n0 ≤ h0.size) (O0 : Old Z n0 h0) (E_0 : ek12 Z h0 aS) (F0v : fk9 Z h0 aS (.ref tA)) (F0c : fk8 Z h0 aS (.int 0)) (R_A : Arv Z h0 tA kA .byte (4 : Int32) [(.int y0), (.int y1), (.int y2), (.int y3)] (.int 0)) (S_CS : sk0 Z Z.heap (.int zCS)) (P_CS : ¬ zCS = 0) (S_SF : sk1 Z Z.heap fm) (P_SF : fm.isRef = true) :
    M11 l ws (rmk 3 0 0 40) Z #[(.ref aS), (.int 2)] h0 (Q_chAt_4_2 Z aS tA kA y0 y1 y2 y3 zCS fm h0 n0) := by
  refine own_go "java/lang/String" rfl (plainFor_of_name pn_10) (fun m => ef_chAt_4_2 m aS) (fun p e s m below meth c s₁ hx hby hml hown hnm hlk hret hZ X0 e0 => ?_)
  have N0 := Fr.nil n0
  show gs s₁ m 0 #[vr aS, vi 2] []
  refine oaloadN X0 hx hby d10_0 rfl rfl ?_
  refine oV 0 X0 hx hZ hby hml hown (own_w hw 58 rfl) (own_w hw 59 rfl) (own_w hw 61 rfl) (own_w hw 60 rfl) (rm_sLat0 l Z a0 hw [] aS zCS h0 n0 Z0 O0 S_CS P_CS F0c) (own_w hw 62 rfl) (own_w hw 7 rfl) e0 E_0 (by decide) own_pd7 d10_1 rfl rfl rfl (fun T1 L1 v1 X1 hQ1 => ?_)
  obtain ⟨rfl, Nq1, eq1⟩ := hQ1
  have N1 := Fr.app N0 Nq1
  show gs T1 m 4 #[vr aS, vi 2] [(.int 1)]
  refine own_st (fun _ kS => XS.ifNo X1.here hx rfl (hb hby d10_4) rfl ((if0 _ _).trans (feq (by decide : ¬ ((1 : Int32) = (0 : Int32)))).1) kS) ?_
  show gs T1 m 7 #[vr aS, vi 2] []
  refine oaloadN X1 hx hby d10_7 rfl rfl ?_
  obtain ⟨T2, X2, e2, st2⟩ := getF X1 hx hZ hown (host := "") (Or.inl (own_w hw 32 rfl)) Via.refl eq1 F0v (g := (mkF m 8 #[vr aS, vi 2] [(.ref aS)])) rfl rfl (hb hby d10_8)
  refine own_st st2 ?_
  show gs T2 m 11 #[vr aS, vi 2] [(.ref tA)]
  refine oiloadN X2 hx hby d10_11 rfl ?_
  refine oS 0 X2 hx hZ hby hml hown (own_w hw 63 rfl) (own_w hw 64 rfl) (own_w hw 65 rfl) (own_w hw 66 rfl) (rm_l1chat_4_2 l Z a0 hw [] tA kA y0 y1 y2 y3 fm h0 n0 Z0 O0 R_A S_SF P_SF) e2 (by decide) own_pd8 d10_12 rfl rfl rfl (fun T3 L3 v3 X3 hQ3 => ?_)
  obtain ⟨rfl, Nq3, eq3⟩ := hQ3
  have N3 := Fr.app N1 Nq3
  show gs T3 m 15 #[vr aS, vi 2] [(.int (own_lat y2))]
  exact own_retN X3 hx hlk (t := .char) hret (by simp) (hb hby d10_15) (by decide) (by decide) (v' := (own_lat y2)) (own_nlat _) (by rw [eq3]; exact ⟨rfl, N3, rfl⟩)
theorem ef_pchk_3_4 (m : MethodId) (x0 : Value) (hx0 : x0.isRef = true) : entryFrame m #[(.int 3), (.int 4), x0] 3 = mkF m 0 #[.val (.int 3), .val (.int 4), .val x0] [] := by
  rcases ref_cases hx0 with rfl | ⟨_, rfl⟩ <;> (first | (simp [entryFrame, mkF, argsToLocals, Value.category]; done) | rfl)
def Q_pchk_3_4 (Z : State) (fm : Value) (h0 : Heap) (n0 : Nat) (v : Option Value) (h : Heap) (L : List Loc) : Prop := v = some (.int 3) ∧ Fr n0 L ∧ h = h0
theorem rm_pchk_3_4 (l : Launch) (Z : State) (a0 : Array Value) (hw : HW a0 Z) (ws : List Jvm.Cond) (fm : Value) (h0 : Heap) (n0 : Nat) (Z0 : n0 ≤ h0.size) (P_SF : fm.isRef = true) :
    M8 l ws (rmk 0 0 0 0) Z #[(.int 3), (.int 4), fm] h0 (Q_pchk_3_4 Z fm h0 n0) := by
  refine own_go "jdk/internal/util/Preconditions" rfl (plainFor_of_name pn_14) (fun m => ef_pchk_3_4 m fm P_SF) (fun p e s m below meth c s₁ hx hby hml hown hnm hlk hret hZ X0 e0 => ?_)
  have N0 := Fr.nil n0
  show gs s₁ m 0 #[vi 3, vi 4, .val fm] []
  refine oiloadN X0 hx hby d14_0 rfl ?_
  refine own_st (fun _ kS => XS.ifNo X0.here hx rfl (hb hby d14_1) rfl ((if0 _ _).trans (flt (by decide : ¬ ((3 : Int32) < (0 : Int32)))).1) kS) ?_
  show gs s₁ m 4 #[vi 3, vi 4, .val fm] []
  refine oiloadN X0 hx hby d14_4 rfl ?_
  refine oiloadN X0 hx hby d14_5 rfl ?_
  refine own_st (fun _ kS => XS.icmpYes X0.here hx rfl (pc0 := 6) (pc' := 16) rfl (hb hby d14_6) rfl (tlt (by decide : (3 : Int32) < (4 : Int32))).1 (by decide) (by decide) kS) ?_
  show gs s₁ m 16 #[vi 3, vi 4, .val fm] []
  refine oiloadN X0 hx hby d14_16 rfl ?_
  exact own_retI X0 hx hlk hret (hb hby d14_17) (by decide) (by decide) (by rw [e0]; exact ⟨rfl, N0, rfl⟩)
theorem ef_chk_3_4 (m : MethodId)  : entryFrame m #[(.int 3), (.int 4)] 2 = mkF m 0 #[.val (.int 3), .val (.int 4)] [] := by first | (simp [entryFrame, mkF, argsToLocals, Value.category]; done) | rfl
def Q_chk_3_4 (Z : State) (fm : Value) (h0 : Heap) (n0 : Nat) (v : Option Value) (h : Heap) (L : List Loc) : Prop := v = none ∧ Fr n0 L ∧ h = h0
theorem rm_chk_3_4 (l : Launch) (Z : State) (a0 : Array Value) (hw : HW a0 Z) (ws : List Jvm.Cond) (fm : Value) (h0 : Heap) (n0 : Nat) (Z0 : n0 ≤ h0.size) (O0 : Old Z n0 h0) (S_SF : sk1 Z Z.heap fm) (P_SF : fm.isRef = true) :
    M9 l ws (rmk 1 0 0 14) Z #[(.int 3), (.int 4)] h0 (Q_chk_3_4 Z fm h0 n0) := by
  refine own_go "java/lang/String" rfl (plainFor_of_name pn_13) (fun m => ef_chk_3_4 m ) (fun p e s m below meth c s₁ hx hby hml hown hnm hlk hret hZ X0 e0 => ?_)
  have N0 := Fr.nil n0
  show gs s₁ m 0 #[vi 3, vi 4] []
  refine oiloadN X0 hx hby d13_0 rfl ?_
  refine oiloadN X0 hx hby d13_1 rfl ?_
  obtain ⟨T1, X1, e1, st1⟩ := getS2 X0 hx hZ hown (host := "") (Or.inl (own_w hw 70 rfl)) Via.refl e0 (Sta.ext O0.2 S_SF) (g := (mkF m 2 #[vi 3, vi 4] [(.int 4), (.int 3)])) rfl (hb hby d13_2)
  refine own_st st1 ?_
  show gs T1 m 5 #[vi 3, vi 4] [fm, (.int 4), (.int 3)]
  refine oS 0 X1 hx hZ hby hml hown (own_w hw 72 rfl) (own_w hw 73 rfl) (own_w hw 71 rfl) (own_w hw 74 rfl) (rm_pchk_3_4 l Z a0 hw [] fm h0 n0 Z0  P_SF) e1 (by decide) own_pd5 d13_5 rfl rfl rfl (fun T2 L2 v2 X2 hQ2 => ?_)
  obtain ⟨rfl, Nq2, eq2⟩ := hQ2
  have N2 := Fr.app N0 Nq2
  show gs T2 m 8 #[vi 3, vi 4] [(.int 3)]
  refine own_st (fun _ kS => XT.pop X2.here hx rfl (hb hby d13_8) rfl rfl kS) ?_
  show gs T2 m 9 #[vi 3, vi 4] []
  exact own_retV X2 hx hlk hret (hb hby d13_9) (by decide) (by decide) (by rw [eq2]; exact ⟨rfl, N2, rfl⟩)
theorem ef_l1chat_4_3 (m : MethodId) (x0 : Addr) : entryFrame m #[(.ref x0), (.int 3)] 2 = mkF m 0 #[.val (.ref x0), .val (.int 3)] [] := by first | (simp [entryFrame, mkF, argsToLocals, Value.category]; done) | rfl
def Q_l1chat_4_3 (Z : State) (tA : Addr) (kA : ClassId) (y0 : Int32) (y1 : Int32) (y2 : Int32) (y3 : Int32) (fm : Value) (h0 : Heap) (n0 : Nat) (v : Option Value) (h : Heap) (L : List Loc) : Prop := v = some (.int (own_lat y3)) ∧ Fr n0 L ∧ h = h0
theorem rm_l1chat_4_3 (l : Launch) (Z : State) (a0 : Array Value) (hw : HW a0 Z) (ws : List Jvm.Cond) (tA : Addr) (kA : ClassId) (y0 : Int32) (y1 : Int32) (y2 : Int32) (y3 : Int32) (fm : Value) (h0 : Heap) (n0 : Nat) (Z0 : n0 ≤ h0.size) (O0 : Old Z n0 h0) (R_A : Arv Z h0 tA kA .byte (4 : Int32) [(.int y0), (.int y1), (.int y2), (.int y3)] (.int 0)) (S_SF : sk1 Z Z.heap fm) (P_SF : fm.isRef = true) :
    M10 l ws (rmk 2 0 0 27) Z #[(.ref tA), (.int 3)] h0 (Q_l1chat_4_3 Z tA kA y0 y1 y2 y3 fm h0 n0) := by
  refine own_go "java/lang/StringLatin1" rfl (plainFor_of_name pn_12) (fun m => ef_l1chat_4_3 m tA) (fun p e s m below meth c s₁ hx hby hml hown hnm hlk hret hZ X0 e0 => ?_)
  have N0 := Fr.nil n0
  show gs s₁ m 0 #[vr tA, vi 3] []
  refine oiloadN X0 hx hby d12_0 rfl ?_
  refine oaloadN X0 hx hby d12_1 rfl rfl ?_
  show gs s₁ m 2 #[vr tA, vi 3] [(.ref tA), (.int 3)]
  obtain ⟨cl1, Ar1, qa1, qs1, qn1, qh1, qg1⟩ := id R_A
  refine own_st (fun _ kS => X0.arraylength hx (by rw [e0]; exact Ar1.1) (State.isArrayOf_alike hZ.alike Ar1.2.1) (g := (mkF m 2 #[vr tA, vi 3] [(.ref tA), (.int 3)])) rfl rfl (hb hby d12_2) _ kS) ?_
  rw [len_of qs1 qn1]
  show gs s₁ m 3 #[vr tA, vi 3] [(.int 4), (.int 3)]
  refine oS 0 X0 hx hZ hby hml hown (own_w hw 67 rfl) (own_w hw 68 rfl) (own_w hw 7 rfl) (own_w hw 69 rfl) (rm_chk_3_4 l Z a0 hw [] fm h0 n0 Z0 O0 S_SF P_SF) e0 (by decide) own_pd6 d12_3 rfl rfl rfl (fun T2 L2 v2 X2 hQ2 => ?_)
  obtain ⟨rfl, Nq2, eq2⟩ := hQ2
  have N2 := Fr.app N0 Nq2
  show gs T2 m 6 #[vr tA, vi 3] []
  refine oaloadN X2 hx hby d12_6 rfl rfl ?_
  refine oiloadN X2 hx hby d12_7 rfl ?_
  show gs T2 m 8 #[vr tA, vi 3] [(.int 3), (.ref tA)]
  obtain ⟨cl3, Ar3, qa3, qs3, qn3, qh3, qg3⟩ := id R_A
  refine own_st (fun _ kS => X2.baloadBytes hx (j := (3 : Int32)) (v := (.int y3)) (by rw [eq2]; exact Ar3.1) (State.isArrayOf_alike hZ.alike Ar3.2.1) Ar3.2.2 (inb_of qs3 ⟨by decide, by decide⟩) (qh3.at (inb_of qs3 ⟨by decide, by decide⟩) rfl) (g := (mkF m 8 #[vr tA, vi 3] [(.int 3), (.ref tA)])) rfl rfl (hb hby d12_8) _ kS) ?_
  show gs T2 m 9 #[vr tA, vi 3] [(.int y3)]
  refine own_st (fun _ kS => XS.sipush X2.here hx rfl (hb hby d12_9) kS) ?_
  refine own_st (fun _ kS => XS.iand X2.here hx rfl (hb hby d12_12) rfl kS) ?_
  refine own_st (fun _ kS => XT.i2c X2.here hx rfl (hb hby d12_13) rfl kS) ?_
  show gs T2 m 14 #[vr tA, vi 3] [(.int ((y3 &&& (255 : Int32)).toUInt32.toUInt16.toUInt32.toInt32))]
  exact own_retN X2 hx hlk (t := .char) hret (by simp) (hb hby d12_14) (by decide) (by decide) (v' := (own_lat y3)) rfl (by rw [eq2]; exact ⟨(by simp [P_SF]), N2, rfl⟩)
theorem ef_chAt_4_3 (m : MethodId) (x0 : Addr) : entryFrame m #[(.ref x0), (.int 3)] 2 = mkF m 0 #[.val (.ref x0), .val (.int 3)] [] := by first | (simp [entryFrame, mkF, argsToLocals, Value.category]; done) | rfl
def Q_chAt_4_3 (Z : State) (aS : Addr) (tA : Addr) (kA : ClassId) (y0 : Int32) (y1 : Int32) (y2 : Int32) (y3 : Int32) (zCS : Int32) (fm : Value) (h0 : Heap) (n0 : Nat) (v : Option Value) (h : Heap) (L : List Loc) : Prop := v = some (.int (own_lat y3)) ∧ Fr n0 L ∧ h = h0
theorem rm_chAt_4_3 (l : Launch) (Z : State) (a0 : Array Value) (hw : HW a0 Z) (ws : List Jvm.Cond) (aS : Addr) (tA : Addr) (kA : ClassId) (y0 : Int32) (y1 : Int32) (y2 : Int32) (y3 : Int32) (zCS : Int32) (fm : Value) (h0 : Heap) (n0 : Nat) (Z0 : n0 ≤ h0.size) (O0 : Old Z n0 h0) (E_0 : ek12 Z h0 aS) (F0v : fk9 Z h0 aS (.ref tA)) (F0c : fk8 Z h0 aS (.int 0)) (R_A : Arv Z h0 tA kA .byte (4 : Int32) [(.int y0), (.int y1), (.int y2), (.int y3)] (.int 0)) (S_CS : sk0 Z Z.heap (.int zCS)) (P_CS : ¬ zCS = 0) (S_SF : sk1 Z Z.heap fm) (P_SF : fm.isRef = true) :
    M11 l ws (rmk 3 0 0 40) Z #[(.ref aS), (.int 3)] h0 (Q_chAt_4_3 Z aS tA kA y0 y1 y2 y3 zCS fm h0 n0) := by
  refine own_go "java/lang/String" rfl (plainFor_of_name pn_10) (fun m => ef_chAt_4_3 m aS) (fun p e s m below meth c s₁ hx hby hml hown hnm hlk hret hZ X0 e0 => ?_)
  have N0 := Fr.nil n0
  show gs s₁ m 0 #[vr aS, vi 3] []
  refine oaloadN X0 hx hby d10_0 rfl rfl ?_
  refine oV 0 X0 hx hZ hby hml hown (own_w hw 58 rfl) (own_w hw 59 rfl) (own_w hw 61 rfl) (own_w hw 60 rfl) (rm_sLat0 l Z a0 hw [] aS zCS h0 n0 Z0 O0 S_CS P_CS F0c) (own_w hw 62 rfl) (own_w hw 7 rfl) e0 E_0 (by decide) own_pd7 d10_1 rfl rfl rfl (fun T1 L1 v1 X1 hQ1 => ?_)
  obtain ⟨rfl, Nq1, eq1⟩ := hQ1
  have N1 := Fr.app N0 Nq1
  show gs T1 m 4 #[vr aS, vi 3] [(.int 1)]
  refine own_st (fun _ kS => XS.ifNo X1.here hx rfl (hb hby d10_4) rfl ((if0 _ _).trans (feq (by decide : ¬ ((1 : Int32) = (0 : Int32)))).1) kS) ?_
  show gs T1 m 7 #[vr aS, vi 3] []
  refine oaloadN X1 hx hby d10_7 rfl rfl ?_
  obtain ⟨T2, X2, e2, st2⟩ := getF X1 hx hZ hown (host := "") (Or.inl (own_w hw 32 rfl)) Via.refl eq1 F0v (g := (mkF m 8 #[vr aS, vi 3] [(.ref aS)])) rfl rfl (hb hby d10_8)
  refine own_st st2 ?_
  show gs T2 m 11 #[vr aS, vi 3] [(.ref tA)]
  refine oiloadN X2 hx hby d10_11 rfl ?_
  refine oS 0 X2 hx hZ hby hml hown (own_w hw 63 rfl) (own_w hw 64 rfl) (own_w hw 65 rfl) (own_w hw 66 rfl) (rm_l1chat_4_3 l Z a0 hw [] tA kA y0 y1 y2 y3 fm h0 n0 Z0 O0 R_A S_SF P_SF) e2 (by decide) own_pd8 d10_12 rfl rfl rfl (fun T3 L3 v3 X3 hQ3 => ?_)
  obtain ⟨rfl, Nq3, eq3⟩ := hQ3
  have N3 := Fr.app N1 Nq3
  show gs T3 m 15 #[vr aS, vi 3] [(.int (own_lat y3))]
  exact own_retN X3 hx hlk (t := .char) hret (by simp) (hb hby d10_15) (by decide) (by decide) (v' := (own_lat y3)) (own_nlat _) (by rw [eq3]; exact ⟨rfl, N3, rfl⟩)
theorem d7_0 : dk B12 0 (.aload_n 1) 1 := by decide +kernel
theorem d7_1 : dk B12 1 (.invokevirtual 85) 3 := by decide +kernel
theorem d7_4 : dk B12 4 (.aload_n 0) 1 := by decide +kernel
theorem d7_5 : dk B12 5 (.getfield 41) 3 := by decide +kernel
theorem d7_8 : dk B12 8 (.imul) 1 := by decide +kernel
theorem d7_9 : dk B12 9 (.newarray .byte) 2 := by decide +kernel
theorem d7_11 : dk B12 11 (.astore_n 2) 1 := by decide +kernel
theorem d7_12 : dk B12 12 (.iconst 0) 1 := by decide +kernel
theorem d7_13 : dk B12 13 (.istore_n 3) 1 := by decide +kernel
theorem d7_14 : dk B12 14 (.iload_n 3) 1 := by decide +kernel
theorem d7_15 : dk B12 15 (.aload_n 1) 1 := by decide +kernel
theorem d7_16 : dk B12 16 (.invokevirtual 85) 3 := by decide +kernel
theorem d7_19 : dk B12 19 (.if_icmp .ge 46) 3 := by decide +kernel
theorem d7_22 : dk B12 22 (.aload_n 2) 1 := by decide +kernel
theorem d7_23 : dk B12 23 (.aload_n 0) 1 := by decide +kernel
theorem d7_24 : dk B12 24 (.getfield 45) 3 := by decide +kernel
theorem d7_27 : dk B12 27 (.ifCond .eq 12) 3 := by decide +kernel
theorem d7_30 : dk B12 30 (.iload_n 3) 1 := by decide +kernel
theorem d7_31 : dk B12 31 (.aload_n 0) 1 := by decide +kernel
theorem d7_32 : dk B12 32 (.getfield 41) 3 := by decide +kernel
theorem d7_35 : dk B12 35 (.imul) 1 := by decide +kernel
theorem d7_36 : dk B12 36 (.goto 16) 3 := by decide +kernel
theorem d7_39 : dk B12 39 (.iload_n 3) 1 := by decide +kernel
theorem d7_40 : dk B12 40 (.aload_n 0) 1 := by decide +kernel
theorem d7_41 : dk B12 41 (.getfield 41) 3 := by decide +kernel
theorem d7_44 : dk B12 44 (.imul) 1 := by decide +kernel
theorem d7_45 : dk B12 45 (.aload_n 0) 1 := by decide +kernel
theorem d7_46 : dk B12 46 (.getfield 41) 3 := by decide +kernel
theorem d7_49 : dk B12 49 (.iadd) 1 := by decide +kernel
theorem d7_50 : dk B12 50 (.iconst 1) 1 := by decide +kernel
theorem d7_51 : dk B12 51 (.isub) 1 := by decide +kernel
theorem d7_52 : dk B12 52 (.aload_n 1) 1 := by decide +kernel
theorem d7_53 : dk B12 53 (.iload_n 3) 1 := by decide +kernel
theorem d7_54 : dk B12 54 (.invokevirtual 91) 3 := by decide +kernel
theorem d7_57 : dk B12 57 (.i2b) 1 := by decide +kernel
theorem d7_58 : dk B12 58 (.bastore) 1 := by decide +kernel
theorem d7_59 : dk B12 59 (.iinc 3 1) 3 := by decide +kernel
theorem d7_62 : dk B12 62 (.goto (-48)) 3 := by decide +kernel
theorem d7_65 : dk B12 65 (.aload_n 2) 1 := by decide +kernel
theorem d7_66 : dk B12 66 (.areturn) 1 := by decide +kernel
theorem pn_7 : plainName "com/example/provenir/provenir/TextEncoding" = true := by first | (simp [plainName, overriddenIn]; done) | decide +kernel
theorem own_pd9 : parseMethodDescriptor "()I" = some ⟨[], some .int⟩ := by decide +kernel
theorem ef_enc_0_1_0 (m : MethodId) (x0 : Addr) (x1 : Addr) : entryFrame m #[(.ref x0), (.ref x1)] 4 = mkF m 0 #[.val (.ref x0), .val (.ref x1), .unset, .unset] [] := by first | (simp [entryFrame, mkF, argsToLocals, Value.category]; done) | rfl
def Q_enc_0_1_0 (Z : State) (a1 : Addr) (aS : Addr) (tA : Addr) (kA : ClassId) (zCS : Int32) (fm : Value) (h0 : Heap) (n0 : Nat) (v : Option Value) (h : Heap) (L : List Loc) : Prop := ∃ tN : Addr, ∃ kN : ClassId, v = some (.ref tN) ∧ Fr n0 L ∧ Keep h0 h [] ∧ h0.size ≤ tN ∧ Arv Z h tN kN .byte (0 : Int32) [] (.int 0)
theorem rm_enc_0_1_0 (l : Launch) (Z : State) (a0 : Array Value) (hw : HW a0 Z) (ws : List Jvm.Cond) (a1 : Addr) (aS : Addr) (tA : Addr) (kA : ClassId) (zCS : Int32) (fm : Value) (h0 : Heap) (n0 : Nat) (Z0 : n0 ≤ h0.size) (O0 : Old Z n0 h0) (Fw : fk10 Z Z.heap a1 (.int 1)) (E_0 : ek12 Z h0 aS) (F0v : fk9 Z h0 aS (.ref tA)) (F0c : fk8 Z h0 aS (.int 0)) (R_A : Arv Z h0 tA kA .byte (0 : Int32) [] (.int 0)) (S_CS : sk0 Z Z.heap (.int zCS)) (P_CS : ¬ zCS = 0) (S_SF : sk1 Z Z.heap fm) (P_SF : fm.isRef = true) :
    M12 l ws (rmk 2 1 0 26) Z #[(.ref a1), (.ref aS)] h0 (Q_enc_0_1_0 Z a1 aS tA kA zCS fm h0 n0) := by
  refine own_go "com/example/provenir/provenir/TextEncoding" rfl (plainFor_of_name pn_7) (fun m => ef_enc_0_1_0 m a1 aS) (fun p e s m below meth c s₁ hx hby hml hown hnm hlk hret hZ X0 e0 => ?_)
  have N0 := Fr.nil n0
  have K0 := Keep.refl h0 []
  show gs s₁ m 0 #[vr a1, vr aS, .unset, .unset] []
  refine oaloadN X0 hx hby d7_0 rfl rfl ?_
  refine oV 0 X0 hx hZ hby hml hown (own_w hw 39 rfl) (own_w hw 40 rfl) (own_w hw 42 rfl) (own_w hw 41 rfl) (rm_sLen_0 l Z a0 hw [] aS tA kA zCS h0 n0 Z0 O0 E_0 F0v F0c R_A S_CS P_CS) (own_w hw 43 rfl) (own_w hw 7 rfl) e0 E_0 (by decide) own_pd9 d7_1 rfl rfl rfl (fun T1 L1 v1 X1 hQ1 => ?_)
  obtain ⟨rfl, Nq1, eq1⟩ := hQ1
  have N1 := Fr.app N0 Nq1
  show gs T1 m 4 #[vr a1, vr aS, .unset, .unset] [(.int 0)]
  refine oaloadN X1 hx hby d7_4 rfl rfl ?_
  obtain ⟨T2, X2, e2, st2⟩ := getF X1 hx hZ hown (host := "") (Or.inl (own_w hw 49 rfl)) Via.refl eq1 (Fld.ext O0.2 Fw) (g := (mkF m 5 #[vr a1, vr aS, .unset, .unset] [(.ref a1), (.int 0)])) rfl rfl (hb hby d7_5)
  refine own_st st2 ?_
  show gs T2 m 8 #[vr a1, vr aS, .unset, .unset] [(.int 1), (.int 0)]
  refine own_st (fun _ kS => XS.imul X2.here hx rfl (hb hby d7_8) rfl kS) ?_
  show gs T2 m 9 #[vr a1, vr aS, .unset, .unset] [(.int 0)]
  obtain ⟨T3, h3, k3, X3, e3, E3, A3, st3⟩ := newP X2 hx hZ (own_w hw 23 rfl) e2 (g := (mkF m 9 #[vr a1, vr aS, .unset, .unset] [(.int 0)])) rfl (hb hby d7_9) rfl (by decide) (cap := 0) (by decide) (by decide) (by decide) (by decide)
  obtain ⟨b3, g3⟩ : ∃ z, z = h0.size := ⟨_, rfl⟩
  have ne_aS_b3 : aS ≠ b3 := Nat.ne_of_lt (Nat.lt_of_lt_of_eq E_0.lt g3.symm)
  have ne_tA_b3 : tA ≠ b3 := Nat.ne_of_lt (Nat.lt_of_lt_of_eq R_A.lt g3.symm)
  have ge_b3 : n0 ≤ b3 := Nat.le_trans Z0 (Nat.le_of_eq g3.symm)
  have sz_b3 : h0.size ≤ b3 := Nat.le_trans K0.1 (Nat.le_of_eq g3.symm)
  rw [← g3] at A3 st3
  have K3 := K0.ext E3
  have O3 := O0.ext E3
  have R3 : Arv Z h3 b3 k3 .byte (0 : Int32) [] (.int 0) := (Arv.new A3 (by decide)).pad (pad_rep [] (.int 0) 0)
  refine own_st st3 ?_
  show gs T3 m 11 #[vr a1, vr aS, .unset, .unset] [(.ref b3)]
  refine own_st (fun _ kS => XS.astoreN X3.here hx rfl (hb hby d7_11) rfl rfl (l' := #[vr a1, vr aS, vr b3, .unset]) rfl kS) ?_
  refine oiconst X3 hx hby d7_12 ?_
  refine own_st (fun _ kS => XS.istoreN X3.here hx rfl (hb hby d7_13) rfl (l' := #[vr a1, vr aS, vr b3, vi 0]) rfl kS) ?_
  refine oiloadN X3 hx hby d7_14 rfl ?_
  refine oaloadN X3 hx hby d7_15 rfl rfl ?_
  refine oV 1 X3 hx hZ hby hml hown (own_w hw 39 rfl) (own_w hw 40 rfl) (own_w hw 42 rfl) (own_w hw 41 rfl) (rm_sLen_0 l Z a0 hw [] aS tA kA zCS h3 n0 (Nat.le_trans Z0 E3.1) O3 (Exa.ext E3 E_0) (Fld.ext E3 F0v) (Fld.ext E3 F0c) (Arv.ext R_A E3) S_CS P_CS) (own_w hw 43 rfl) (own_w hw 7 rfl) e3 (Exa.ext E3 E_0) (by decide) own_pd9 d7_16 rfl rfl rfl (fun T4 L4 v4 X4 hQ4 => ?_)
  obtain ⟨rfl, Nq4, eq4⟩ := hQ4
  have N4 := Fr.app N1 Nq4
  show gs T4 m 19 #[vr a1, vr aS, vr b3, vi 0] [(.int 0), (.int 0)]
  refine own_st (fun _ kS => XS.icmpYes X4.here hx rfl (pc0 := 19) (pc' := 65) rfl (hb hby d7_19) rfl (flt (by decide : ¬ ((0 : Int32) < (0 : Int32)))).2.1 (by decide) (by decide) kS) ?_
  show gs T4 m 65 #[vr a1, vr aS, vr b3, vi 0] []
  refine oaloadN X4 hx hby d7_65 rfl rfl ?_
  exact own_retA X4 hx hlk hret rfl rfl (hb hby d7_66) (by decide) (by decide) (by rw [eq4]; exact ⟨b3, k3, ⟨rfl, N4, K3, sz_b3, R3⟩⟩)
theorem ef_enc_0_4_0 (m : MethodId) (x0 : Addr) (x1 : Addr) : entryFrame m #[(.ref x0), (.ref x1)] 4 = mkF m 0 #[.val (.ref x0), .val (.ref x1), .unset, .unset] [] := by first | (simp [entryFrame, mkF, argsToLocals, Value.category]; done) | rfl
def Q_enc_0_4_0 (Z : State) (a1 : Addr) (aS : Addr) (tA : Addr) (kA : ClassId) (zCS : Int32) (fm : Value) (h0 : Heap) (n0 : Nat) (v : Option Value) (h : Heap) (L : List Loc) : Prop := ∃ tN : Addr, ∃ kN : ClassId, v = some (.ref tN) ∧ Fr n0 L ∧ Keep h0 h [] ∧ h0.size ≤ tN ∧ Arv Z h tN kN .byte (0 : Int32) [] (.int 0)
theorem rm_enc_0_4_0 (l : Launch) (Z : State) (a0 : Array Value) (hw : HW a0 Z) (ws : List Jvm.Cond) (a1 : Addr) (aS : Addr) (tA : Addr) (kA : ClassId) (zCS : Int32) (fm : Value) (h0 : Heap) (n0 : Nat) (Z0 : n0 ≤ h0.size) (O0 : Old Z n0 h0) (Fw : fk10 Z Z.heap a1 (.int 4)) (E_0 : ek12 Z h0 aS) (F0v : fk9 Z h0 aS (.ref tA)) (F0c : fk8 Z h0 aS (.int 0)) (R_A : Arv Z h0 tA kA .byte (0 : Int32) [] (.int 0)) (S_CS : sk0 Z Z.heap (.int zCS)) (P_CS : ¬ zCS = 0) (S_SF : sk1 Z Z.heap fm) (P_SF : fm.isRef = true) :
    M12 l ws (rmk 2 1 0 26) Z #[(.ref a1), (.ref aS)] h0 (Q_enc_0_4_0 Z a1 aS tA kA zCS fm h0 n0) := by
  refine own_go "com/example/provenir/provenir/TextEncoding" rfl (plainFor_of_name pn_7) (fun m => ef_enc_0_4_0 m a1 aS) (fun p e s m below meth c s₁ hx hby hml hown hnm hlk hret hZ X0 e0 => ?_)
  have N0 := Fr.nil n0
  have K0 := Keep.refl h0 []
  show gs s₁ m 0 #[vr a1, vr aS, .unset, .unset] []
  refine oaloadN X0 hx hby d7_0 rfl rfl ?_
  refine oV 0 X0 hx hZ hby hml hown (own_w hw 39 rfl) (own_w hw 40 rfl) (own_w hw 42 rfl) (own_w hw 41 rfl) (rm_sLen_0 l Z a0 hw [] aS tA kA zCS h0 n0 Z0 O0 E_0 F0v F0c R_A S_CS P_CS) (own_w hw 43 rfl) (own_w hw 7 rfl) e0 E_0 (by decide) own_pd9 d7_1 rfl rfl rfl (fun T1 L1 v1 X1 hQ1 => ?_)
  obtain ⟨rfl, Nq1, eq1⟩ := hQ1
  have N1 := Fr.app N0 Nq1
  show gs T1 m 4 #[vr a1, vr aS, .unset, .unset] [(.int 0)]
  refine oaloadN X1 hx hby d7_4 rfl rfl ?_
  obtain ⟨T2, X2, e2, st2⟩ := getF X1 hx hZ hown (host := "") (Or.inl (own_w hw 49 rfl)) Via.refl eq1 (Fld.ext O0.2 Fw) (g := (mkF m 5 #[vr a1, vr aS, .unset, .unset] [(.ref a1), (.int 0)])) rfl rfl (hb hby d7_5)
  refine own_st st2 ?_
  show gs T2 m 8 #[vr a1, vr aS, .unset, .unset] [(.int 4), (.int 0)]
  refine own_st (fun _ kS => XS.imul X2.here hx rfl (hb hby d7_8) rfl kS) ?_
  show gs T2 m 9 #[vr a1, vr aS, .unset, .unset] [(.int 0)]
  obtain ⟨T3, h3, k3, X3, e3, E3, A3, st3⟩ := newP X2 hx hZ (own_w hw 23 rfl) e2 (g := (mkF m 9 #[vr a1, vr aS, .unset, .unset] [(.int 0)])) rfl (hb hby d7_9) rfl (by decide) (cap := 0) (by decide) (by decide) (by decide) (by decide)
  obtain ⟨b3, g3⟩ : ∃ z, z = h0.size := ⟨_, rfl⟩
  have ne_aS_b3 : aS ≠ b3 := Nat.ne_of_lt (Nat.lt_of_lt_of_eq E_0.lt g3.symm)
  have ne_tA_b3 : tA ≠ b3 := Nat.ne_of_lt (Nat.lt_of_lt_of_eq R_A.lt g3.symm)
  have ge_b3 : n0 ≤ b3 := Nat.le_trans Z0 (Nat.le_of_eq g3.symm)
  have sz_b3 : h0.size ≤ b3 := Nat.le_trans K0.1 (Nat.le_of_eq g3.symm)
  rw [← g3] at A3 st3
  have K3 := K0.ext E3
  have O3 := O0.ext E3
  have R3 : Arv Z h3 b3 k3 .byte (0 : Int32) [] (.int 0) := (Arv.new A3 (by decide)).pad (pad_rep [] (.int 0) 0)
  refine own_st st3 ?_
  show gs T3 m 11 #[vr a1, vr aS, .unset, .unset] [(.ref b3)]
  refine own_st (fun _ kS => XS.astoreN X3.here hx rfl (hb hby d7_11) rfl rfl (l' := #[vr a1, vr aS, vr b3, .unset]) rfl kS) ?_
  refine oiconst X3 hx hby d7_12 ?_
  refine own_st (fun _ kS => XS.istoreN X3.here hx rfl (hb hby d7_13) rfl (l' := #[vr a1, vr aS, vr b3, vi 0]) rfl kS) ?_
  refine oiloadN X3 hx hby d7_14 rfl ?_
  refine oaloadN X3 hx hby d7_15 rfl rfl ?_
  refine oV 1 X3 hx hZ hby hml hown (own_w hw 39 rfl) (own_w hw 40 rfl) (own_w hw 42 rfl) (own_w hw 41 rfl) (rm_sLen_0 l Z a0 hw [] aS tA kA zCS h3 n0 (Nat.le_trans Z0 E3.1) O3 (Exa.ext E3 E_0) (Fld.ext E3 F0v) (Fld.ext E3 F0c) (Arv.ext R_A E3) S_CS P_CS) (own_w hw 43 rfl) (own_w hw 7 rfl) e3 (Exa.ext E3 E_0) (by decide) own_pd9 d7_16 rfl rfl rfl (fun T4 L4 v4 X4 hQ4 => ?_)
  obtain ⟨rfl, Nq4, eq4⟩ := hQ4
  have N4 := Fr.app N1 Nq4
  show gs T4 m 19 #[vr a1, vr aS, vr b3, vi 0] [(.int 0), (.int 0)]
  refine own_st (fun _ kS => XS.icmpYes X4.here hx rfl (pc0 := 19) (pc' := 65) rfl (hb hby d7_19) rfl (flt (by decide : ¬ ((0 : Int32) < (0 : Int32)))).2.1 (by decide) (by decide) kS) ?_
  show gs T4 m 65 #[vr a1, vr aS, vr b3, vi 0] []
  refine oaloadN X4 hx hby d7_65 rfl rfl ?_
  exact own_retA X4 hx hlk hret rfl rfl (hb hby d7_66) (by decide) (by decide) (by rw [eq4]; exact ⟨b3, k3, ⟨rfl, N4, K3, sz_b3, R3⟩⟩)
theorem ef_enc_0_4_1 (m : MethodId) (x0 : Addr) (x1 : Addr) : entryFrame m #[(.ref x0), (.ref x1)] 4 = mkF m 0 #[.val (.ref x0), .val (.ref x1), .unset, .unset] [] := by first | (simp [entryFrame, mkF, argsToLocals, Value.category]; done) | rfl
def Q_enc_0_4_1 (Z : State) (a1 : Addr) (aS : Addr) (tA : Addr) (kA : ClassId) (zCS : Int32) (fm : Value) (h0 : Heap) (n0 : Nat) (v : Option Value) (h : Heap) (L : List Loc) : Prop := ∃ tN : Addr, ∃ kN : ClassId, v = some (.ref tN) ∧ Fr n0 L ∧ Keep h0 h [] ∧ h0.size ≤ tN ∧ Arv Z h tN kN .byte (0 : Int32) [] (.int 0)
theorem rm_enc_0_4_1 (l : Launch) (Z : State) (a0 : Array Value) (hw : HW a0 Z) (ws : List Jvm.Cond) (a1 : Addr) (aS : Addr) (tA : Addr) (kA : ClassId) (zCS : Int32) (fm : Value) (h0 : Heap) (n0 : Nat) (Z0 : n0 ≤ h0.size) (O0 : Old Z n0 h0) (Fw : fk10 Z Z.heap a1 (.int 4)) (E_0 : ek12 Z h0 aS) (F0v : fk9 Z h0 aS (.ref tA)) (F0c : fk8 Z h0 aS (.int 0)) (R_A : Arv Z h0 tA kA .byte (0 : Int32) [] (.int 0)) (S_CS : sk0 Z Z.heap (.int zCS)) (P_CS : ¬ zCS = 0) (S_SF : sk1 Z Z.heap fm) (P_SF : fm.isRef = true) :
    M12 l ws (rmk 2 1 0 26) Z #[(.ref a1), (.ref aS)] h0 (Q_enc_0_4_1 Z a1 aS tA kA zCS fm h0 n0) := by
  refine own_go "com/example/provenir/provenir/TextEncoding" rfl (plainFor_of_name pn_7) (fun m => ef_enc_0_4_1 m a1 aS) (fun p e s m below meth c s₁ hx hby hml hown hnm hlk hret hZ X0 e0 => ?_)
  have N0 := Fr.nil n0
  have K0 := Keep.refl h0 []
  show gs s₁ m 0 #[vr a1, vr aS, .unset, .unset] []
  refine oaloadN X0 hx hby d7_0 rfl rfl ?_
  refine oV 0 X0 hx hZ hby hml hown (own_w hw 39 rfl) (own_w hw 40 rfl) (own_w hw 42 rfl) (own_w hw 41 rfl) (rm_sLen_0 l Z a0 hw [] aS tA kA zCS h0 n0 Z0 O0 E_0 F0v F0c R_A S_CS P_CS) (own_w hw 43 rfl) (own_w hw 7 rfl) e0 E_0 (by decide) own_pd9 d7_1 rfl rfl rfl (fun T1 L1 v1 X1 hQ1 => ?_)
  obtain ⟨rfl, Nq1, eq1⟩ := hQ1
  have N1 := Fr.app N0 Nq1
  show gs T1 m 4 #[vr a1, vr aS, .unset, .unset] [(.int 0)]
  refine oaloadN X1 hx hby d7_4 rfl rfl ?_
  obtain ⟨T2, X2, e2, st2⟩ := getF X1 hx hZ hown (host := "") (Or.inl (own_w hw 49 rfl)) Via.refl eq1 (Fld.ext O0.2 Fw) (g := (mkF m 5 #[vr a1, vr aS, .unset, .unset] [(.ref a1), (.int 0)])) rfl rfl (hb hby d7_5)
  refine own_st st2 ?_
  show gs T2 m 8 #[vr a1, vr aS, .unset, .unset] [(.int 4), (.int 0)]
  refine own_st (fun _ kS => XS.imul X2.here hx rfl (hb hby d7_8) rfl kS) ?_
  show gs T2 m 9 #[vr a1, vr aS, .unset, .unset] [(.int 0)]
  obtain ⟨T3, h3, k3, X3, e3, E3, A3, st3⟩ := newP X2 hx hZ (own_w hw 23 rfl) e2 (g := (mkF m 9 #[vr a1, vr aS, .unset, .unset] [(.int 0)])) rfl (hb hby d7_9) rfl (by decide) (cap := 0) (by decide) (by decide) (by decide) (by decide)
  obtain ⟨b3, g3⟩ : ∃ z, z = h0.size := ⟨_, rfl⟩
  have ne_aS_b3 : aS ≠ b3 := Nat.ne_of_lt (Nat.lt_of_lt_of_eq E_0.lt g3.symm)
  have ne_tA_b3 : tA ≠ b3 := Nat.ne_of_lt (Nat.lt_of_lt_of_eq R_A.lt g3.symm)
  have ge_b3 : n0 ≤ b3 := Nat.le_trans Z0 (Nat.le_of_eq g3.symm)
  have sz_b3 : h0.size ≤ b3 := Nat.le_trans K0.1 (Nat.le_of_eq g3.symm)
  rw [← g3] at A3 st3
  have K3 := K0.ext E3
  have O3 := O0.ext E3
  have R3 : Arv Z h3 b3 k3 .byte (0 : Int32) [] (.int 0) := (Arv.new A3 (by decide)).pad (pad_rep [] (.int 0) 0)
  refine own_st st3 ?_
  show gs T3 m 11 #[vr a1, vr aS, .unset, .unset] [(.ref b3)]
  refine own_st (fun _ kS => XS.astoreN X3.here hx rfl (hb hby d7_11) rfl rfl (l' := #[vr a1, vr aS, vr b3, .unset]) rfl kS) ?_
  refine oiconst X3 hx hby d7_12 ?_
  refine own_st (fun _ kS => XS.istoreN X3.here hx rfl (hb hby d7_13) rfl (l' := #[vr a1, vr aS, vr b3, vi 0]) rfl kS) ?_
  refine oiloadN X3 hx hby d7_14 rfl ?_
  refine oaloadN X3 hx hby d7_15 rfl rfl ?_
  refine oV 1 X3 hx hZ hby hml hown (own_w hw 39 rfl) (own_w hw 40 rfl) (own_w hw 42 rfl) (own_w hw 41 rfl) (rm_sLen_0 l Z a0 hw [] aS tA kA zCS h3 n0 (Nat.le_trans Z0 E3.1) O3 (Exa.ext E3 E_0) (Fld.ext E3 F0v) (Fld.ext E3 F0c) (Arv.ext R_A E3) S_CS P_CS) (own_w hw 43 rfl) (own_w hw 7 rfl) e3 (Exa.ext E3 E_0) (by decide) own_pd9 d7_16 rfl rfl rfl (fun T4 L4 v4 X4 hQ4 => ?_)
  obtain ⟨rfl, Nq4, eq4⟩ := hQ4
  have N4 := Fr.app N1 Nq4
  show gs T4 m 19 #[vr a1, vr aS, vr b3, vi 0] [(.int 0), (.int 0)]
  refine own_st (fun _ kS => XS.icmpYes X4.here hx rfl (pc0 := 19) (pc' := 65) rfl (hb hby d7_19) rfl (flt (by decide : ¬ ((0 : Int32) < (0 : Int32)))).2.1 (by decide) (by decide) kS) ?_
  show gs T4 m 65 #[vr a1, vr aS, vr b3, vi 0] []
  refine oaloadN X4 hx hby d7_65 rfl rfl ?_
  exact own_retA X4 hx hlk hret rfl rfl (hb hby d7_66) (by decide) (by decide) (by rw [eq4]; exact ⟨b3, k3, ⟨rfl, N4, K3, sz_b3, R3⟩⟩)
theorem ef_enc_0_2_0 (m : MethodId) (x0 : Addr) (x1 : Addr) : entryFrame m #[(.ref x0), (.ref x1)] 4 = mkF m 0 #[.val (.ref x0), .val (.ref x1), .unset, .unset] [] := by first | (simp [entryFrame, mkF, argsToLocals, Value.category]; done) | rfl
def Q_enc_0_2_0 (Z : State) (a1 : Addr) (aS : Addr) (tA : Addr) (kA : ClassId) (zCS : Int32) (fm : Value) (h0 : Heap) (n0 : Nat) (v : Option Value) (h : Heap) (L : List Loc) : Prop := ∃ tN : Addr, ∃ kN : ClassId, v = some (.ref tN) ∧ Fr n0 L ∧ Keep h0 h [] ∧ h0.size ≤ tN ∧ Arv Z h tN kN .byte (0 : Int32) [] (.int 0)
theorem rm_enc_0_2_0 (l : Launch) (Z : State) (a0 : Array Value) (hw : HW a0 Z) (ws : List Jvm.Cond) (a1 : Addr) (aS : Addr) (tA : Addr) (kA : ClassId) (zCS : Int32) (fm : Value) (h0 : Heap) (n0 : Nat) (Z0 : n0 ≤ h0.size) (O0 : Old Z n0 h0) (Fw : fk10 Z Z.heap a1 (.int 2)) (E_0 : ek12 Z h0 aS) (F0v : fk9 Z h0 aS (.ref tA)) (F0c : fk8 Z h0 aS (.int 0)) (R_A : Arv Z h0 tA kA .byte (0 : Int32) [] (.int 0)) (S_CS : sk0 Z Z.heap (.int zCS)) (P_CS : ¬ zCS = 0) (S_SF : sk1 Z Z.heap fm) (P_SF : fm.isRef = true) :
    M12 l ws (rmk 2 1 0 26) Z #[(.ref a1), (.ref aS)] h0 (Q_enc_0_2_0 Z a1 aS tA kA zCS fm h0 n0) := by
  refine own_go "com/example/provenir/provenir/TextEncoding" rfl (plainFor_of_name pn_7) (fun m => ef_enc_0_2_0 m a1 aS) (fun p e s m below meth c s₁ hx hby hml hown hnm hlk hret hZ X0 e0 => ?_)
  have N0 := Fr.nil n0
  have K0 := Keep.refl h0 []
  show gs s₁ m 0 #[vr a1, vr aS, .unset, .unset] []
  refine oaloadN X0 hx hby d7_0 rfl rfl ?_
  refine oV 0 X0 hx hZ hby hml hown (own_w hw 39 rfl) (own_w hw 40 rfl) (own_w hw 42 rfl) (own_w hw 41 rfl) (rm_sLen_0 l Z a0 hw [] aS tA kA zCS h0 n0 Z0 O0 E_0 F0v F0c R_A S_CS P_CS) (own_w hw 43 rfl) (own_w hw 7 rfl) e0 E_0 (by decide) own_pd9 d7_1 rfl rfl rfl (fun T1 L1 v1 X1 hQ1 => ?_)
  obtain ⟨rfl, Nq1, eq1⟩ := hQ1
  have N1 := Fr.app N0 Nq1
  show gs T1 m 4 #[vr a1, vr aS, .unset, .unset] [(.int 0)]
  refine oaloadN X1 hx hby d7_4 rfl rfl ?_
  obtain ⟨T2, X2, e2, st2⟩ := getF X1 hx hZ hown (host := "") (Or.inl (own_w hw 49 rfl)) Via.refl eq1 (Fld.ext O0.2 Fw) (g := (mkF m 5 #[vr a1, vr aS, .unset, .unset] [(.ref a1), (.int 0)])) rfl rfl (hb hby d7_5)
  refine own_st st2 ?_
  show gs T2 m 8 #[vr a1, vr aS, .unset, .unset] [(.int 2), (.int 0)]
  refine own_st (fun _ kS => XS.imul X2.here hx rfl (hb hby d7_8) rfl kS) ?_
  show gs T2 m 9 #[vr a1, vr aS, .unset, .unset] [(.int 0)]
  obtain ⟨T3, h3, k3, X3, e3, E3, A3, st3⟩ := newP X2 hx hZ (own_w hw 23 rfl) e2 (g := (mkF m 9 #[vr a1, vr aS, .unset, .unset] [(.int 0)])) rfl (hb hby d7_9) rfl (by decide) (cap := 0) (by decide) (by decide) (by decide) (by decide)
  obtain ⟨b3, g3⟩ : ∃ z, z = h0.size := ⟨_, rfl⟩
  have ne_aS_b3 : aS ≠ b3 := Nat.ne_of_lt (Nat.lt_of_lt_of_eq E_0.lt g3.symm)
  have ne_tA_b3 : tA ≠ b3 := Nat.ne_of_lt (Nat.lt_of_lt_of_eq R_A.lt g3.symm)
  have ge_b3 : n0 ≤ b3 := Nat.le_trans Z0 (Nat.le_of_eq g3.symm)
  have sz_b3 : h0.size ≤ b3 := Nat.le_trans K0.1 (Nat.le_of_eq g3.symm)
  rw [← g3] at A3 st3
  have K3 := K0.ext E3
  have O3 := O0.ext E3
  have R3 : Arv Z h3 b3 k3 .byte (0 : Int32) [] (.int 0) := (Arv.new A3 (by decide)).pad (pad_rep [] (.int 0) 0)
  refine own_st st3 ?_
  show gs T3 m 11 #[vr a1, vr aS, .unset, .unset] [(.ref b3)]
  refine own_st (fun _ kS => XS.astoreN X3.here hx rfl (hb hby d7_11) rfl rfl (l' := #[vr a1, vr aS, vr b3, .unset]) rfl kS) ?_
  refine oiconst X3 hx hby d7_12 ?_
  refine own_st (fun _ kS => XS.istoreN X3.here hx rfl (hb hby d7_13) rfl (l' := #[vr a1, vr aS, vr b3, vi 0]) rfl kS) ?_
  refine oiloadN X3 hx hby d7_14 rfl ?_
  refine oaloadN X3 hx hby d7_15 rfl rfl ?_
  refine oV 1 X3 hx hZ hby hml hown (own_w hw 39 rfl) (own_w hw 40 rfl) (own_w hw 42 rfl) (own_w hw 41 rfl) (rm_sLen_0 l Z a0 hw [] aS tA kA zCS h3 n0 (Nat.le_trans Z0 E3.1) O3 (Exa.ext E3 E_0) (Fld.ext E3 F0v) (Fld.ext E3 F0c) (Arv.ext R_A E3) S_CS P_CS) (own_w hw 43 rfl) (own_w hw 7 rfl) e3 (Exa.ext E3 E_0) (by decide) own_pd9 d7_16 rfl rfl rfl (fun T4 L4 v4 X4 hQ4 => ?_)
  obtain ⟨rfl, Nq4, eq4⟩ := hQ4
  have N4 := Fr.app N1 Nq4
  show gs T4 m 19 #[vr a1, vr aS, vr b3, vi 0] [(.int 0), (.int 0)]
  refine own_st (fun _ kS => XS.icmpYes X4.here hx rfl (pc0 := 19) (pc' := 65) rfl (hb hby d7_19) rfl (flt (by decide : ¬ ((0 : Int32) < (0 : Int32)))).2.1 (by decide) (by decide) kS) ?_
  show gs T4 m 65 #[vr a1, vr aS, vr b3, vi 0] []
  refine oaloadN X4 hx hby d7_65 rfl rfl ?_
  exact own_retA X4 hx hlk hret rfl rfl (hb hby d7_66) (by decide) (by decide) (by rw [eq4]; exact ⟨b3, k3, ⟨rfl, N4, K3, sz_b3, R3⟩⟩)
theorem ef_enc_0_2_1 (m : MethodId) (x0 : Addr) (x1 : Addr) : entryFrame m #[(.ref x0), (.ref x1)] 4 = mkF m 0 #[.val (.ref x0), .val (.ref x1), .unset, .unset] [] := by first | (simp [entryFrame, mkF, argsToLocals, Value.category]; done) | rfl
def Q_enc_0_2_1 (Z : State) (a1 : Addr) (aS : Addr) (tA : Addr) (kA : ClassId) (zCS : Int32) (fm : Value) (h0 : Heap) (n0 : Nat) (v : Option Value) (h : Heap) (L : List Loc) : Prop := ∃ tN : Addr, ∃ kN : ClassId, v = some (.ref tN) ∧ Fr n0 L ∧ Keep h0 h [] ∧ h0.size ≤ tN ∧ Arv Z h tN kN .byte (0 : Int32) [] (.int 0)
theorem rm_enc_0_2_1 (l : Launch) (Z : State) (a0 : Array Value) (hw : HW a0 Z) (ws : List Jvm.Cond) (a1 : Addr) (aS : Addr) (tA : Addr) (kA : ClassId) (zCS : Int32) (fm : Value) (h0 : Heap) (n0 : Nat) (Z0 : n0 ≤ h0.size) (O0 : Old Z n0 h0) (Fw : fk10 Z Z.heap a1 (.int 2)) (E_0 : ek12 Z h0 aS) (F0v : fk9 Z h0 aS (.ref tA)) (F0c : fk8 Z h0 aS (.int 0)) (R_A : Arv Z h0 tA kA .byte (0 : Int32) [] (.int 0)) (S_CS : sk0 Z Z.heap (.int zCS)) (P_CS : ¬ zCS = 0) (S_SF : sk1 Z Z.heap fm) (P_SF : fm.isRef = true) :
    M12 l ws (rmk 2 1 0 26) Z #[(.ref a1), (.ref aS)] h0 (Q_enc_0_2_1 Z a1 aS tA kA zCS fm h0 n0) := by
  refine own_go "com/example/provenir/provenir/TextEncoding" rfl (plainFor_of_name pn_7) (fun m => ef_enc_0_2_1 m a1 aS) (fun p e s m below meth c s₁ hx hby hml hown hnm hlk hret hZ X0 e0 => ?_)
  have N0 := Fr.nil n0
  have K0 := Keep.refl h0 []
  show gs s₁ m 0 #[vr a1, vr aS, .unset, .unset] []
  refine oaloadN X0 hx hby d7_0 rfl rfl ?_
  refine oV 0 X0 hx hZ hby hml hown (own_w hw 39 rfl) (own_w hw 40 rfl) (own_w hw 42 rfl) (own_w hw 41 rfl) (rm_sLen_0 l Z a0 hw [] aS tA kA zCS h0 n0 Z0 O0 E_0 F0v F0c R_A S_CS P_CS) (own_w hw 43 rfl) (own_w hw 7 rfl) e0 E_0 (by decide) own_pd9 d7_1 rfl rfl rfl (fun T1 L1 v1 X1 hQ1 => ?_)
  obtain ⟨rfl, Nq1, eq1⟩ := hQ1
  have N1 := Fr.app N0 Nq1
  show gs T1 m 4 #[vr a1, vr aS, .unset, .unset] [(.int 0)]
  refine oaloadN X1 hx hby d7_4 rfl rfl ?_
  obtain ⟨T2, X2, e2, st2⟩ := getF X1 hx hZ hown (host := "") (Or.inl (own_w hw 49 rfl)) Via.refl eq1 (Fld.ext O0.2 Fw) (g := (mkF m 5 #[vr a1, vr aS, .unset, .unset] [(.ref a1), (.int 0)])) rfl rfl (hb hby d7_5)
  refine own_st st2 ?_
  show gs T2 m 8 #[vr a1, vr aS, .unset, .unset] [(.int 2), (.int 0)]
  refine own_st (fun _ kS => XS.imul X2.here hx rfl (hb hby d7_8) rfl kS) ?_
  show gs T2 m 9 #[vr a1, vr aS, .unset, .unset] [(.int 0)]
  obtain ⟨T3, h3, k3, X3, e3, E3, A3, st3⟩ := newP X2 hx hZ (own_w hw 23 rfl) e2 (g := (mkF m 9 #[vr a1, vr aS, .unset, .unset] [(.int 0)])) rfl (hb hby d7_9) rfl (by decide) (cap := 0) (by decide) (by decide) (by decide) (by decide)
  obtain ⟨b3, g3⟩ : ∃ z, z = h0.size := ⟨_, rfl⟩
  have ne_aS_b3 : aS ≠ b3 := Nat.ne_of_lt (Nat.lt_of_lt_of_eq E_0.lt g3.symm)
  have ne_tA_b3 : tA ≠ b3 := Nat.ne_of_lt (Nat.lt_of_lt_of_eq R_A.lt g3.symm)
  have ge_b3 : n0 ≤ b3 := Nat.le_trans Z0 (Nat.le_of_eq g3.symm)
  have sz_b3 : h0.size ≤ b3 := Nat.le_trans K0.1 (Nat.le_of_eq g3.symm)
  rw [← g3] at A3 st3
  have K3 := K0.ext E3
  have O3 := O0.ext E3
  have R3 : Arv Z h3 b3 k3 .byte (0 : Int32) [] (.int 0) := (Arv.new A3 (by decide)).pad (pad_rep [] (.int 0) 0)
  refine own_st st3 ?_
  show gs T3 m 11 #[vr a1, vr aS, .unset, .unset] [(.ref b3)]
  refine own_st (fun _ kS => XS.astoreN X3.here hx rfl (hb hby d7_11) rfl rfl (l' := #[vr a1, vr aS, vr b3, .unset]) rfl kS) ?_
  refine oiconst X3 hx hby d7_12 ?_
  refine own_st (fun _ kS => XS.istoreN X3.here hx rfl (hb hby d7_13) rfl (l' := #[vr a1, vr aS, vr b3, vi 0]) rfl kS) ?_
  refine oiloadN X3 hx hby d7_14 rfl ?_
  refine oaloadN X3 hx hby d7_15 rfl rfl ?_
  refine oV 1 X3 hx hZ hby hml hown (own_w hw 39 rfl) (own_w hw 40 rfl) (own_w hw 42 rfl) (own_w hw 41 rfl) (rm_sLen_0 l Z a0 hw [] aS tA kA zCS h3 n0 (Nat.le_trans Z0 E3.1) O3 (Exa.ext E3 E_0) (Fld.ext E3 F0v) (Fld.ext E3 F0c) (Arv.ext R_A E3) S_CS P_CS) (own_w hw 43 rfl) (own_w hw 7 rfl) e3 (Exa.ext E3 E_0) (by decide) own_pd9 d7_16 rfl rfl rfl (fun T4 L4 v4 X4 hQ4 => ?_)
  obtain ⟨rfl, Nq4, eq4⟩ := hQ4
  have N4 := Fr.app N1 Nq4
  show gs T4 m 19 #[vr a1, vr aS, vr b3, vi 0] [(.int 0), (.int 0)]
  refine own_st (fun _ kS => XS.icmpYes X4.here hx rfl (pc0 := 19) (pc' := 65) rfl (hb hby d7_19) rfl (flt (by decide : ¬ ((0 : Int32) < (0 : Int32)))).2.1 (by decide) (by decide) kS) ?_
  show gs T4 m 65 #[vr a1, vr aS, vr b3, vi 0] []
  refine oaloadN X4 hx hby d7_65 rfl rfl ?_
  exact own_retA X4 hx hlk hret rfl rfl (hb hby d7_66) (by decide) (by decide) (by rw [eq4]; exact ⟨b3, k3, ⟨rfl, N4, K3, sz_b3, R3⟩⟩)
theorem own_pd10 : parseMethodDescriptor "(I)C" = some ⟨[.int], some .char⟩ := by decide +kernel
theorem ef_enc_1_1_0 (m : MethodId) (x0 : Addr) (x1 : Addr) : entryFrame m #[(.ref x0), (.ref x1)] 4 = mkF m 0 #[.val (.ref x0), .val (.ref x1), .unset, .unset] [] := by first | (simp [entryFrame, mkF, argsToLocals, Value.category]; done) | rfl
def Q_enc_1_1_0 (Z : State) (a1 : Addr) (aS : Addr) (tA : Addr) (kA : ClassId) (y0 : Int32) (zCS : Int32) (fm : Value) (h0 : Heap) (n0 : Nat) (v : Option Value) (h : Heap) (L : List Loc) : Prop := ∃ tN : Addr, ∃ kN : ClassId, v = some (.ref tN) ∧ Fr n0 L ∧ Keep h0 h [] ∧ h0.size ≤ tN ∧ Arv Z h tN kN .byte (1 : Int32) [(.int (nar .byte ((own_lat y0).toInt8.toInt32)))] (.int 0)
theorem rm_enc_1_1_0 (l : Launch) (Z : State) (a0 : Array Value) (hw : HW a0 Z) (ws : List Jvm.Cond) (a1 : Addr) (aS : Addr) (tA : Addr) (kA : ClassId) (y0 : Int32) (zCS : Int32) (fm : Value) (h0 : Heap) (n0 : Nat) (Z0 : n0 ≤ h0.size) (O0 : Old Z n0 h0) (Fw : fk10 Z Z.heap a1 (.int 1)) (Fl : fk11 Z Z.heap a1 (.int 0)) (E_0 : ek12 Z h0 aS) (F0v : fk9 Z h0 aS (.ref tA)) (F0c : fk8 Z h0 aS (.int 0)) (R_A : Arv Z h0 tA kA .byte (1 : Int32) [(.int y0)] (.int 0)) (S_CS : sk0 Z Z.heap (.int zCS)) (P_CS : ¬ zCS = 0) (S_SF : sk1 Z Z.heap fm) (P_SF : fm.isRef = true) :
    M12 l ws (rmk 4 1 1 55) Z #[(.ref a1), (.ref aS)] h0 (Q_enc_1_1_0 Z a1 aS tA kA y0 zCS fm h0 n0) := by
  refine own_go "com/example/provenir/provenir/TextEncoding" rfl (plainFor_of_name pn_7) (fun m => ef_enc_1_1_0 m a1 aS) (fun p e s m below meth c s₁ hx hby hml hown hnm hlk hret hZ X0 e0 => ?_)
  have N0 := Fr.nil n0
  have K0 := Keep.refl h0 []
  show gs s₁ m 0 #[vr a1, vr aS, .unset, .unset] []
  refine oaloadN X0 hx hby d7_0 rfl rfl ?_
  refine oV 0 X0 hx hZ hby hml hown (own_w hw 39 rfl) (own_w hw 40 rfl) (own_w hw 42 rfl) (own_w hw 41 rfl) (rm_sLen_1 l Z a0 hw [] aS tA kA y0 zCS h0 n0 Z0 O0 E_0 F0v F0c R_A S_CS P_CS) (own_w hw 43 rfl) (own_w hw 7 rfl) e0 E_0 (by decide) own_pd9 d7_1 rfl rfl rfl (fun T1 L1 v1 X1 hQ1 => ?_)
  obtain ⟨rfl, Nq1, eq1⟩ := hQ1
  have N1 := Fr.app N0 Nq1
  show gs T1 m 4 #[vr a1, vr aS, .unset, .unset] [(.int 1)]
  refine oaloadN X1 hx hby d7_4 rfl rfl ?_
  obtain ⟨T2, X2, e2, st2⟩ := getF X1 hx hZ hown (host := "") (Or.inl (own_w hw 49 rfl)) Via.refl eq1 (Fld.ext O0.2 Fw) (g := (mkF m 5 #[vr a1, vr aS, .unset, .unset] [(.ref a1), (.int 1)])) rfl rfl (hb hby d7_5)
  refine own_st st2 ?_
  show gs T2 m 8 #[vr a1, vr aS, .unset, .unset] [(.int 1), (.int 1)]
  refine own_st (fun _ kS => XS.imul X2.here hx rfl (hb hby d7_8) rfl kS) ?_
  show gs T2 m 9 #[vr a1, vr aS, .unset, .unset] [(.int 1)]
  obtain ⟨T3, h3, k3, X3, e3, E3, A3, st3⟩ := newP X2 hx hZ (own_w hw 23 rfl) e2 (g := (mkF m 9 #[vr a1, vr aS, .unset, .unset] [(.int 1)])) rfl (hb hby d7_9) rfl (by decide) (cap := 1) (by decide) (by decide) (by decide) (by decide)
  obtain ⟨b3, g3⟩ : ∃ z, z = h0.size := ⟨_, rfl⟩
  have ne_aS_b3 : aS ≠ b3 := Nat.ne_of_lt (Nat.lt_of_lt_of_eq E_0.lt g3.symm)
  have ne_tA_b3 : tA ≠ b3 := Nat.ne_of_lt (Nat.lt_of_lt_of_eq R_A.lt g3.symm)
  have ge_b3 : n0 ≤ b3 := Nat.le_trans Z0 (Nat.le_of_eq g3.symm)
  have sz_b3 : h0.size ≤ b3 := Nat.le_trans K0.1 (Nat.le_of_eq g3.symm)
  rw [← g3] at A3 st3
  have K3 := K0.ext E3
  have O3 := O0.ext E3
  have R3 : Arv Z h3 b3 k3 .byte (1 : Int32) [(.int 0)] (.int 0) := (Arv.new A3 (by decide)).pad (pad_rep [] (.int 0) 1)
  refine own_st st3 ?_
  show gs T3 m 11 #[vr a1, vr aS, .unset, .unset] [(.ref b3)]
  refine own_st (fun _ kS => XS.astoreN X3.here hx rfl (hb hby d7_11) rfl rfl (l' := #[vr a1, vr aS, vr b3, .unset]) rfl kS) ?_
  refine oiconst X3 hx hby d7_12 ?_
  refine own_st (fun _ kS => XS.istoreN X3.here hx rfl (hb hby d7_13) rfl (l' := #[vr a1, vr aS, vr b3, vi 0]) rfl kS) ?_
  refine oiloadN X3 hx hby d7_14 rfl ?_
  refine oaloadN X3 hx hby d7_15 rfl rfl ?_
  refine oV 1 X3 hx hZ hby hml hown (own_w hw 39 rfl) (own_w hw 40 rfl) (own_w hw 42 rfl) (own_w hw 41 rfl) (rm_sLen_1 l Z a0 hw [] aS tA kA y0 zCS h3 n0 (Nat.le_trans Z0 E3.1) O3 (Exa.ext E3 E_0) (Fld.ext E3 F0v) (Fld.ext E3 F0c) (Arv.ext R_A E3) S_CS P_CS) (own_w hw 43 rfl) (own_w hw 7 rfl) e3 (Exa.ext E3 E_0) (by decide) own_pd9 d7_16 rfl rfl rfl (fun T4 L4 v4 X4 hQ4 => ?_)
  obtain ⟨rfl, Nq4, eq4⟩ := hQ4
  have N4 := Fr.app N1 Nq4
  show gs T4 m 19 #[vr a1, vr aS, vr b3, vi 0] [(.int 1), (.int 0)]
  refine own_st (fun _ kS => XS.icmpNo X4.here hx rfl (hb hby d7_19) rfl (tlt (by decide : (0 : Int32) < (1 : Int32))).2.1 kS) ?_
  show gs T4 m 22 #[vr a1, vr aS, vr b3, vi 0] []
  refine oaloadN X4 hx hby d7_22 rfl rfl ?_
  refine oaloadN X4 hx hby d7_23 rfl rfl ?_
  obtain ⟨T5, X5, e5, st5⟩ := getF X4 hx hZ hown (host := "") (Or.inl (own_w hw 51 rfl)) Via.refl eq4 (Fld.ext O3.2 Fl) (g := (mkF m 24 #[vr a1, vr aS, vr b3, vi 0] [(.ref a1), (.ref b3)])) rfl rfl (hb hby d7_24)
  refine own_st st5 ?_
  show gs T5 m 27 #[vr a1, vr aS, vr b3, vi 0] [(.int 0), (.ref b3)]
  refine own_st (fun _ kS => XS.ifYes X5.here hx rfl (pc0 := 27) (pc' := 39) rfl (hb hby d7_27) rfl ((if0 _ _).trans (teq (by decide : (0 : Int32) = (0 : Int32))).1) (by decide) (by decide) kS) ?_
  show gs T5 m 39 #[vr a1, vr aS, vr b3, vi 0] [(.ref b3)]
  refine oiloadN X5 hx hby d7_39 rfl ?_
  refine oaloadN X5 hx hby d7_40 rfl rfl ?_
  obtain ⟨T6, X6, e6, st6⟩ := getF X5 hx hZ hown (host := "") (Or.inl (own_w hw 49 rfl)) Via.refl e5 (Fld.ext O3.2 Fw) (g := (mkF m 41 #[vr a1, vr aS, vr b3, vi 0] [(.ref a1), (.int 0), (.ref b3)])) rfl rfl (hb hby d7_41)
  refine own_st st6 ?_
  show gs T6 m 44 #[vr a1, vr aS, vr b3, vi 0] [(.int 1), (.int 0), (.ref b3)]
  refine own_st (fun _ kS => XS.imul X6.here hx rfl (hb hby d7_44) rfl kS) ?_
  refine oaloadN X6 hx hby d7_45 rfl rfl ?_
  obtain ⟨T7, X7, e7, st7⟩ := getF X6 hx hZ hown (host := "") (Or.inl (own_w hw 49 rfl)) Via.refl e6 (Fld.ext O3.2 Fw) (g := (mkF m 46 #[vr a1, vr aS, vr b3, vi 0] [(.ref a1), (.int 0), (.ref b3)])) rfl rfl (hb hby d7_46)
  refine own_st st7 ?_
  show gs T7 m 49 #[vr a1, vr aS, vr b3, vi 0] [(.int 1), (.int 0), (.ref b3)]
  refine own_st (fun _ kS => XS.iadd X7.here hx rfl (hb hby d7_49) rfl kS) ?_
  refine oiconst X7 hx hby d7_50 ?_
  refine own_st (fun _ kS => XS.isub X7.here hx rfl (hb hby d7_51) rfl kS) ?_
  refine oaloadN X7 hx hby d7_52 rfl rfl ?_
  refine oiloadN X7 hx hby d7_53 rfl ?_
  refine oV 2 X7 hx hZ hby hml hown (own_w hw 53 rfl) (own_w hw 54 rfl) (own_w hw 56 rfl) (own_w hw 55 rfl) (rm_chAt_1_0 l Z a0 hw [] aS tA kA y0 zCS fm h3 n0 (Nat.le_trans Z0 E3.1) O3 (Exa.ext E3 E_0) (Fld.ext E3 F0v) (Fld.ext E3 F0c) (Arv.ext R_A E3) S_CS P_CS S_SF P_SF) (own_w hw 57 rfl) (own_w hw 7 rfl) e7 (Exa.ext E3 E_0) (by decide) own_pd10 d7_54 rfl rfl rfl (fun T8 L8 v8 X8 hQ8 => ?_)
  obtain ⟨rfl, Nq8, eq8⟩ := hQ8
  have N8 := Fr.app N4 Nq8
  show gs T8 m 57 #[vr a1, vr aS, vr b3, vi 0] [(.int (own_lat y0)), (.int 0), (.ref b3)]
  refine own_st (fun _ kS => XT.i2b X8.here hx rfl (hb hby d7_57) rfl kS) ?_
  show gs T8 m 58 #[vr a1, vr aS, vr b3, vi 0] [(.int ((own_lat y0).toInt8.toInt32)), (.int 0), (.ref b3)]
  obtain ⟨cl9, Ar9, qa9, qs9, qn9, qh9, qg9⟩ := id R3
  obtain ⟨T9, h9, X9, e9, W9, st9⟩ := stB X8 hx hZ eq8 Ar9 (j := (0 : Int32)) (inb_of qs9 ⟨by decide, by decide⟩) (g := (mkF m 58 #[vr a1, vr aS, vr b3, vi 0] [(.int ((own_lat y0).toInt8.toInt32)), (.int 0), (.ref b3)])) rfl rfl (hb hby d7_58)
  have N9 := Fr.snoc X9 N8 ge_b3
  have K9 := K3.wr W9 (Or.inr sz_b3)
  have O9 := O3.wr W9 ge_b3
  have R9 : Arv Z h9 b3 k3 .byte (1 : Int32) [(.int (nar .byte ((own_lat y0).toInt8.toInt32)))] (.int 0) := Arv.set Ar9 qa9 qs9 qn9 qh9 qg9 (fits_nar_byte _) W9 0 rfl (Nat.le_of_ble_eq_true rfl)
  refine own_st st9 ?_
  show gs T9 m 59 #[vr a1, vr aS, vr b3, vi 0] []
  refine own_st (fun _ kS => XS.iinc X9.here hx rfl (hb hby d7_59) rfl (l' := #[vr a1, vr aS, vr b3, vi 1]) rfl kS) ?_
  refine own_st (fun _ kS => XS.goto X9.here hx rfl (pc0 := 62) (pc' := 14) rfl (hb hby d7_62) (by decide) (by decide) kS) ?_
  refine oiloadN X9 hx hby d7_14 rfl ?_
  refine oaloadN X9 hx hby d7_15 rfl rfl ?_
  refine oV 1 X9 hx hZ hby hml hown (own_w hw 39 rfl) (own_w hw 40 rfl) (own_w hw 42 rfl) (own_w hw 41 rfl) (rm_sLen_1 l Z a0 hw [] aS tA kA y0 zCS h9 n0 (Nat.le_trans (Nat.le_trans Z0 E3.1) (Keep.of_wr W9).1) O9 (Exa.wr W9 (Exa.ext E3 E_0)) (Fld.other W9 (Fld.ext E3 F0v) (Or.inl ne_aS_b3)) (Fld.other W9 (Fld.ext E3 F0c) (Or.inl ne_aS_b3)) ((Arv.ext R_A E3).other W9 ne_tA_b3) S_CS P_CS) (own_w hw 43 rfl) (own_w hw 7 rfl) e9 (Exa.wr W9 (Exa.ext E3 E_0)) (by decide) own_pd9 d7_16 rfl rfl rfl (fun T10 L10 v10 X10 hQ10 => ?_)
  obtain ⟨rfl, Nq10, eq10⟩ := hQ10
  have N10 := Fr.app N9 Nq10
  show gs T10 m 19 #[vr a1, vr aS, vr b3, vi 1] [(.int 1), (.int 1)]
  refine own_st (fun _ kS => XS.icmpYes X10.here hx rfl (pc0 := 19) (pc' := 65) rfl (hb hby d7_19) rfl (flt (by decide : ¬ ((1 : Int32) < (1 : Int32)))).2.1 (by decide) (by decide) kS) ?_
  show gs T10 m 65 #[vr a1, vr aS, vr b3, vi 1] []
  refine oaloadN X10 hx hby d7_65 rfl rfl ?_
  exact own_retA X10 hx hlk hret rfl rfl (hb hby d7_66) (by decide) (by decide) (by rw [eq10]; exact ⟨b3, k3, ⟨rfl, N10, K9, sz_b3, R9⟩⟩)
theorem ef_enc_1_4_0 (m : MethodId) (x0 : Addr) (x1 : Addr) : entryFrame m #[(.ref x0), (.ref x1)] 4 = mkF m 0 #[.val (.ref x0), .val (.ref x1), .unset, .unset] [] := by first | (simp [entryFrame, mkF, argsToLocals, Value.category]; done) | rfl
def Q_enc_1_4_0 (Z : State) (a1 : Addr) (aS : Addr) (tA : Addr) (kA : ClassId) (y0 : Int32) (zCS : Int32) (fm : Value) (h0 : Heap) (n0 : Nat) (v : Option Value) (h : Heap) (L : List Loc) : Prop := ∃ tN : Addr, ∃ kN : ClassId, v = some (.ref tN) ∧ Fr n0 L ∧ Keep h0 h [] ∧ h0.size ≤ tN ∧ Arv Z h tN kN .byte (4 : Int32) [(.int 0), (.int 0), (.int 0), (.int (nar .byte ((own_lat y0).toInt8.toInt32)))] (.int 0)
theorem rm_enc_1_4_0 (l : Launch) (Z : State) (a0 : Array Value) (hw : HW a0 Z) (ws : List Jvm.Cond) (a1 : Addr) (aS : Addr) (tA : Addr) (kA : ClassId) (y0 : Int32) (zCS : Int32) (fm : Value) (h0 : Heap) (n0 : Nat) (Z0 : n0 ≤ h0.size) (O0 : Old Z n0 h0) (Fw : fk10 Z Z.heap a1 (.int 4)) (Fl : fk11 Z Z.heap a1 (.int 0)) (E_0 : ek12 Z h0 aS) (F0v : fk9 Z h0 aS (.ref tA)) (F0c : fk8 Z h0 aS (.int 0)) (R_A : Arv Z h0 tA kA .byte (1 : Int32) [(.int y0)] (.int 0)) (S_CS : sk0 Z Z.heap (.int zCS)) (P_CS : ¬ zCS = 0) (S_SF : sk1 Z Z.heap fm) (P_SF : fm.isRef = true) :
    M12 l ws (rmk 4 1 4 55) Z #[(.ref a1), (.ref aS)] h0 (Q_enc_1_4_0 Z a1 aS tA kA y0 zCS fm h0 n0) := by
  refine own_go "com/example/provenir/provenir/TextEncoding" rfl (plainFor_of_name pn_7) (fun m => ef_enc_1_4_0 m a1 aS) (fun p e s m below meth c s₁ hx hby hml hown hnm hlk hret hZ X0 e0 => ?_)
  have N0 := Fr.nil n0
  have K0 := Keep.refl h0 []
  show gs s₁ m 0 #[vr a1, vr aS, .unset, .unset] []
  refine oaloadN X0 hx hby d7_0 rfl rfl ?_
  refine oV 0 X0 hx hZ hby hml hown (own_w hw 39 rfl) (own_w hw 40 rfl) (own_w hw 42 rfl) (own_w hw 41 rfl) (rm_sLen_1 l Z a0 hw [] aS tA kA y0 zCS h0 n0 Z0 O0 E_0 F0v F0c R_A S_CS P_CS) (own_w hw 43 rfl) (own_w hw 7 rfl) e0 E_0 (by decide) own_pd9 d7_1 rfl rfl rfl (fun T1 L1 v1 X1 hQ1 => ?_)
  obtain ⟨rfl, Nq1, eq1⟩ := hQ1
  have N1 := Fr.app N0 Nq1
  show gs T1 m 4 #[vr a1, vr aS, .unset, .unset] [(.int 1)]
  refine oaloadN X1 hx hby d7_4 rfl rfl ?_
  obtain ⟨T2, X2, e2, st2⟩ := getF X1 hx hZ hown (host := "") (Or.inl (own_w hw 49 rfl)) Via.refl eq1 (Fld.ext O0.2 Fw) (g := (mkF m 5 #[vr a1, vr aS, .unset, .unset] [(.ref a1), (.int 1)])) rfl rfl (hb hby d7_5)
  refine own_st st2 ?_
  show gs T2 m 8 #[vr a1, vr aS, .unset, .unset] [(.int 4), (.int 1)]
  refine own_st (fun _ kS => XS.imul X2.here hx rfl (hb hby d7_8) rfl kS) ?_
  show gs T2 m 9 #[vr a1, vr aS, .unset, .unset] [(.int 4)]
  obtain ⟨T3, h3, k3, X3, e3, E3, A3, st3⟩ := newP X2 hx hZ (own_w hw 23 rfl) e2 (g := (mkF m 9 #[vr a1, vr aS, .unset, .unset] [(.int 4)])) rfl (hb hby d7_9) rfl (by decide) (cap := 4) (by decide) (by decide) (by decide) (by decide)
  obtain ⟨b3, g3⟩ : ∃ z, z = h0.size := ⟨_, rfl⟩
  have ne_aS_b3 : aS ≠ b3 := Nat.ne_of_lt (Nat.lt_of_lt_of_eq E_0.lt g3.symm)
  have ne_tA_b3 : tA ≠ b3 := Nat.ne_of_lt (Nat.lt_of_lt_of_eq R_A.lt g3.symm)
  have ge_b3 : n0 ≤ b3 := Nat.le_trans Z0 (Nat.le_of_eq g3.symm)
  have sz_b3 : h0.size ≤ b3 := Nat.le_trans K0.1 (Nat.le_of_eq g3.symm)
  rw [← g3] at A3 st3
  have K3 := K0.ext E3
  have O3 := O0.ext E3
  have R3 : Arv Z h3 b3 k3 .byte (4 : Int32) [(.int 0), (.int 0), (.int 0), (.int 0)] (.int 0) := (Arv.new A3 (by decide)).pad (pad_rep [] (.int 0) 4)
  refine own_st st3 ?_
  show gs T3 m 11 #[vr a1, vr aS, .unset, .unset] [(.ref b3)]
  refine own_st (fun _ kS => XS.astoreN X3.here hx rfl (hb hby d7_11) rfl rfl (l' := #[vr a1, vr aS, vr b3, .unset]) rfl kS) ?_
  refine oiconst X3 hx hby d7_12 ?_
  refine own_st (fun _ kS => XS.istoreN X3.here hx rfl (hb hby d7_13) rfl (l' := #[vr a1, vr aS, vr b3, vi 0]) rfl kS) ?_
  refine oiloadN X3 hx hby d7_14 rfl ?_
  refine oaloadN X3 hx hby d7_15 rfl rfl ?_
  refine oV 1 X3 hx hZ hby hml hown (own_w hw 39 rfl) (own_w hw 40 rfl) (own_w hw 42 rfl) (own_w hw 41 rfl) (rm_sLen_1 l Z a0 hw [] aS tA kA y0 zCS h3 n0 (Nat.le_trans Z0 E3.1) O3 (Exa.ext E3 E_0) (Fld.ext E3 F0v) (Fld.ext E3 F0c) (Arv.ext R_A E3) S_CS P_CS) (own_w hw 43 rfl) (own_w hw 7 rfl) e3 (Exa.ext E3 E_0) (by decide) own_pd9 d7_16 rfl rfl rfl (fun T4 L4 v4 X4 hQ4 => ?_)
  obtain ⟨rfl, Nq4, eq4⟩ := hQ4
  have N4 := Fr.app N1 Nq4
  show gs T4 m 19 #[vr a1, vr aS, vr b3, vi 0] [(.int 1), (.int 0)]
  refine own_st (fun _ kS => XS.icmpNo X4.here hx rfl (hb hby d7_19) rfl (tlt (by decide : (0 : Int32) < (1 : Int32))).2.1 kS) ?_
  show gs T4 m 22 #[vr a1, vr aS, vr b3, vi 0] []
  refine oaloadN X4 hx hby d7_22 rfl rfl ?_
  refine oaloadN X4 hx hby d7_23 rfl rfl ?_
  obtain ⟨T5, X5, e5, st5⟩ := getF X4 hx hZ hown (host := "") (Or.inl (own_w hw 51 rfl)) Via.refl eq4 (Fld.ext O3.2 Fl) (g := (mkF m 24 #[vr a1, vr aS, vr b3, vi 0] [(.ref a1), (.ref b3)])) rfl rfl (hb hby d7_24)
  refine own_st st5 ?_
  show gs T5 m 27 #[vr a1, vr aS, vr b3, vi 0] [(.int 0), (.ref b3)]
  refine own_st (fun _ kS => XS.ifYes X5.here hx rfl (pc0 := 27) (pc' := 39) rfl (hb hby d7_27) rfl ((if0 _ _).trans (teq (by decide : (0 : Int32) = (0 : Int32))).1) (by decide) (by decide) kS) ?_
  show gs T5 m 39 #[vr a1, vr aS, vr b3, vi 0] [(.ref b3)]
  refine oiloadN X5 hx hby d7_39 rfl ?_
  refine oaloadN X5 hx hby d7_40 rfl rfl ?_
  obtain ⟨T6, X6, e6, st6⟩ := getF X5 hx hZ hown (host := "") (Or.inl (own_w hw 49 rfl)) Via.refl e5 (Fld.ext O3.2 Fw) (g := (mkF m 41 #[vr a1, vr aS, vr b3, vi 0] [(.ref a1), (.int 0), (.ref b3)])) rfl rfl (hb hby d7_41)
  refine own_st st6 ?_
  show gs T6 m 44 #[vr a1, vr aS, vr b3, vi 0] [(.int 4), (.int 0), (.ref b3)]
  refine own_st (fun _ kS => XS.imul X6.here hx rfl (hb hby d7_44) rfl kS) ?_
  refine oaloadN X6 hx hby d7_45 rfl rfl ?_
  obtain ⟨T7, X7, e7, st7⟩ := getF X6 hx hZ hown (host := "") (Or.inl (own_w hw 49 rfl)) Via.refl e6 (Fld.ext O3.2 Fw) (g := (mkF m 46 #[vr a1, vr aS, vr b3, vi 0] [(.ref a1), (.int 0), (.ref b3)])) rfl rfl (hb hby d7_46)
  refine own_st st7 ?_
  show gs T7 m 49 #[vr a1, vr aS, vr b3, vi 0] [(.int 4), (.int 0), (.ref b3)]
  refine own_st (fun _ kS => XS.iadd X7.here hx rfl (hb hby d7_49) rfl kS) ?_
  refine oiconst X7 hx hby d7_50 ?_
  refine own_st (fun _ kS => XS.isub X7.here hx rfl (hb hby d7_51) rfl kS) ?_
  refine oaloadN X7 hx hby d7_52 rfl rfl ?_
  refine oiloadN X7 hx hby d7_53 rfl ?_
  refine oV 2 X7 hx hZ hby hml hown (own_w hw 53 rfl) (own_w hw 54 rfl) (own_w hw 56 rfl) (own_w hw 55 rfl) (rm_chAt_1_0 l Z a0 hw [] aS tA kA y0 zCS fm h3 n0 (Nat.le_trans Z0 E3.1) O3 (Exa.ext E3 E_0) (Fld.ext E3 F0v) (Fld.ext E3 F0c) (Arv.ext R_A E3) S_CS P_CS S_SF P_SF) (own_w hw 57 rfl) (own_w hw 7 rfl) e7 (Exa.ext E3 E_0) (by decide) own_pd10 d7_54 rfl rfl rfl (fun T8 L8 v8 X8 hQ8 => ?_)
  obtain ⟨rfl, Nq8, eq8⟩ := hQ8
  have N8 := Fr.app N4 Nq8
  show gs T8 m 57 #[vr a1, vr aS, vr b3, vi 0] [(.int (own_lat y0)), (.int 3), (.ref b3)]
  refine own_st (fun _ kS => XT.i2b X8.here hx rfl (hb hby d7_57) rfl kS) ?_
  show gs T8 m 58 #[vr a1, vr aS, vr b3, vi 0] [(.int ((own_lat y0).toInt8.toInt32)), (.int 3), (.ref b3)]
  obtain ⟨cl9, Ar9, qa9, qs9, qn9, qh9, qg9⟩ := id R3
  obtain ⟨T9, h9, X9, e9, W9, st9⟩ := stB X8 hx hZ eq8 Ar9 (j := (3 : Int32)) (inb_of qs9 ⟨by decide, by decide⟩) (g := (mkF m 58 #[vr a1, vr aS, vr b3, vi 0] [(.int ((own_lat y0).toInt8.toInt32)), (.int 3), (.ref b3)])) rfl rfl (hb hby d7_58)
  have N9 := Fr.snoc X9 N8 ge_b3
  have K9 := K3.wr W9 (Or.inr sz_b3)
  have O9 := O3.wr W9 ge_b3
  have R9 : Arv Z h9 b3 k3 .byte (4 : Int32) [(.int 0), (.int 0), (.int 0), (.int (nar .byte ((own_lat y0).toInt8.toInt32)))] (.int 0) := Arv.set Ar9 qa9 qs9 qn9 qh9 qg9 (fits_nar_byte _) W9 3 rfl (Nat.le_of_ble_eq_true rfl)
  refine own_st st9 ?_
  show gs T9 m 59 #[vr a1, vr aS, vr b3, vi 0] []
  refine own_st (fun _ kS => XS.iinc X9.here hx rfl (hb hby d7_59) rfl (l' := #[vr a1, vr aS, vr b3, vi 1]) rfl kS) ?_
  refine own_st (fun _ kS => XS.goto X9.here hx rfl (pc0 := 62) (pc' := 14) rfl (hb hby d7_62) (by decide) (by decide) kS) ?_
  refine oiloadN X9 hx hby d7_14 rfl ?_
  refine oaloadN X9 hx hby d7_15 rfl rfl ?_
  refine oV 1 X9 hx hZ hby hml hown (own_w hw 39 rfl) (own_w hw 40 rfl) (own_w hw 42 rfl) (own_w hw 41 rfl) (rm_sLen_1 l Z a0 hw [] aS tA kA y0 zCS h9 n0 (Nat.le_trans (Nat.le_trans Z0 E3.1) (Keep.of_wr W9).1) O9 (Exa.wr W9 (Exa.ext E3 E_0)) (Fld.other W9 (Fld.ext E3 F0v) (Or.inl ne_aS_b3)) (Fld.other W9 (Fld.ext E3 F0c) (Or.inl ne_aS_b3)) ((Arv.ext R_A E3).other W9 ne_tA_b3) S_CS P_CS) (own_w hw 43 rfl) (own_w hw 7 rfl) e9 (Exa.wr W9 (Exa.ext E3 E_0)) (by decide) own_pd9 d7_16 rfl rfl rfl (fun T10 L10 v10 X10 hQ10 => ?_)
  obtain ⟨rfl, Nq10, eq10⟩ := hQ10
  have N10 := Fr.app N9 Nq10
  show gs T10 m 19 #[vr a1, vr aS, vr b3, vi 1] [(.int 1), (.int 1)]
  refine own_st (fun _ kS => XS.icmpYes X10.here hx rfl (pc0 := 19) (pc' := 65) rfl (hb hby d7_19) rfl (flt (by decide : ¬ ((1 : Int32) < (1 : Int32)))).2.1 (by decide) (by decide) kS) ?_
  show gs T10 m 65 #[vr a1, vr aS, vr b3, vi 1] []
  refine oaloadN X10 hx hby d7_65 rfl rfl ?_
  exact own_retA X10 hx hlk hret rfl rfl (hb hby d7_66) (by decide) (by decide) (by rw [eq10]; exact ⟨b3, k3, ⟨rfl, N10, K9, sz_b3, R9⟩⟩)
theorem ef_enc_1_4_1 (m : MethodId) (x0 : Addr) (x1 : Addr) : entryFrame m #[(.ref x0), (.ref x1)] 4 = mkF m 0 #[.val (.ref x0), .val (.ref x1), .unset, .unset] [] := by first | (simp [entryFrame, mkF, argsToLocals, Value.category]; done) | rfl
def Q_enc_1_4_1 (Z : State) (a1 : Addr) (aS : Addr) (tA : Addr) (kA : ClassId) (y0 : Int32) (zCS : Int32) (fm : Value) (h0 : Heap) (n0 : Nat) (v : Option Value) (h : Heap) (L : List Loc) : Prop := ∃ tN : Addr, ∃ kN : ClassId, v = some (.ref tN) ∧ Fr n0 L ∧ Keep h0 h [] ∧ h0.size ≤ tN ∧ Arv Z h tN kN .byte (4 : Int32) [(.int (nar .byte ((own_lat y0).toInt8.toInt32))), (.int 0), (.int 0), (.int 0)] (.int 0)
theorem rm_enc_1_4_1 (l : Launch) (Z : State) (a0 : Array Value) (hw : HW a0 Z) (ws : List Jvm.Cond) (a1 : Addr) (aS : Addr) (tA : Addr) (kA : ClassId) (y0 : Int32) (zCS : Int32) (fm : Value) (h0 : Heap) (n0 : Nat) (Z0 : n0 ≤ h0.size) (O0 : Old Z n0 h0) (Fw : fk10 Z Z.heap a1 (.int 4)) (Fl : fk11 Z Z.heap a1 (.int 1)) (E_0 : ek12 Z h0 aS) (F0v : fk9 Z h0 aS (.ref tA)) (F0c : fk8 Z h0 aS (.int 0)) (R_A : Arv Z h0 tA kA .byte (1 : Int32) [(.int y0)] (.int 0)) (S_CS : sk0 Z Z.heap (.int zCS)) (P_CS : ¬ zCS = 0) (S_SF : sk1 Z Z.heap fm) (P_SF : fm.isRef = true) :
    M12 l ws (rmk 4 1 4 55) Z #[(.ref a1), (.ref aS)] h0 (Q_enc_1_4_1 Z a1 aS tA kA y0 zCS fm h0 n0) := by
  refine own_go "com/example/provenir/provenir/TextEncoding" rfl (plainFor_of_name pn_7) (fun m => ef_enc_1_4_1 m a1 aS) (fun p e s m below meth c s₁ hx hby hml hown hnm hlk hret hZ X0 e0 => ?_)
  have N0 := Fr.nil n0
  have K0 := Keep.refl h0 []
  show gs s₁ m 0 #[vr a1, vr aS, .unset, .unset] []
  refine oaloadN X0 hx hby d7_0 rfl rfl ?_
  refine oV 0 X0 hx hZ hby hml hown (own_w hw 39 rfl) (own_w hw 40 rfl) (own_w hw 42 rfl) (own_w hw 41 rfl) (rm_sLen_1 l Z a0 hw [] aS tA kA y0 zCS h0 n0 Z0 O0 E_0 F0v F0c R_A S_CS P_CS) (own_w hw 43 rfl) (own_w hw 7 rfl) e0 E_0 (by decide) own_pd9 d7_1 rfl rfl rfl (fun T1 L1 v1 X1 hQ1 => ?_)
  obtain ⟨rfl, Nq1, eq1⟩ := hQ1
  have N1 := Fr.app N0 Nq1
  show gs T1 m 4 #[vr a1, vr aS, .unset, .unset] [(.int 1)]
  refine oaloadN X1 hx hby d7_4 rfl rfl ?_
  obtain ⟨T2, X2, e2, st2⟩ := getF X1 hx hZ hown (host := "") (Or.inl (own_w hw 49 rfl)) Via.refl eq1 (Fld.ext O0.2 Fw) (g := (mkF m 5 #[vr a1, vr aS, .unset, .unset] [(.ref a1), (.int 1)])) rfl rfl (hb hby d7_5)
  refine own_st st2 ?_
  show gs T2 m 8 #[vr a1, vr aS, .unset, .unset] [(.int 4), (.int 1)]
  refine own_st (fun _ kS => XS.imul X2.here hx rfl (hb hby d7_8) rfl kS) ?_
  show gs T2 m 9 #[vr a1, vr aS, .unset, .unset] [(.int 4)]
  obtain ⟨T3, h3, k3, X3, e3, E3, A3, st3⟩ := newP X2 hx hZ (own_w hw 23 rfl) e2 (g := (mkF m 9 #[vr a1, vr aS, .unset, .unset] [(.int 4)])) rfl (hb hby d7_9) rfl (by decide) (cap := 4) (by decide) (by decide) (by decide) (by decide)
  obtain ⟨b3, g3⟩ : ∃ z, z = h0.size := ⟨_, rfl⟩
  have ne_aS_b3 : aS ≠ b3 := Nat.ne_of_lt (Nat.lt_of_lt_of_eq E_0.lt g3.symm)
  have ne_tA_b3 : tA ≠ b3 := Nat.ne_of_lt (Nat.lt_of_lt_of_eq R_A.lt g3.symm)
  have ge_b3 : n0 ≤ b3 := Nat.le_trans Z0 (Nat.le_of_eq g3.symm)
  have sz_b3 : h0.size ≤ b3 := Nat.le_trans K0.1 (Nat.le_of_eq g3.symm)
  rw [← g3] at A3 st3
  have K3 := K0.ext E3
  have O3 := O0.ext E3
  have R3 : Arv Z h3 b3 k3 .byte (4 : Int32) [(.int 0), (.int 0), (.int 0), (.int 0)] (.int 0) := (Arv.new A3 (by decide)).pad (pad_rep [] (.int 0) 4)
  refine own_st st3 ?_
  show gs T3 m 11 #[vr a1, vr aS, .unset, .unset] [(.ref b3)]
  refine own_st (fun _ kS => XS.astoreN X3.here hx rfl (hb hby d7_11) rfl rfl (l' := #[vr a1, vr aS, vr b3, .unset]) rfl kS) ?_
  refine oiconst X3 hx hby d7_12 ?_
  refine own_st (fun _ kS => XS.istoreN X3.here hx rfl (hb hby d7_13) rfl (l' := #[vr a1, vr aS, vr b3, vi 0]) rfl kS) ?_
  refine oiloadN X3 hx hby d7_14 rfl ?_
  refine oaloadN X3 hx hby d7_15 rfl rfl ?_
  refine oV 1 X3 hx hZ hby hml hown (own_w hw 39 rfl) (own_w hw 40 rfl) (own_w hw 42 rfl) (own_w hw 41 rfl) (rm_sLen_1 l Z a0 hw [] aS tA kA y0 zCS h3 n0 (Nat.le_trans Z0 E3.1) O3 (Exa.ext E3 E_0) (Fld.ext E3 F0v) (Fld.ext E3 F0c) (Arv.ext R_A E3) S_CS P_CS) (own_w hw 43 rfl) (own_w hw 7 rfl) e3 (Exa.ext E3 E_0) (by decide) own_pd9 d7_16 rfl rfl rfl (fun T4 L4 v4 X4 hQ4 => ?_)
  obtain ⟨rfl, Nq4, eq4⟩ := hQ4
  have N4 := Fr.app N1 Nq4
  show gs T4 m 19 #[vr a1, vr aS, vr b3, vi 0] [(.int 1), (.int 0)]
  refine own_st (fun _ kS => XS.icmpNo X4.here hx rfl (hb hby d7_19) rfl (tlt (by decide : (0 : Int32) < (1 : Int32))).2.1 kS) ?_
  show gs T4 m 22 #[vr a1, vr aS, vr b3, vi 0] []
  refine oaloadN X4 hx hby d7_22 rfl rfl ?_
  refine oaloadN X4 hx hby d7_23 rfl rfl ?_
  obtain ⟨T5, X5, e5, st5⟩ := getF X4 hx hZ hown (host := "") (Or.inl (own_w hw 51 rfl)) Via.refl eq4 (Fld.ext O3.2 Fl) (g := (mkF m 24 #[vr a1, vr aS, vr b3, vi 0] [(.ref a1), (.ref b3)])) rfl rfl (hb hby d7_24)
  refine own_st st5 ?_
  show gs T5 m 27 #[vr a1, vr aS, vr b3, vi 0] [(.int 1), (.ref b3)]
  refine own_st (fun _ kS => XS.ifNo X5.here hx rfl (hb hby d7_27) rfl ((if0 _ _).trans (feq (by decide : ¬ ((1 : Int32) = (0 : Int32)))).1) kS) ?_
  show gs T5 m 30 #[vr a1, vr aS, vr b3, vi 0] [(.ref b3)]
  refine oiloadN X5 hx hby d7_30 rfl ?_
  refine oaloadN X5 hx hby d7_31 rfl rfl ?_
  obtain ⟨T6, X6, e6, st6⟩ := getF X5 hx hZ hown (host := "") (Or.inl (own_w hw 49 rfl)) Via.refl e5 (Fld.ext O3.2 Fw) (g := (mkF m 32 #[vr a1, vr aS, vr b3, vi 0] [(.ref a1), (.int 0), (.ref b3)])) rfl rfl (hb hby d7_32)
  refine own_st st6 ?_
  show gs T6 m 35 #[vr a1, vr aS, vr b3, vi 0] [(.int 4), (.int 0), (.ref b3)]
  refine own_st (fun _ kS => XS.imul X6.here hx rfl (hb hby d7_35) rfl kS) ?_
  refine own_st (fun _ kS => XS.goto X6.here hx rfl (pc0 := 36) (pc' := 52) rfl (hb hby d7_36) (by decide) (by decide) kS) ?_
  refine oaloadN X6 hx hby d7_52 rfl rfl ?_
  refine oiloadN X6 hx hby d7_53 rfl ?_
  refine oV 2 X6 hx hZ hby hml hown (own_w hw 53 rfl) (own_w hw 54 rfl) (own_w hw 56 rfl) (own_w hw 55 rfl) (rm_chAt_1_0 l Z a0 hw [] aS tA kA y0 zCS fm h3 n0 (Nat.le_trans Z0 E3.1) O3 (Exa.ext E3 E_0) (Fld.ext E3 F0v) (Fld.ext E3 F0c) (Arv.ext R_A E3) S_CS P_CS S_SF P_SF) (own_w hw 57 rfl) (own_w hw 7 rfl) e6 (Exa.ext E3 E_0) (by decide) own_pd10 d7_54 rfl rfl rfl (fun T7 L7 v7 X7 hQ7 => ?_)
  obtain ⟨rfl, Nq7, eq7⟩ := hQ7
  have N7 := Fr.app N4 Nq7
  show gs T7 m 57 #[vr a1, vr aS, vr b3, vi 0] [(.int (own_lat y0)), (.int 0), (.ref b3)]
  refine own_st (fun _ kS => XT.i2b X7.here hx rfl (hb hby d7_57) rfl kS) ?_
  show gs T7 m 58 #[vr a1, vr aS, vr b3, vi 0] [(.int ((own_lat y0).toInt8.toInt32)), (.int 0), (.ref b3)]
  obtain ⟨cl8, Ar8, qa8, qs8, qn8, qh8, qg8⟩ := id R3
  obtain ⟨T8, h8, X8, e8, W8, st8⟩ := stB X7 hx hZ eq7 Ar8 (j := (0 : Int32)) (inb_of qs8 ⟨by decide, by decide⟩) (g := (mkF m 58 #[vr a1, vr aS, vr b3, vi 0] [(.int ((own_lat y0).toInt8.toInt32)), (.int 0), (.ref b3)])) rfl rfl (hb hby d7_58)
  have N8 := Fr.snoc X8 N7 ge_b3
  have K8 := K3.wr W8 (Or.inr sz_b3)
  have O8 := O3.wr W8 ge_b3
  have R8 : Arv Z h8 b3 k3 .byte (4 : Int32) [(.int (nar .byte ((own_lat y0).toInt8.toInt32))), (.int 0), (.int 0), (.int 0)] (.int 0) := Arv.set Ar8 qa8 qs8 qn8 qh8 qg8 (fits_nar_byte _) W8 0 rfl (Nat.le_of_ble_eq_true rfl)
  refine own_st st8 ?_
  show gs T8 m 59 #[vr a1, vr aS, vr b3, vi 0] []
  refine own_st (fun _ kS => XS.iinc X8.here hx rfl (hb hby d7_59) rfl (l' := #[vr a1, vr aS, vr b3, vi 1]) rfl kS) ?_
  refine own_st (fun _ kS => XS.goto X8.here hx rfl (pc0 := 62) (pc' := 14) rfl (hb hby d7_62) (by decide) (by decide) kS) ?_
  refine oiloadN X8 hx hby d7_14 rfl ?_
  refine oaloadN X8 hx hby d7_15 rfl rfl ?_
  refine oV 1 X8 hx hZ hby hml hown (own_w hw 39 rfl) (own_w hw 40 rfl) (own_w hw 42 rfl) (own_w hw 41 rfl) (rm_sLen_1 l Z a0 hw [] aS tA kA y0 zCS h8 n0 (Nat.le_trans (Nat.le_trans Z0 E3.1) (Keep.of_wr W8).1) O8 (Exa.wr W8 (Exa.ext E3 E_0)) (Fld.other W8 (Fld.ext E3 F0v) (Or.inl ne_aS_b3)) (Fld.other W8 (Fld.ext E3 F0c) (Or.inl ne_aS_b3)) ((Arv.ext R_A E3).other W8 ne_tA_b3) S_CS P_CS) (own_w hw 43 rfl) (own_w hw 7 rfl) e8 (Exa.wr W8 (Exa.ext E3 E_0)) (by decide) own_pd9 d7_16 rfl rfl rfl (fun T9 L9 v9 X9 hQ9 => ?_)
  obtain ⟨rfl, Nq9, eq9⟩ := hQ9
  have N9 := Fr.app N8 Nq9
  show gs T9 m 19 #[vr a1, vr aS, vr b3, vi 1] [(.int 1), (.int 1)]
  refine own_st (fun _ kS => XS.icmpYes X9.here hx rfl (pc0 := 19) (pc' := 65) rfl (hb hby d7_19) rfl (flt (by decide : ¬ ((1 : Int32) < (1 : Int32)))).2.1 (by decide) (by decide) kS) ?_
  show gs T9 m 65 #[vr a1, vr aS, vr b3, vi 1] []
  refine oaloadN X9 hx hby d7_65 rfl rfl ?_
  exact own_retA X9 hx hlk hret rfl rfl (hb hby d7_66) (by decide) (by decide) (by rw [eq9]; exact ⟨b3, k3, ⟨rfl, N9, K8, sz_b3, R8⟩⟩)
theorem ef_enc_1_2_0 (m : MethodId) (x0 : Addr) (x1 : Addr) : entryFrame m #[(.ref x0), (.ref x1)] 4 = mkF m 0 #[.val (.ref x0), .val (.ref x1), .unset, .unset] [] := by first | (simp [entryFrame, mkF, argsToLocals, Value.category]; done) | rfl
def Q_enc_1_2_0 (Z : State) (a1 : Addr) (aS : Addr) (tA : Addr) (kA : ClassId) (y0 : Int32) (zCS : Int32) (fm : Value) (h0 : Heap) (n0 : Nat) (v : Option Value) (h : Heap) (L : List Loc) : Prop := ∃ tN : Addr, ∃ kN : ClassId, v = some (.ref tN) ∧ Fr n0 L ∧ Keep h0 h [] ∧ h0.size ≤ tN ∧ Arv Z h tN kN .byte (2 : Int32) [(.int 0), (.int (nar .byte ((own_lat y0).toInt8.toInt32)))] (.int 0)
theorem rm_enc_1_2_0 (l : Launch) (Z : State) (a0 : Array Value) (hw : HW a0 Z) (ws : List Jvm.Cond) (a1 : Addr) (aS : Addr) (tA : Addr) (kA : ClassId) (y0 : Int32) (zCS : Int32) (fm : Value) (h0 : Heap) (n0 : Nat) (Z0 : n0 ≤ h0.size) (O0 : Old Z n0 h0) (Fw : fk10 Z Z.heap a1 (.int 2)) (Fl : fk11 Z Z.heap a1 (.int 0)) (E_0 : ek12 Z h0 aS) (F0v : fk9 Z h0 aS (.ref tA)) (F0c : fk8 Z h0 aS (.int 0)) (R_A : Arv Z h0 tA kA .byte (1 : Int32) [(.int y0)] (.int 0)) (S_CS : sk0 Z Z.heap (.int zCS)) (P_CS : ¬ zCS = 0) (S_SF : sk1 Z Z.heap fm) (P_SF : fm.isRef = true) :
    M12 l ws (rmk 4 1 2 55) Z #[(.ref a1), (.ref aS)] h0 (Q_enc_1_2_0 Z a1 aS tA kA y0 zCS fm h0 n0) := by
  refine own_go "com/example/provenir/provenir/TextEncoding" rfl (plainFor_of_name pn_7) (fun m => ef_enc_1_2_0 m a1 aS) (fun p e s m below meth c s₁ hx hby hml hown hnm hlk hret hZ X0 e0 => ?_)
  have N0 := Fr.nil n0
  have K0 := Keep.refl h0 []
  show gs s₁ m 0 #[vr a1, vr aS, .unset, .unset] []
  refine oaloadN X0 hx hby d7_0 rfl rfl ?_
  refine oV 0 X0 hx hZ hby hml hown (own_w hw 39 rfl) (own_w hw 40 rfl) (own_w hw 42 rfl) (own_w hw 41 rfl) (rm_sLen_1 l Z a0 hw [] aS tA kA y0 zCS h0 n0 Z0 O0 E_0 F0v F0c R_A S_CS P_CS) (own_w hw 43 rfl) (own_w hw 7 rfl) e0 E_0 (by decide) own_pd9 d7_1 rfl rfl rfl (fun T1 L1 v1 X1 hQ1 => ?_)
  obtain ⟨rfl, Nq1, eq1⟩ := hQ1
  have N1 := Fr.app N0 Nq1
  show gs T1 m 4 #[vr a1, vr aS, .unset, .unset] [(.int 1)]
  refine oaloadN X1 hx hby d7_4 rfl rfl ?_
  obtain ⟨T2, X2, e2, st2⟩ := getF X1 hx hZ hown (host := "") (Or.inl (own_w hw 49 rfl)) Via.refl eq1 (Fld.ext O0.2 Fw) (g := (mkF m 5 #[vr a1, vr aS, .unset, .unset] [(.ref a1), (.int 1)])) rfl rfl (hb hby d7_5)
  refine own_st st2 ?_
  show gs T2 m 8 #[vr a1, vr aS, .unset, .unset] [(.int 2), (.int 1)]
  refine own_st (fun _ kS => XS.imul X2.here hx rfl (hb hby d7_8) rfl kS) ?_
  show gs T2 m 9 #[vr a1, vr aS, .unset, .unset] [(.int 2)]
  obtain ⟨T3, h3, k3, X3, e3, E3, A3, st3⟩ := newP X2 hx hZ (own_w hw 23 rfl) e2 (g := (mkF m 9 #[vr a1, vr aS, .unset, .unset] [(.int 2)])) rfl (hb hby d7_9) rfl (by decide) (cap := 2) (by decide) (by decide) (by decide) (by decide)
  obtain ⟨b3, g3⟩ : ∃ z, z = h0.size := ⟨_, rfl⟩
  have ne_aS_b3 : aS ≠ b3 := Nat.ne_of_lt (Nat.lt_of_lt_of_eq E_0.lt g3.symm)
  have ne_tA_b3 : tA ≠ b3 := Nat.ne_of_lt (Nat.lt_of_lt_of_eq R_A.lt g3.symm)
  have ge_b3 : n0 ≤ b3 := Nat.le_trans Z0 (Nat.le_of_eq g3.symm)
  have sz_b3 : h0.size ≤ b3 := Nat.le_trans K0.1 (Nat.le_of_eq g3.symm)
  rw [← g3] at A3 st3
  have K3 := K0.ext E3
  have O3 := O0.ext E3
  have R3 : Arv Z h3 b3 k3 .byte (2 : Int32) [(.int 0), (.int 0)] (.int 0) := (Arv.new A3 (by decide)).pad (pad_rep [] (.int 0) 2)
  refine own_st st3 ?_
  show gs T3 m 11 #[vr a1, vr aS, .unset, .unset] [(.ref b3)]
  refine own_st (fun _ kS => XS.astoreN X3.here hx rfl (hb hby d7_11) rfl rfl (l' := #[vr a1, vr aS, vr b3, .unset]) rfl kS) ?_
  refine oiconst X3 hx hby d7_12 ?_
  refine own_st (fun _ kS => XS.istoreN X3.here hx rfl (hb hby d7_13) rfl (l' := #[vr a1, vr aS, vr b3, vi 0]) rfl kS) ?_
  refine oiloadN X3 hx hby d7_14 rfl ?_
  refine oaloadN X3 hx hby d7_15 rfl rfl ?_
  refine oV 1 X3 hx hZ hby hml hown (own_w hw 39 rfl) (own_w hw 40 rfl) (own_w hw 42 rfl) (own_w hw 41 rfl) (rm_sLen_1 l Z a0 hw [] aS tA kA y0 zCS h3 n0 (Nat.le_trans Z0 E3.1) O3 (Exa.ext E3 E_0) (Fld.ext E3 F0v) (Fld.ext E3 F0c) (Arv.ext R_A E3) S_CS P_CS) (own_w hw 43 rfl) (own_w hw 7 rfl) e3 (Exa.ext E3 E_0) (by decide) own_pd9 d7_16 rfl rfl rfl (fun T4 L4 v4 X4 hQ4 => ?_)
  obtain ⟨rfl, Nq4, eq4⟩ := hQ4
  have N4 := Fr.app N1 Nq4
  show gs T4 m 19 #[vr a1, vr aS, vr b3, vi 0] [(.int 1), (.int 0)]
  refine own_st (fun _ kS => XS.icmpNo X4.here hx rfl (hb hby d7_19) rfl (tlt (by decide : (0 : Int32) < (1 : Int32))).2.1 kS) ?_
  show gs T4 m 22 #[vr a1, vr aS, vr b3, vi 0] []
  refine oaloadN X4 hx hby d7_22 rfl rfl ?_
  refine oaloadN X4 hx hby d7_23 rfl rfl ?_
  obtain ⟨T5, X5, e5, st5⟩ := getF X4 hx hZ hown (host := "") (Or.inl (own_w hw 51 rfl)) Via.refl eq4 (Fld.ext O3.2 Fl) (g := (mkF m 24 #[vr a1, vr aS, vr b3, vi 0] [(.ref a1), (.ref b3)])) rfl rfl (hb hby d7_24)
  refine own_st st5 ?_
  show gs T5 m 27 #[vr a1, vr aS, vr b3, vi 0] [(.int 0), (.ref b3)]
  refine own_st (fun _ kS => XS.ifYes X5.here hx rfl (pc0 := 27) (pc' := 39) rfl (hb hby d7_27) rfl ((if0 _ _).trans (teq (by decide : (0 : Int32) = (0 : Int32))).1) (by decide) (by decide) kS) ?_
  show gs T5 m 39 #[vr a1, vr aS, vr b3, vi 0] [(.ref b3)]
  refine oiloadN X5 hx hby d7_39 rfl ?_
  refine oaloadN X5 hx hby d7_40 rfl rfl ?_
  obtain ⟨T6, X6, e6, st6⟩ := getF X5 hx hZ hown (host := "") (Or.inl (own_w hw 49 rfl)) Via.refl e5 (Fld.ext O3.2 Fw) (g := (mkF m 41 #[vr a1, vr aS, vr b3, vi 0] [(.ref a1), (.int 0), (.ref b3)])) rfl rfl (hb hby d7_41)
  refine own_st st6 ?_
  show gs T6 m 44 #[vr a1, vr aS, vr b3, vi 0] [(.int 2), (.int 0), (.ref b3)]
  refine own_st (fun _ kS => XS.imul X6.here hx rfl (hb hby d7_44) rfl kS) ?_
  refine oaloadN X6 hx hby d7_45 rfl rfl ?_
  obtain ⟨T7, X7, e7, st7⟩ := getF X6 hx hZ hown (host := "") (Or.inl (own_w hw 49 rfl)) Via.refl e6 (Fld.ext O3.2 Fw) (g := (mkF m 46 #[vr a1, vr aS, vr b3, vi 0] [(.ref a1), (.int 0), (.ref b3)])) rfl rfl (hb hby d7_46)
  refine own_st st7 ?_
  show gs T7 m 49 #[vr a1, vr aS, vr b3, vi 0] [(.int 2), (.int 0), (.ref b3)]
  refine own_st (fun _ kS => XS.iadd X7.here hx rfl (hb hby d7_49) rfl kS) ?_
  refine oiconst X7 hx hby d7_50 ?_
  refine own_st (fun _ kS => XS.isub X7.here hx rfl (hb hby d7_51) rfl kS) ?_
  refine oaloadN X7 hx hby d7_52 rfl rfl ?_
  refine oiloadN X7 hx hby d7_53 rfl ?_
  refine oV 2 X7 hx hZ hby hml hown (own_w hw 53 rfl) (own_w hw 54 rfl) (own_w hw 56 rfl) (own_w hw 55 rfl) (rm_chAt_1_0 l Z a0 hw [] aS tA kA y0 zCS fm h3 n0 (Nat.le_trans Z0 E3.1) O3 (Exa.ext E3 E_0) (Fld.ext E3 F0v) (Fld.ext E3 F0c) (Arv.ext R_A E3) S_CS P_CS S_SF P_SF) (own_w hw 57 rfl) (own_w hw 7 rfl) e7 (Exa.ext E3 E_0) (by decide) own_pd10 d7_54 rfl rfl rfl (fun T8 L8 v8 X8 hQ8 => ?_)
  obtain ⟨rfl, Nq8, eq8⟩ := hQ8
  have N8 := Fr.app N4 Nq8
  show gs T8 m 57 #[vr a1, vr aS, vr b3, vi 0] [(.int (own_lat y0)), (.int 1), (.ref b3)]
  refine own_st (fun _ kS => XT.i2b X8.here hx rfl (hb hby d7_57) rfl kS) ?_
  show gs T8 m 58 #[vr a1, vr aS, vr b3, vi 0] [(.int ((own_lat y0).toInt8.toInt32)), (.int 1), (.ref b3)]
  obtain ⟨cl9, Ar9, qa9, qs9, qn9, qh9, qg9⟩ := id R3
  obtain ⟨T9, h9, X9, e9, W9, st9⟩ := stB X8 hx hZ eq8 Ar9 (j := (1 : Int32)) (inb_of qs9 ⟨by decide, by decide⟩) (g := (mkF m 58 #[vr a1, vr aS, vr b3, vi 0] [(.int ((own_lat y0).toInt8.toInt32)), (.int 1), (.ref b3)])) rfl rfl (hb hby d7_58)
  have N9 := Fr.snoc X9 N8 ge_b3
  have K9 := K3.wr W9 (Or.inr sz_b3)
  have O9 := O3.wr W9 ge_b3
  have R9 : Arv Z h9 b3 k3 .byte (2 : Int32) [(.int 0), (.int (nar .byte ((own_lat y0).toInt8.toInt32)))] (.int 0) := Arv.set Ar9 qa9 qs9 qn9 qh9 qg9 (fits_nar_byte _) W9 1 rfl (Nat.le_of_ble_eq_true rfl)
  refine own_st st9 ?_
  show gs T9 m 59 #[vr a1, vr aS, vr b3, vi 0] []
  refine own_st (fun _ kS => XS.iinc X9.here hx rfl (hb hby d7_59) rfl (l' := #[vr a1, vr aS, vr b3, vi 1]) rfl kS) ?_
  refine own_st (fun _ kS => XS.goto X9.here hx rfl (pc0 := 62) (pc' := 14) rfl (hb hby d7_62) (by decide) (by decide) kS) ?_
  refine oiloadN X9 hx hby d7_14 rfl ?_
  refine oaloadN X9 hx hby d7_15 rfl rfl ?_
  refine oV 1 X9 hx hZ hby hml hown (own_w hw 39 rfl) (own_w hw 40 rfl) (own_w hw 42 rfl) (own_w hw 41 rfl) (rm_sLen_1 l Z a0 hw [] aS tA kA y0 zCS h9 n0 (Nat.le_trans (Nat.le_trans Z0 E3.1) (Keep.of_wr W9).1) O9 (Exa.wr W9 (Exa.ext E3 E_0)) (Fld.other W9 (Fld.ext E3 F0v) (Or.inl ne_aS_b3)) (Fld.other W9 (Fld.ext E3 F0c) (Or.inl ne_aS_b3)) ((Arv.ext R_A E3).other W9 ne_tA_b3) S_CS P_CS) (own_w hw 43 rfl) (own_w hw 7 rfl) e9 (Exa.wr W9 (Exa.ext E3 E_0)) (by decide) own_pd9 d7_16 rfl rfl rfl (fun T10 L10 v10 X10 hQ10 => ?_)
  obtain ⟨rfl, Nq10, eq10⟩ := hQ10
  have N10 := Fr.app N9 Nq10
  show gs T10 m 19 #[vr a1, vr aS, vr b3, vi 1] [(.int 1), (.int 1)]
  refine own_st (fun _ kS => XS.icmpYes X10.here hx rfl (pc0 := 19) (pc' := 65) rfl (hb hby d7_19) rfl (flt (by decide : ¬ ((1 : Int32) < (1 : Int32)))).2.1 (by decide) (by decide) kS) ?_
  show gs T10 m 65 #[vr a1, vr aS, vr b3, vi 1] []
  refine oaloadN X10 hx hby d7_65 rfl rfl ?_
  exact own_retA X10 hx hlk hret rfl rfl (hb hby d7_66) (by decide) (by decide) (by rw [eq10]; exact ⟨b3, k3, ⟨rfl, N10, K9, sz_b3, R9⟩⟩)
theorem ef_enc_1_2_1 (m : MethodId) (x0 : Addr) (x1 : Addr) : entryFrame m #[(.ref x0), (.ref x1)] 4 = mkF m 0 #[.val (.ref x0), .val (.ref x1), .unset, .unset] [] := by first | (simp [entryFrame, mkF, argsToLocals, Value.category]; done) | rfl
def Q_enc_1_2_1 (Z : State) (a1 : Addr) (aS : Addr) (tA : Addr) (kA : ClassId) (y0 : Int32) (zCS : Int32) (fm : Value) (h0 : Heap) (n0 : Nat) (v : Option Value) (h : Heap) (L : List Loc) : Prop := ∃ tN : Addr, ∃ kN : ClassId, v = some (.ref tN) ∧ Fr n0 L ∧ Keep h0 h [] ∧ h0.size ≤ tN ∧ Arv Z h tN kN .byte (2 : Int32) [(.int (nar .byte ((own_lat y0).toInt8.toInt32))), (.int 0)] (.int 0)
theorem rm_enc_1_2_1 (l : Launch) (Z : State) (a0 : Array Value) (hw : HW a0 Z) (ws : List Jvm.Cond) (a1 : Addr) (aS : Addr) (tA : Addr) (kA : ClassId) (y0 : Int32) (zCS : Int32) (fm : Value) (h0 : Heap) (n0 : Nat) (Z0 : n0 ≤ h0.size) (O0 : Old Z n0 h0) (Fw : fk10 Z Z.heap a1 (.int 2)) (Fl : fk11 Z Z.heap a1 (.int 1)) (E_0 : ek12 Z h0 aS) (F0v : fk9 Z h0 aS (.ref tA)) (F0c : fk8 Z h0 aS (.int 0)) (R_A : Arv Z h0 tA kA .byte (1 : Int32) [(.int y0)] (.int 0)) (S_CS : sk0 Z Z.heap (.int zCS)) (P_CS : ¬ zCS = 0) (S_SF : sk1 Z Z.heap fm) (P_SF : fm.isRef = true) :
    M12 l ws (rmk 4 1 2 55) Z #[(.ref a1), (.ref aS)] h0 (Q_enc_1_2_1 Z a1 aS tA kA y0 zCS fm h0 n0) := by
  refine own_go "com/example/provenir/provenir/TextEncoding" rfl (plainFor_of_name pn_7) (fun m => ef_enc_1_2_1 m a1 aS) (fun p e s m below meth c s₁ hx hby hml hown hnm hlk hret hZ X0 e0 => ?_)
  have N0 := Fr.nil n0
  have K0 := Keep.refl h0 []
  show gs s₁ m 0 #[vr a1, vr aS, .unset, .unset] []
  refine oaloadN X0 hx hby d7_0 rfl rfl ?_
  refine oV 0 X0 hx hZ hby hml hown (own_w hw 39 rfl) (own_w hw 40 rfl) (own_w hw 42 rfl) (own_w hw 41 rfl) (rm_sLen_1 l Z a0 hw [] aS tA kA y0 zCS h0 n0 Z0 O0 E_0 F0v F0c R_A S_CS P_CS) (own_w hw 43 rfl) (own_w hw 7 rfl) e0 E_0 (by decide) own_pd9 d7_1 rfl rfl rfl (fun T1 L1 v1 X1 hQ1 => ?_)
  obtain ⟨rfl, Nq1, eq1⟩ := hQ1
  have N1 := Fr.app N0 Nq1
  show gs T1 m 4 #[vr a1, vr aS, .unset, .unset] [(.int 1)]
  refine oaloadN X1 hx hby d7_4 rfl rfl ?_
  obtain ⟨T2, X2, e2, st2⟩ := getF X1 hx hZ hown (host := "") (Or.inl (own_w hw 49 rfl)) Via.refl eq1 (Fld.ext O0.2 Fw) (g := (mkF m 5 #[vr a1, vr aS, .unset, .unset] [(.ref a1), (.int 1)])) rfl rfl (hb hby d7_5)
  refine own_st st2 ?_
  show gs T2 m 8 #[vr a1, vr aS, .unset, .unset] [(.int 2), (.int 1)]
  refine own_st (fun _ kS => XS.imul X2.here hx rfl (hb hby d7_8) rfl kS) ?_
  show gs T2 m 9 #[vr a1, vr aS, .unset, .unset] [(.int 2)]
  obtain ⟨T3, h3, k3, X3, e3, E3, A3, st3⟩ := newP X2 hx hZ (own_w hw 23 rfl) e2 (g := (mkF m 9 #[vr a1, vr aS, .unset, .unset] [(.int 2)])) rfl (hb hby d7_9) rfl (by decide) (cap := 2) (by decide) (by decide) (by decide) (by decide)
  obtain ⟨b3, g3⟩ : ∃ z, z = h0.size := ⟨_, rfl⟩
  have ne_aS_b3 : aS ≠ b3 := Nat.ne_of_lt (Nat.lt_of_lt_of_eq E_0.lt g3.symm)
  have ne_tA_b3 : tA ≠ b3 := Nat.ne_of_lt (Nat.lt_of_lt_of_eq R_A.lt g3.symm)
  have ge_b3 : n0 ≤ b3 := Nat.le_trans Z0 (Nat.le_of_eq g3.symm)
  have sz_b3 : h0.size ≤ b3 := Nat.le_trans K0.1 (Nat.le_of_eq g3.symm)
  rw [← g3] at A3 st3
  have K3 := K0.ext E3
  have O3 := O0.ext E3
  have R3 : Arv Z h3 b3 k3 .byte (2 : Int32) [(.int 0), (.int 0)] (.int 0) := (Arv.new A3 (by decide)).pad (pad_rep [] (.int 0) 2)
  refine own_st st3 ?_
  show gs T3 m 11 #[vr a1, vr aS, .unset, .unset] [(.ref b3)]
  refine own_st (fun _ kS => XS.astoreN X3.here hx rfl (hb hby d7_11) rfl rfl (l' := #[vr a1, vr aS, vr b3, .unset]) rfl kS) ?_
  refine oiconst X3 hx hby d7_12 ?_
  refine own_st (fun _ kS => XS.istoreN X3.here hx rfl (hb hby d7_13) rfl (l' := #[vr a1, vr aS, vr b3, vi 0]) rfl kS) ?_
  refine oiloadN X3 hx hby d7_14 rfl ?_
  refine oaloadN X3 hx hby d7_15 rfl rfl ?_
  refine oV 1 X3 hx hZ hby hml hown (own_w hw 39 rfl) (own_w hw 40 rfl) (own_w hw 42 rfl) (own_w hw 41 rfl) (rm_sLen_1 l Z a0 hw [] aS tA kA y0 zCS h3 n0 (Nat.le_trans Z0 E3.1) O3 (Exa.ext E3 E_0) (Fld.ext E3 F0v) (Fld.ext E3 F0c) (Arv.ext R_A E3) S_CS P_CS) (own_w hw 43 rfl) (own_w hw 7 rfl) e3 (Exa.ext E3 E_0) (by decide) own_pd9 d7_16 rfl rfl rfl (fun T4 L4 v4 X4 hQ4 => ?_)
  obtain ⟨rfl, Nq4, eq4⟩ := hQ4
  have N4 := Fr.app N1 Nq4
  show gs T4 m 19 #[vr a1, vr aS, vr b3, vi 0] [(.int 1), (.int 0)]
  refine own_st (fun _ kS => XS.icmpNo X4.here hx rfl (hb hby d7_19) rfl (tlt (by decide : (0 : Int32) < (1 : Int32))).2.1 kS) ?_
  show gs T4 m 22 #[vr a1, vr aS, vr b3, vi 0] []
  refine oaloadN X4 hx hby d7_22 rfl rfl ?_
  refine oaloadN X4 hx hby d7_23 rfl rfl ?_
  obtain ⟨T5, X5, e5, st5⟩ := getF X4 hx hZ hown (host := "") (Or.inl (own_w hw 51 rfl)) Via.refl eq4 (Fld.ext O3.2 Fl) (g := (mkF m 24 #[vr a1, vr aS, vr b3, vi 0] [(.ref a1), (.ref b3)])) rfl rfl (hb hby d7_24)
  refine own_st st5 ?_
  show gs T5 m 27 #[vr a1, vr aS, vr b3, vi 0] [(.int 1), (.ref b3)]
  refine own_st (fun _ kS => XS.ifNo X5.here hx rfl (hb hby d7_27) rfl ((if0 _ _).trans (feq (by decide : ¬ ((1 : Int32) = (0 : Int32)))).1) kS) ?_
  show gs T5 m 30 #[vr a1, vr aS, vr b3, vi 0] [(.ref b3)]
  refine oiloadN X5 hx hby d7_30 rfl ?_
  refine oaloadN X5 hx hby d7_31 rfl rfl ?_
  obtain ⟨T6, X6, e6, st6⟩ := getF X5 hx hZ hown (host := "") (Or.inl (own_w hw 49 rfl)) Via.refl e5 (Fld.ext O3.2 Fw) (g := (mkF m 32 #[vr a1, vr aS, vr b3, vi 0] [(.ref a1), (.int 0), (.ref b3)])) rfl rfl (hb hby d7_32)
  refine own_st st6 ?_
  show gs T6 m 35 #[vr a1, vr aS, vr b3, vi 0] [(.int 2), (.int 0), (.ref b3)]
  refine own_st (fun _ kS => XS.imul X6.here hx rfl (hb hby d7_35) rfl kS) ?_
  refine own_st (fun _ kS => XS.goto X6.here hx rfl (pc0 := 36) (pc' := 52) rfl (hb hby d7_36) (by decide) (by decide) kS) ?_
  refine oaloadN X6 hx hby d7_52 rfl rfl ?_
  refine oiloadN X6 hx hby d7_53 rfl ?_
  refine oV 2 X6 hx hZ hby hml hown (own_w hw 53 rfl) (own_w hw 54 rfl) (own_w hw 56 rfl) (own_w hw 55 rfl) (rm_chAt_1_0 l Z a0 hw [] aS tA kA y0 zCS fm h3 n0 (Nat.le_trans Z0 E3.1) O3 (Exa.ext E3 E_0) (Fld.ext E3 F0v) (Fld.ext E3 F0c) (Arv.ext R_A E3) S_CS P_CS S_SF P_SF) (own_w hw 57 rfl) (own_w hw 7 rfl) e6 (Exa.ext E3 E_0) (by decide) own_pd10 d7_54 rfl rfl rfl (fun T7 L7 v7 X7 hQ7 => ?_)
  obtain ⟨rfl, Nq7, eq7⟩ := hQ7
  have N7 := Fr.app N4 Nq7
  show gs T7 m 57 #[vr a1, vr aS, vr b3, vi 0] [(.int (own_lat y0)), (.int 0), (.ref b3)]
  refine own_st (fun _ kS => XT.i2b X7.here hx rfl (hb hby d7_57) rfl kS) ?_
  show gs T7 m 58 #[vr a1, vr aS, vr b3, vi 0] [(.int ((own_lat y0).toInt8.toInt32)), (.int 0), (.ref b3)]
  obtain ⟨cl8, Ar8, qa8, qs8, qn8, qh8, qg8⟩ := id R3
  obtain ⟨T8, h8, X8, e8, W8, st8⟩ := stB X7 hx hZ eq7 Ar8 (j := (0 : Int32)) (inb_of qs8 ⟨by decide, by decide⟩) (g := (mkF m 58 #[vr a1, vr aS, vr b3, vi 0] [(.int ((own_lat y0).toInt8.toInt32)), (.int 0), (.ref b3)])) rfl rfl (hb hby d7_58)
  have N8 := Fr.snoc X8 N7 ge_b3
  have K8 := K3.wr W8 (Or.inr sz_b3)
  have O8 := O3.wr W8 ge_b3
  have R8 : Arv Z h8 b3 k3 .byte (2 : Int32) [(.int (nar .byte ((own_lat y0).toInt8.toInt32))), (.int 0)] (.int 0) := Arv.set Ar8 qa8 qs8 qn8 qh8 qg8 (fits_nar_byte _) W8 0 rfl (Nat.le_of_ble_eq_true rfl)
  refine own_st st8 ?_
  show gs T8 m 59 #[vr a1, vr aS, vr b3, vi 0] []
  refine own_st (fun _ kS => XS.iinc X8.here hx rfl (hb hby d7_59) rfl (l' := #[vr a1, vr aS, vr b3, vi 1]) rfl kS) ?_
  refine own_st (fun _ kS => XS.goto X8.here hx rfl (pc0 := 62) (pc' := 14) rfl (hb hby d7_62) (by decide) (by decide) kS) ?_
  refine oiloadN X8 hx hby d7_14 rfl ?_
  refine oaloadN X8 hx hby d7_15 rfl rfl ?_
  refine oV 1 X8 hx hZ hby hml hown (own_w hw 39 rfl) (own_w hw 40 rfl) (own_w hw 42 rfl) (own_w hw 41 rfl) (rm_sLen_1 l Z a0 hw [] aS tA kA y0 zCS h8 n0 (Nat.le_trans (Nat.le_trans Z0 E3.1) (Keep.of_wr W8).1) O8 (Exa.wr W8 (Exa.ext E3 E_0)) (Fld.other W8 (Fld.ext E3 F0v) (Or.inl ne_aS_b3)) (Fld.other W8 (Fld.ext E3 F0c) (Or.inl ne_aS_b3)) ((Arv.ext R_A E3).other W8 ne_tA_b3) S_CS P_CS) (own_w hw 43 rfl) (own_w hw 7 rfl) e8 (Exa.wr W8 (Exa.ext E3 E_0)) (by decide) own_pd9 d7_16 rfl rfl rfl (fun T9 L9 v9 X9 hQ9 => ?_)
  obtain ⟨rfl, Nq9, eq9⟩ := hQ9
  have N9 := Fr.app N8 Nq9
  show gs T9 m 19 #[vr a1, vr aS, vr b3, vi 1] [(.int 1), (.int 1)]
  refine own_st (fun _ kS => XS.icmpYes X9.here hx rfl (pc0 := 19) (pc' := 65) rfl (hb hby d7_19) rfl (flt (by decide : ¬ ((1 : Int32) < (1 : Int32)))).2.1 (by decide) (by decide) kS) ?_
  show gs T9 m 65 #[vr a1, vr aS, vr b3, vi 1] []
  refine oaloadN X9 hx hby d7_65 rfl rfl ?_
  exact own_retA X9 hx hlk hret rfl rfl (hb hby d7_66) (by decide) (by decide) (by rw [eq9]; exact ⟨b3, k3, ⟨rfl, N9, K8, sz_b3, R8⟩⟩)
theorem ef_enc_2_1_0 (m : MethodId) (x0 : Addr) (x1 : Addr) : entryFrame m #[(.ref x0), (.ref x1)] 4 = mkF m 0 #[.val (.ref x0), .val (.ref x1), .unset, .unset] [] := by first | (simp [entryFrame, mkF, argsToLocals, Value.category]; done) | rfl
def Q_enc_2_1_0 (Z : State) (a1 : Addr) (aS : Addr) (tA : Addr) (kA : ClassId) (y0 : Int32) (y1 : Int32) (zCS : Int32) (fm : Value) (h0 : Heap) (n0 : Nat) (v : Option Value) (h : Heap) (L : List Loc) : Prop := ∃ tN : Addr, ∃ kN : ClassId, v = some (.ref tN) ∧ Fr n0 L ∧ Keep h0 h [] ∧ h0.size ≤ tN ∧ Arv Z h tN kN .byte (2 : Int32) [(.int (nar .byte ((own_lat y0).toInt8.toInt32))), (.int (nar .byte ((own_lat y1).toInt8.toInt32)))] (.int 0)
theorem rm_enc_2_1_0 (l : Launch) (Z : State) (a0 : Array Value) (hw : HW a0 Z) (ws : List Jvm.Cond) (a1 : Addr) (aS : Addr) (tA : Addr) (kA : ClassId) (y0 : Int32) (y1 : Int32) (zCS : Int32) (fm : Value) (h0 : Heap) (n0 : Nat) (Z0 : n0 ≤ h0.size) (O0 : Old Z n0 h0) (Fw : fk10 Z Z.heap a1 (.int 1)) (Fl : fk11 Z Z.heap a1 (.int 0)) (E_0 : ek12 Z h0 aS) (F0v : fk9 Z h0 aS (.ref tA)) (F0c : fk8 Z h0 aS (.int 0)) (R_A : Arv Z h0 tA kA .byte (2 : Int32) [(.int y0), (.int y1)] (.int 0)) (S_CS : sk0 Z Z.heap (.int zCS)) (P_CS : ¬ zCS = 0) (S_SF : sk1 Z Z.heap fm) (P_SF : fm.isRef = true) :
    M12 l ws (rmk 4 1 2 55) Z #[(.ref a1), (.ref aS)] h0 (Q_enc_2_1_0 Z a1 aS tA kA y0 y1 zCS fm h0 n0) := by
  refine own_go "com/example/provenir/provenir/TextEncoding" rfl (plainFor_of_name pn_7) (fun m => ef_enc_2_1_0 m a1 aS) (fun p e s m below meth c s₁ hx hby hml hown hnm hlk hret hZ X0 e0 => ?_)
  have N0 := Fr.nil n0
  have K0 := Keep.refl h0 []
  show gs s₁ m 0 #[vr a1, vr aS, .unset, .unset] []
  refine oaloadN X0 hx hby d7_0 rfl rfl ?_
  refine oV 0 X0 hx hZ hby hml hown (own_w hw 39 rfl) (own_w hw 40 rfl) (own_w hw 42 rfl) (own_w hw 41 rfl) (rm_sLen_2 l Z a0 hw [] aS tA kA y0 y1 zCS h0 n0 Z0 O0 E_0 F0v F0c R_A S_CS P_CS) (own_w hw 43 rfl) (own_w hw 7 rfl) e0 E_0 (by decide) own_pd9 d7_1 rfl rfl rfl (fun T1 L1 v1 X1 hQ1 => ?_)
  obtain ⟨rfl, Nq1, eq1⟩ := hQ1
  have N1 := Fr.app N0 Nq1
  show gs T1 m 4 #[vr a1, vr aS, .unset, .unset] [(.int 2)]
  refine oaloadN X1 hx hby d7_4 rfl rfl ?_
  obtain ⟨T2, X2, e2, st2⟩ := getF X1 hx hZ hown (host := "") (Or.inl (own_w hw 49 rfl)) Via.refl eq1 (Fld.ext O0.2 Fw) (g := (mkF m 5 #[vr a1, vr aS, .unset, .unset] [(.ref a1), (.int 2)])) rfl rfl (hb hby d7_5)
  refine own_st st2 ?_
  show gs T2 m 8 #[vr a1, vr aS, .unset, .unset] [(.int 1), (.int 2)]
  refine own_st (fun _ kS => XS.imul X2.here hx rfl (hb hby d7_8) rfl kS) ?_
  show gs T2 m 9 #[vr a1, vr aS, .unset, .unset] [(.int 2)]
  obtain ⟨T3, h3, k3, X3, e3, E3, A3, st3⟩ := newP X2 hx hZ (own_w hw 23 rfl) e2 (g := (mkF m 9 #[vr a1, vr aS, .unset, .unset] [(.int 2)])) rfl (hb hby d7_9) rfl (by decide) (cap := 2) (by decide) (by decide) (by decide) (by decide)
  obtain ⟨b3, g3⟩ : ∃ z, z = h0.size := ⟨_, rfl⟩
  have ne_aS_b3 : aS ≠ b3 := Nat.ne_of_lt (Nat.lt_of_lt_of_eq E_0.lt g3.symm)
  have ne_tA_b3 : tA ≠ b3 := Nat.ne_of_lt (Nat.lt_of_lt_of_eq R_A.lt g3.symm)
  have ge_b3 : n0 ≤ b3 := Nat.le_trans Z0 (Nat.le_of_eq g3.symm)
  have sz_b3 : h0.size ≤ b3 := Nat.le_trans K0.1 (Nat.le_of_eq g3.symm)
  rw [← g3] at A3 st3
  have K3 := K0.ext E3
  have O3 := O0.ext E3
  have R3 : Arv Z h3 b3 k3 .byte (2 : Int32) [(.int 0), (.int 0)] (.int 0) := (Arv.new A3 (by decide)).pad (pad_rep [] (.int 0) 2)
  refine own_st st3 ?_
  show gs T3 m 11 #[vr a1, vr aS, .unset, .unset] [(.ref b3)]
  refine own_st (fun _ kS => XS.astoreN X3.here hx rfl (hb hby d7_11) rfl rfl (l' := #[vr a1, vr aS, vr b3, .unset]) rfl kS) ?_
  refine oiconst X3 hx hby d7_12 ?_
  refine own_st (fun _ kS => XS.istoreN X3.here hx rfl (hb hby d7_13) rfl (l' := #[vr a1, vr aS, vr b3, vi 0]) rfl kS) ?_
  refine oiloadN X3 hx hby d7_14 rfl ?_
  refine oaloadN X3 hx hby d7_15 rfl rfl ?_
  refine oV 1 X3 hx hZ hby hml hown (own_w hw 39 rfl) (own_w hw 40 rfl) (own_w hw 42 rfl) (own_w hw 41 rfl) (rm_sLen_2 l Z a0 hw [] aS tA kA y0 y1 zCS h3 n0 (Nat.le_trans Z0 E3.1) O3 (Exa.ext E3 E_0) (Fld.ext E3 F0v) (Fld.ext E3 F0c) (Arv.ext R_A E3) S_CS P_CS) (own_w hw 43 rfl) (own_w hw 7 rfl) e3 (Exa.ext E3 E_0) (by decide) own_pd9 d7_16 rfl rfl rfl (fun T4 L4 v4 X4 hQ4 => ?_)
  obtain ⟨rfl, Nq4, eq4⟩ := hQ4
  have N4 := Fr.app N1 Nq4
  show gs T4 m 19 #[vr a1, vr aS, vr b3, vi 0] [(.int 2), (.int 0)]
  refine own_st (fun _ kS => XS.icmpNo X4.here hx rfl (hb hby d7_19) rfl (tlt (by decide : (0 : Int32) < (2 : Int32))).2.1 kS) ?_
  show gs T4 m 22 #[vr a1, vr aS, vr b3, vi 0] []
  refine oaloadN X4 hx hby d7_22 rfl rfl ?_
  refine oaloadN X4 hx hby d7_23 rfl rfl ?_
  obtain ⟨T5, X5, e5, st5⟩ := getF X4 hx hZ hown (host := "") (Or.inl (own_w hw 51 rfl)) Via.refl eq4 (Fld.ext O3.2 Fl) (g := (mkF m 24 #[vr a1, vr aS, vr b3, vi 0] [(.ref a1), (.ref b3)])) rfl rfl (hb hby d7_24)
  refine own_st st5 ?_
  show gs T5 m 27 #[vr a1, vr aS, vr b3, vi 0] [(.int 0), (.ref b3)]
  refine own_st (fun _ kS => XS.ifYes X5.here hx rfl (pc0 := 27) (pc' := 39) rfl (hb hby d7_27) rfl ((if0 _ _).trans (teq (by decide : (0 : Int32) = (0 : Int32))).1) (by decide) (by decide) kS) ?_
  show gs T5 m 39 #[vr a1, vr aS, vr b3, vi 0] [(.ref b3)]
  refine oiloadN X5 hx hby d7_39 rfl ?_
  refine oaloadN X5 hx hby d7_40 rfl rfl ?_
  obtain ⟨T6, X6, e6, st6⟩ := getF X5 hx hZ hown (host := "") (Or.inl (own_w hw 49 rfl)) Via.refl e5 (Fld.ext O3.2 Fw) (g := (mkF m 41 #[vr a1, vr aS, vr b3, vi 0] [(.ref a1), (.int 0), (.ref b3)])) rfl rfl (hb hby d7_41)
  refine own_st st6 ?_
  show gs T6 m 44 #[vr a1, vr aS, vr b3, vi 0] [(.int 1), (.int 0), (.ref b3)]
  refine own_st (fun _ kS => XS.imul X6.here hx rfl (hb hby d7_44) rfl kS) ?_
  refine oaloadN X6 hx hby d7_45 rfl rfl ?_
  obtain ⟨T7, X7, e7, st7⟩ := getF X6 hx hZ hown (host := "") (Or.inl (own_w hw 49 rfl)) Via.refl e6 (Fld.ext O3.2 Fw) (g := (mkF m 46 #[vr a1, vr aS, vr b3, vi 0] [(.ref a1), (.int 0), (.ref b3)])) rfl rfl (hb hby d7_46)
  refine own_st st7 ?_
  show gs T7 m 49 #[vr a1, vr aS, vr b3, vi 0] [(.int 1), (.int 0), (.ref b3)]
  refine own_st (fun _ kS => XS.iadd X7.here hx rfl (hb hby d7_49) rfl kS) ?_
  refine oiconst X7 hx hby d7_50 ?_
  refine own_st (fun _ kS => XS.isub X7.here hx rfl (hb hby d7_51) rfl kS) ?_
  refine oaloadN X7 hx hby d7_52 rfl rfl ?_
  refine oiloadN X7 hx hby d7_53 rfl ?_
  refine oV 2 X7 hx hZ hby hml hown (own_w hw 53 rfl) (own_w hw 54 rfl) (own_w hw 56 rfl) (own_w hw 55 rfl) (rm_chAt_2_0 l Z a0 hw [] aS tA kA y0 y1 zCS fm h3 n0 (Nat.le_trans Z0 E3.1) O3 (Exa.ext E3 E_0) (Fld.ext E3 F0v) (Fld.ext E3 F0c) (Arv.ext R_A E3) S_CS P_CS S_SF P_SF) (own_w hw 57 rfl) (own_w hw 7 rfl) e7 (Exa.ext E3 E_0) (by decide) own_pd10 d7_54 rfl rfl rfl (fun T8 L8 v8 X8 hQ8 => ?_)
  obtain ⟨rfl, Nq8, eq8⟩ := hQ8
  have N8 := Fr.app N4 Nq8
  show gs T8 m 57 #[vr a1, vr aS, vr b3, vi 0] [(.int (own_lat y0)), (.int 0), (.ref b3)]
  refine own_st (fun _ kS => XT.i2b X8.here hx rfl (hb hby d7_57) rfl kS) ?_
  show gs T8 m 58 #[vr a1, vr aS, vr b3, vi 0] [(.int ((own_lat y0).toInt8.toInt32)), (.int 0), (.ref b3)]
  obtain ⟨cl9, Ar9, qa9, qs9, qn9, qh9, qg9⟩ := id R3
  obtain ⟨T9, h9, X9, e9, W9, st9⟩ := stB X8 hx hZ eq8 Ar9 (j := (0 : Int32)) (inb_of qs9 ⟨by decide, by decide⟩) (g := (mkF m 58 #[vr a1, vr aS, vr b3, vi 0] [(.int ((own_lat y0).toInt8.toInt32)), (.int 0), (.ref b3)])) rfl rfl (hb hby d7_58)
  have N9 := Fr.snoc X9 N8 ge_b3
  have K9 := K3.wr W9 (Or.inr sz_b3)
  have O9 := O3.wr W9 ge_b3
  have R9 : Arv Z h9 b3 k3 .byte (2 : Int32) [(.int (nar .byte ((own_lat y0).toInt8.toInt32))), (.int 0)] (.int 0) := Arv.set Ar9 qa9 qs9 qn9 qh9 qg9 (fits_nar_byte _) W9 0 rfl (Nat.le_of_ble_eq_true rfl)
  refine own_st st9 ?_
  show gs T9 m 59 #[vr a1, vr aS, vr b3, vi 0] []
  refine own_st (fun _ kS => XS.iinc X9.here hx rfl (hb hby d7_59) rfl (l' := #[vr a1, vr aS, vr b3, vi 1]) rfl kS) ?_
  refine own_st (fun _ kS => XS.goto X9.here hx rfl (pc0 := 62) (pc' := 14) rfl (hb hby d7_62) (by decide) (by decide) kS) ?_
  refine oiloadN X9 hx hby d7_14 rfl ?_
  refine oaloadN X9 hx hby d7_15 rfl rfl ?_
  refine oV 1 X9 hx hZ hby hml hown (own_w hw 39 rfl) (own_w hw 40 rfl) (own_w hw 42 rfl) (own_w hw 41 rfl) (rm_sLen_2 l Z a0 hw [] aS tA kA y0 y1 zCS h9 n0 (Nat.le_trans (Nat.le_trans Z0 E3.1) (Keep.of_wr W9).1) O9 (Exa.wr W9 (Exa.ext E3 E_0)) (Fld.other W9 (Fld.ext E3 F0v) (Or.inl ne_aS_b3)) (Fld.other W9 (Fld.ext E3 F0c) (Or.inl ne_aS_b3)) ((Arv.ext R_A E3).other W9 ne_tA_b3) S_CS P_CS) (own_w hw 43 rfl) (own_w hw 7 rfl) e9 (Exa.wr W9 (Exa.ext E3 E_0)) (by decide) own_pd9 d7_16 rfl rfl rfl (fun T10 L10 v10 X10 hQ10 => ?_)
  obtain ⟨rfl, Nq10, eq10⟩ := hQ10
  have N10 := Fr.app N9 Nq10
  show gs T10 m 19 #[vr a1, vr aS, vr b3, vi 1] [(.int 2), (.int 1)]
  refine own_st (fun _ kS => XS.icmpNo X10.here hx rfl (hb hby d7_19) rfl (tlt (by decide : (1 : Int32) < (2 : Int32))).2.1 kS) ?_
  show gs T10 m 22 #[vr a1, vr aS, vr b3, vi 1] []
  refine oaloadN X10 hx hby d7_22 rfl rfl ?_
  refine oaloadN X10 hx hby d7_23 rfl rfl ?_
  obtain ⟨T11, X11, e11, st11⟩ := getF X10 hx hZ hown (host := "") (Or.inl (own_w hw 51 rfl)) Via.refl eq10 (Fld.ext O9.2 Fl) (g := (mkF m 24 #[vr a1, vr aS, vr b3, vi 1] [(.ref a1), (.ref b3)])) rfl rfl (hb hby d7_24)
  refine own_st st11 ?_
  show gs T11 m 27 #[vr a1, vr aS, vr b3, vi 1] [(.int 0), (.ref b3)]
  refine own_st (fun _ kS => XS.ifYes X11.here hx rfl (pc0 := 27) (pc' := 39) rfl (hb hby d7_27) rfl ((if0 _ _).trans (teq (by decide : (0 : Int32) = (0 : Int32))).1) (by decide) (by decide) kS) ?_
  show gs T11 m 39 #[vr a1, vr aS, vr b3, vi 1] [(.ref b3)]
  refine oiloadN X11 hx hby d7_39 rfl ?_
  refine oaloadN X11 hx hby d7_40 rfl rfl ?_
  obtain ⟨T12, X12, e12, st12⟩ := getF X11 hx hZ hown (host := "") (Or.inl (own_w hw 49 rfl)) Via.refl e11 (Fld.ext O9.2 Fw) (g := (mkF m 41 #[vr a1, vr aS, vr b3, vi 1] [(.ref a1), (.int 1), (.ref b3)])) rfl rfl (hb hby d7_41)
  refine own_st st12 ?_
  show gs T12 m 44 #[vr a1, vr aS, vr b3, vi 1] [(.int 1), (.int 1), (.ref b3)]
  refine own_st (fun _ kS => XS.imul X12.here hx rfl (hb hby d7_44) rfl kS) ?_
  refine oaloadN X12 hx hby d7_45 rfl rfl ?_
  obtain ⟨T13, X13, e13, st13⟩ := getF X12 hx hZ hown (host := "") (Or.inl (own_w hw 49 rfl)) Via.refl e12 (Fld.ext O9.2 Fw) (g := (mkF m 46 #[vr a1, vr aS, vr b3, vi 1] [(.ref a1), (.int 1), (.ref b3)])) rfl rfl (hb hby d7_46)
  refine own_st st13 ?_
  show gs T13 m 49 #[vr a1, vr aS, vr b3, vi 1] [(.int 1), (.int 1), (.ref b3)]
  refine own_st (fun _ kS => XS.iadd X13.here hx rfl (hb hby d7_49) rfl kS) ?_
  refine oiconst X13 hx hby d7_50 ?_
  refine own_st (fun _ kS => XS.isub X13.here hx rfl (hb hby d7_51) rfl kS) ?_
  refine oaloadN X13 hx hby d7_52 rfl rfl ?_
  refine oiloadN X13 hx hby d7_53 rfl ?_
  refine oV 2 X13 hx hZ hby hml hown (own_w hw 53 rfl) (own_w hw 54 rfl) (own_w hw 56 rfl) (own_w hw 55 rfl) (rm_chAt_2_1 l Z a0 hw [] aS tA kA y0 y1 zCS fm h9 n0 (Nat.le_trans (Nat.le_trans Z0 E3.1) (Keep.of_wr W9).1) O9 (Exa.wr W9 (Exa.ext E3 E_0)) (Fld.other W9 (Fld.ext E3 F0v) (Or.inl ne_aS_b3)) (Fld.other W9 (Fld.ext E3 F0c) (Or.inl ne_aS_b3)) ((Arv.ext R_A E3).other W9 ne_tA_b3) S_CS P_CS S_SF P_SF) (own_w hw 57 rfl) (own_w hw 7 rfl) e13 (Exa.wr W9 (Exa.ext E3 E_0)) (by decide) own_pd10 d7_54 rfl rfl rfl (fun T14 L14 v14 X14 hQ14 => ?_)
  obtain ⟨rfl, Nq14, eq14⟩ := hQ14
  have N14 := Fr.app N10 Nq14
  show gs T14 m 57 #[vr a1, vr aS, vr b3, vi 1] [(.int (own_lat y1)), (.int 1), (.ref b3)]
  refine own_st (fun _ kS => XT.i2b X14.here hx rfl (hb hby d7_57) rfl kS) ?_
  show gs T14 m 58 #[vr a1, vr aS, vr b3, vi 1] [(.int ((own_lat y1).toInt8.toInt32)), (.int 1), (.ref b3)]
  obtain ⟨cl15, Ar15, qa15, qs15, qn15, qh15, qg15⟩ := id R9
  obtain ⟨T15, h15, X15, e15, W15, st15⟩ := stB X14 hx hZ eq14 Ar15 (j := (1 : Int32)) (inb_of qs15 ⟨by decide, by decide⟩) (g := (mkF m 58 #[vr a1, vr aS, vr b3, vi 1] [(.int ((own_lat y1).toInt8.toInt32)), (.int 1), (.ref b3)])) rfl rfl (hb hby d7_58)
  have N15 := Fr.snoc X15 N14 ge_b3
  have K15 := K9.wr W15 (Or.inr sz_b3)
  have O15 := O9.wr W15 ge_b3
  have R15 : Arv Z h15 b3 k3 .byte (2 : Int32) [(.int (nar .byte ((own_lat y0).toInt8.toInt32))), (.int (nar .byte ((own_lat y1).toInt8.toInt32)))] (.int 0) := Arv.set Ar15 qa15 qs15 qn15 qh15 qg15 (fits_nar_byte _) W15 1 rfl (Nat.le_of_ble_eq_true rfl)
  refine own_st st15 ?_
  show gs T15 m 59 #[vr a1, vr aS, vr b3, vi 1] []
  refine own_st (fun _ kS => XS.iinc X15.here hx rfl (hb hby d7_59) rfl (l' := #[vr a1, vr aS, vr b3, vi 2]) rfl kS) ?_
  refine own_st (fun _ kS => XS.goto X15.here hx rfl (pc0 := 62) (pc' := 14) rfl (hb hby d7_62) (by decide) (by decide) kS) ?_
  refine oiloadN X15 hx hby d7_14 rfl ?_
  refine oaloadN X15 hx hby d7_15 rfl rfl ?_
  refine oV 1 X15 hx hZ hby hml hown (own_w hw 39 rfl) (own_w hw 40 rfl) (own_w hw 42 rfl) (own_w hw 41 rfl) (rm_sLen_2 l Z a0 hw [] aS tA kA y0 y1 zCS h15 n0 (Nat.le_trans (Nat.le_trans (Nat.le_trans Z0 E3.1) (Keep.of_wr W9).1) (Keep.of_wr W15).1) O15 (Exa.wr W15 (Exa.wr W9 (Exa.ext E3 E_0))) (Fld.other W15 (Fld.other W9 (Fld.ext E3 F0v) (Or.inl ne_aS_b3)) (Or.inl ne_aS_b3)) (Fld.other W15 (Fld.other W9 (Fld.ext E3 F0c) (Or.inl ne_aS_b3)) (Or.inl ne_aS_b3)) (((Arv.ext R_A E3).other W9 ne_tA_b3).other W15 ne_tA_b3) S_CS P_CS) (own_w hw 43 rfl) (own_w hw 7 rfl) e15 (Exa.wr W15 (Exa.wr W9 (Exa.ext E3 E_0))) (by decide) own_pd9 d7_16 rfl rfl rfl (fun T16 L16 v16 X16 hQ16 => ?_)
  obtain ⟨rfl, Nq16, eq16⟩ := hQ16
  have N16 := Fr.app N15 Nq16
  show gs T16 m 19 #[vr a1, vr aS, vr b3, vi 2] [(.int 2), (.int 2)]
  refine own_st (fun _ kS => XS.icmpYes X16.here hx rfl (pc0 := 19) (pc' := 65) rfl (hb hby d7_19) rfl (flt (by decide : ¬ ((2 : Int32) < (2 : Int32)))).2.1 (by decide) (by decide) kS) ?_
  show gs T16 m 65 #[vr a1, vr aS, vr b3, vi 2] []
  refine oaloadN X16 hx hby d7_65 rfl rfl ?_
  exact own_retA X16 hx hlk hret rfl rfl (hb hby d7_66) (by decide) (by decide) (by rw [eq16]; exact ⟨b3, k3, ⟨rfl, N16, K15, sz_b3, R15⟩⟩)
theorem ef_enc_2_4_0 (m : MethodId) (x0 : Addr) (x1 : Addr) : entryFrame m #[(.ref x0), (.ref x1)] 4 = mkF m 0 #[.val (.ref x0), .val (.ref x1), .unset, .unset] [] := by first | (simp [entryFrame, mkF, argsToLocals, Value.category]; done) | rfl
def Q_enc_2_4_0 (Z : State) (a1 : Addr) (aS : Addr) (tA : Addr) (kA : ClassId) (y0 : Int32) (y1 : Int32) (zCS : Int32) (fm : Value) (h0 : Heap) (n0 : Nat) (v : Option Value) (h : Heap) (L : List Loc) : Prop := ∃ tN : Addr, ∃ kN : ClassId, v = some (.ref tN) ∧ Fr n0 L ∧ Keep h0 h [] ∧ h0.size ≤ tN ∧ Arv Z h tN kN .byte (8 : Int32) [(.int 0), (.int 0), (.int 0), (.int (nar .byte ((own_lat y0).toInt8.toInt32))), (.int 0), (.int 0), (.int 0), (.int (nar .byte ((own_lat y1).toInt8.toInt32)))] (.int 0)
theorem rm_enc_2_4_0 (l : Launch) (Z : State) (a0 : Array Value) (hw : HW a0 Z) (ws : List Jvm.Cond) (a1 : Addr) (aS : Addr) (tA : Addr) (kA : ClassId) (y0 : Int32) (y1 : Int32) (zCS : Int32) (fm : Value) (h0 : Heap) (n0 : Nat) (Z0 : n0 ≤ h0.size) (O0 : Old Z n0 h0) (Fw : fk10 Z Z.heap a1 (.int 4)) (Fl : fk11 Z Z.heap a1 (.int 0)) (E_0 : ek12 Z h0 aS) (F0v : fk9 Z h0 aS (.ref tA)) (F0c : fk8 Z h0 aS (.int 0)) (R_A : Arv Z h0 tA kA .byte (2 : Int32) [(.int y0), (.int y1)] (.int 0)) (S_CS : sk0 Z Z.heap (.int zCS)) (P_CS : ¬ zCS = 0) (S_SF : sk1 Z Z.heap fm) (P_SF : fm.isRef = true) :
    M12 l ws (rmk 4 1 8 55) Z #[(.ref a1), (.ref aS)] h0 (Q_enc_2_4_0 Z a1 aS tA kA y0 y1 zCS fm h0 n0) := by
  refine own_go "com/example/provenir/provenir/TextEncoding" rfl (plainFor_of_name pn_7) (fun m => ef_enc_2_4_0 m a1 aS) (fun p e s m below meth c s₁ hx hby hml hown hnm hlk hret hZ X0 e0 => ?_)
  have N0 := Fr.nil n0
  have K0 := Keep.refl h0 []
  show gs s₁ m 0 #[vr a1, vr aS, .unset, .unset] []
  refine oaloadN X0 hx hby d7_0 rfl rfl ?_
  refine oV 0 X0 hx hZ hby hml hown (own_w hw 39 rfl) (own_w hw 40 rfl) (own_w hw 42 rfl) (own_w hw 41 rfl) (rm_sLen_2 l Z a0 hw [] aS tA kA y0 y1 zCS h0 n0 Z0 O0 E_0 F0v F0c R_A S_CS P_CS) (own_w hw 43 rfl) (own_w hw 7 rfl) e0 E_0 (by decide) own_pd9 d7_1 rfl rfl rfl (fun T1 L1 v1 X1 hQ1 => ?_)
  obtain ⟨rfl, Nq1, eq1⟩ := hQ1
  have N1 := Fr.app N0 Nq1
  show gs T1 m 4 #[vr a1, vr aS, .unset, .unset] [(.int 2)]
  refine oaloadN X1 hx hby d7_4 rfl rfl ?_
  obtain ⟨T2, X2, e2, st2⟩ := getF X1 hx hZ hown (host := "") (Or.inl (own_w hw 49 rfl)) Via.refl eq1 (Fld.ext O0.2 Fw) (g := (mkF m 5 #[vr a1, vr aS, .unset, .unset] [(.ref a1), (.int 2)])) rfl rfl (hb hby d7_5)
  refine own_st st2 ?_
  show gs T2 m 8 #[vr a1, vr aS, .unset, .unset] [(.int 4), (.int 2)]
  refine own_st (fun _ kS => XS.imul X2.here hx rfl (hb hby d7_8) rfl kS) ?_
  show gs T2 m 9 #[vr a1, vr aS, .unset, .unset] [(.int 8)]
  obtain ⟨T3, h3, k3, X3, e3, E3, A3, st3⟩ := newP X2 hx hZ (own_w hw 23 rfl) e2 (g := (mkF m 9 #[vr a1, vr aS, .unset, .unset] [(.int 8)])) rfl (hb hby d7_9) rfl (by decide) (cap := 8) (by decide) (by decide) (by decide) (by decide)
  obtain ⟨b3, g3⟩ : ∃ z, z = h0.size := ⟨_, rfl⟩
  have ne_aS_b3 : aS ≠ b3 := Nat.ne_of_lt (Nat.lt_of_lt_of_eq E_0.lt g3.symm)
  have ne_tA_b3 : tA ≠ b3 := Nat.ne_of_lt (Nat.lt_of_lt_of_eq R_A.lt g3.symm)
  have ge_b3 : n0 ≤ b3 := Nat.le_trans Z0 (Nat.le_of_eq g3.symm)
  have sz_b3 : h0.size ≤ b3 := Nat.le_trans K0.1 (Nat.le_of_eq g3.symm)
  rw [← g3] at A3 st3
  have K3 := K0.ext E3
  have O3 := O0.ext E3
  have R3 : Arv Z h3 b3 k3 .byte (8 : Int32) [(.int 0), (.int 0), (.int 0), (.int 0), (.int 0), (.int 0), (.int 0), (.int 0)] (.int 0) := (Arv.new A3 (by decide)).pad (pad_rep [] (.int 0) 8)
  refine own_st st3 ?_
  show gs T3 m 11 #[vr a1, vr aS, .unset, .unset] [(.ref b3)]
  refine own_st (fun _ kS => XS.astoreN X3.here hx rfl (hb hby d7_11) rfl rfl (l' := #[vr a1, vr aS, vr b3, .unset]) rfl kS) ?_
  refine oiconst X3 hx hby d7_12 ?_
  refine own_st (fun _ kS => XS.istoreN X3.here hx rfl (hb hby d7_13) rfl (l' := #[vr a1, vr aS, vr b3, vi 0]) rfl kS) ?_
  refine oiloadN X3 hx hby d7_14 rfl ?_
  refine oaloadN X3 hx hby d7_15 rfl rfl ?_
  refine oV 1 X3 hx hZ hby hml hown (own_w hw 39 rfl) (own_w hw 40 rfl) (own_w hw 42 rfl) (own_w hw 41 rfl) (rm_sLen_2 l Z a0 hw [] aS tA kA y0 y1 zCS h3 n0 (Nat.le_trans Z0 E3.1) O3 (Exa.ext E3 E_0) (Fld.ext E3 F0v) (Fld.ext E3 F0c) (Arv.ext R_A E3) S_CS P_CS) (own_w hw 43 rfl) (own_w hw 7 rfl) e3 (Exa.ext E3 E_0) (by decide) own_pd9 d7_16 rfl rfl rfl (fun T4 L4 v4 X4 hQ4 => ?_)
  obtain ⟨rfl, Nq4, eq4⟩ := hQ4
  have N4 := Fr.app N1 Nq4
  show gs T4 m 19 #[vr a1, vr aS, vr b3, vi 0] [(.int 2), (.int 0)]
  refine own_st (fun _ kS => XS.icmpNo X4.here hx rfl (hb hby d7_19) rfl (tlt (by decide : (0 : Int32) < (2 : Int32))).2.1 kS) ?_
  show gs T4 m 22 #[vr a1, vr aS, vr b3, vi 0] []
  refine oaloadN X4 hx hby d7_22 rfl rfl ?_
  refine oaloadN X4 hx hby d7_23 rfl rfl ?_
  obtain ⟨T5, X5, e5, st5⟩ := getF X4 hx hZ hown (host := "") (Or.inl (own_w hw 51 rfl)) Via.refl eq4 (Fld.ext O3.2 Fl) (g := (mkF m 24 #[vr a1, vr aS, vr b3, vi 0] [(.ref a1), (.ref b3)])) rfl rfl (hb hby d7_24)
  refine own_st st5 ?_
  show gs T5 m 27 #[vr a1, vr aS, vr b3, vi 0] [(.int 0), (.ref b3)]
  refine own_st (fun _ kS => XS.ifYes X5.here hx rfl (pc0 := 27) (pc' := 39) rfl (hb hby d7_27) rfl ((if0 _ _).trans (teq (by decide : (0 : Int32) = (0 : Int32))).1) (by decide) (by decide) kS) ?_
  show gs T5 m 39 #[vr a1, vr aS, vr b3, vi 0] [(.ref b3)]
  refine oiloadN X5 hx hby d7_39 rfl ?_
  refine oaloadN X5 hx hby d7_40 rfl rfl ?_
  obtain ⟨T6, X6, e6, st6⟩ := getF X5 hx hZ hown (host := "") (Or.inl (own_w hw 49 rfl)) Via.refl e5 (Fld.ext O3.2 Fw) (g := (mkF m 41 #[vr a1, vr aS, vr b3, vi 0] [(.ref a1), (.int 0), (.ref b3)])) rfl rfl (hb hby d7_41)
  refine own_st st6 ?_
  show gs T6 m 44 #[vr a1, vr aS, vr b3, vi 0] [(.int 4), (.int 0), (.ref b3)]
  refine own_st (fun _ kS => XS.imul X6.here hx rfl (hb hby d7_44) rfl kS) ?_
  refine oaloadN X6 hx hby d7_45 rfl rfl ?_
  obtain ⟨T7, X7, e7, st7⟩ := getF X6 hx hZ hown (host := "") (Or.inl (own_w hw 49 rfl)) Via.refl e6 (Fld.ext O3.2 Fw) (g := (mkF m 46 #[vr a1, vr aS, vr b3, vi 0] [(.ref a1), (.int 0), (.ref b3)])) rfl rfl (hb hby d7_46)
  refine own_st st7 ?_
  show gs T7 m 49 #[vr a1, vr aS, vr b3, vi 0] [(.int 4), (.int 0), (.ref b3)]
  refine own_st (fun _ kS => XS.iadd X7.here hx rfl (hb hby d7_49) rfl kS) ?_
  refine oiconst X7 hx hby d7_50 ?_
  refine own_st (fun _ kS => XS.isub X7.here hx rfl (hb hby d7_51) rfl kS) ?_
  refine oaloadN X7 hx hby d7_52 rfl rfl ?_
  refine oiloadN X7 hx hby d7_53 rfl ?_
  refine oV 2 X7 hx hZ hby hml hown (own_w hw 53 rfl) (own_w hw 54 rfl) (own_w hw 56 rfl) (own_w hw 55 rfl) (rm_chAt_2_0 l Z a0 hw [] aS tA kA y0 y1 zCS fm h3 n0 (Nat.le_trans Z0 E3.1) O3 (Exa.ext E3 E_0) (Fld.ext E3 F0v) (Fld.ext E3 F0c) (Arv.ext R_A E3) S_CS P_CS S_SF P_SF) (own_w hw 57 rfl) (own_w hw 7 rfl) e7 (Exa.ext E3 E_0) (by decide) own_pd10 d7_54 rfl rfl rfl (fun T8 L8 v8 X8 hQ8 => ?_)
  obtain ⟨rfl, Nq8, eq8⟩ := hQ8
  have N8 := Fr.app N4 Nq8
  show gs T8 m 57 #[vr a1, vr aS, vr b3, vi 0] [(.int (own_lat y0)), (.int 3), (.ref b3)]
  refine own_st (fun _ kS => XT.i2b X8.here hx rfl (hb hby d7_57) rfl kS) ?_
  show gs T8 m 58 #[vr a1, vr aS, vr b3, vi 0] [(.int ((own_lat y0).toInt8.toInt32)), (.int 3), (.ref b3)]
  obtain ⟨cl9, Ar9, qa9, qs9, qn9, qh9, qg9⟩ := id R3
  obtain ⟨T9, h9, X9, e9, W9, st9⟩ := stB X8 hx hZ eq8 Ar9 (j := (3 : Int32)) (inb_of qs9 ⟨by decide, by decide⟩) (g := (mkF m 58 #[vr a1, vr aS, vr b3, vi 0] [(.int ((own_lat y0).toInt8.toInt32)), (.int 3), (.ref b3)])) rfl rfl (hb hby d7_58)
  have N9 := Fr.snoc X9 N8 ge_b3
  have K9 := K3.wr W9 (Or.inr sz_b3)
  have O9 := O3.wr W9 ge_b3
  have R9 : Arv Z h9 b3 k3 .byte (8 : Int32) [(.int 0), (.int 0), (.int 0), (.int (nar .byte ((own_lat y0).toInt8.toInt32))), (.int 0), (.int 0), (.int 0), (.int 0)] (.int 0) := Arv.set Ar9 qa9 qs9 qn9 qh9 qg9 (fits_nar_byte _) W9 3 rfl (Nat.le_of_ble_eq_true rfl)
  refine own_st st9 ?_
  show gs T9 m 59 #[vr a1, vr aS, vr b3, vi 0] []
  refine own_st (fun _ kS => XS.iinc X9.here hx rfl (hb hby d7_59) rfl (l' := #[vr a1, vr aS, vr b3, vi 1]) rfl kS) ?_
  refine own_st (fun _ kS => XS.goto X9.here hx rfl (pc0 := 62) (pc' := 14) rfl (hb hby d7_62) (by decide) (by decide) kS) ?_
  refine oiloadN X9 hx hby d7_14 rfl ?_
  refine oaloadN X9 hx hby d7_15 rfl rfl ?_
  refine oV 1 X9 hx hZ hby hml hown (own_w hw 39 rfl) (own_w hw 40 rfl) (own_w hw 42 rfl) (own_w hw 41 rfl) (rm_sLen_2 l Z a0 hw [] aS tA kA y0 y1 zCS h9 n0 (Nat.le_trans (Nat.le_trans Z0 E3.1) (Keep.of_wr W9).1) O9 (Exa.wr W9 (Exa.ext E3 E_0)) (Fld.other W9 (Fld.ext E3 F0v) (Or.inl ne_aS_b3)) (Fld.other W9 (Fld.ext E3 F0c) (Or.inl ne_aS_b3)) ((Arv.ext R_A E3).other W9 ne_tA_b3) S_CS P_CS) (own_w hw 43 rfl) (own_w hw 7 rfl) e9 (Exa.wr W9 (Exa.ext E3 E_0)) (by decide) own_pd9 d7_16 rfl rfl rfl (fun T10 L10 v10 X10 hQ10 => ?_)
  obtain ⟨rfl, Nq10, eq10⟩ := hQ10
  have N10 := Fr.app N9 Nq10
  show gs T10 m 19 #[vr a1, vr aS, vr b3, vi 1] [(.int 2), (.int 1)]
  refine own_st (fun _ kS => XS.icmpNo X10.here hx rfl (hb hby d7_19) rfl (tlt (by decide : (1 : Int32) < (2 : Int32))).2.1 kS) ?_
  show gs T10 m 22 #[vr a1, vr aS, vr b3, vi 1] []
  refine oaloadN X10 hx hby d7_22 rfl rfl ?_
  refine oaloadN X10 hx hby d7_23 rfl rfl ?_
  obtain ⟨T11, X11, e11, st11⟩ := getF X10 hx hZ hown (host := "") (Or.inl (own_w hw 51 rfl)) Via.refl eq10 (Fld.ext O9.2 Fl) (g := (mkF m 24 #[vr a1, vr aS, vr b3, vi 1] [(.ref a1), (.ref b3)])) rfl rfl (hb hby d7_24)
  refine own_st st11 ?_
  show gs T11 m 27 #[vr a1, vr aS, vr b3, vi 1] [(.int 0), (.ref b3)]
  refine own_st (fun _ kS => XS.ifYes X11.here hx rfl (pc0 := 27) (pc' := 39) rfl (hb hby d7_27) rfl ((if0 _ _).trans (teq (by decide : (0 : Int32) = (0 : Int32))).1) (by decide) (by decide) kS) ?_
  show gs T11 m 39 #[vr a1, vr aS, vr b3, vi 1] [(.ref b3)]
  refine oiloadN X11 hx hby d7_39 rfl ?_
  refine oaloadN X11 hx hby d7_40 rfl rfl ?_
  obtain ⟨T12, X12, e12, st12⟩ := getF X11 hx hZ hown (host := "") (Or.inl (own_w hw 49 rfl)) Via.refl e11 (Fld.ext O9.2 Fw) (g := (mkF m 41 #[vr a1, vr aS, vr b3, vi 1] [(.ref a1), (.int 1), (.ref b3)])) rfl rfl (hb hby d7_41)
  refine own_st st12 ?_
  show gs T12 m 44 #[vr a1, vr aS, vr b3, vi 1] [(.int 4), (.int 1), (.ref b3)]
  refine own_st (fun _ kS => XS.imul X12.here hx rfl (hb hby d7_44) rfl kS) ?_
  refine oaloadN X12 hx hby d7_45 rfl rfl ?_
  obtain ⟨T13, X13, e13, st13⟩ := getF X12 hx hZ hown (host := "") (Or.inl (own_w hw 49 rfl)) Via.refl e12 (Fld.ext O9.2 Fw) (g := (mkF m 46 #[vr a1, vr aS, vr b3, vi 1] [(.ref a1), (.int 4), (.ref b3)])) rfl rfl (hb hby d7_46)
  refine own_st st13 ?_
  show gs T13 m 49 #[vr a1, vr aS, vr b3, vi 1] [(.int 4), (.int 4), (.ref b3)]
  refine own_st (fun _ kS => XS.iadd X13.here hx rfl (hb hby d7_49) rfl kS) ?_
  refine oiconst X13 hx hby d7_50 ?_
  refine own_st (fun _ kS => XS.isub X13.here hx rfl (hb hby d7_51) rfl kS) ?_
  refine oaloadN X13 hx hby d7_52 rfl rfl ?_
  refine oiloadN X13 hx hby d7_53 rfl ?_
  refine oV 2 X13 hx hZ hby hml hown (own_w hw 53 rfl) (own_w hw 54 rfl) (own_w hw 56 rfl) (own_w hw 55 rfl) (rm_chAt_2_1 l Z a0 hw [] aS tA kA y0 y1 zCS fm h9 n0 (Nat.le_trans (Nat.le_trans Z0 E3.1) (Keep.of_wr W9).1) O9 (Exa.wr W9 (Exa.ext E3 E_0)) (Fld.other W9 (Fld.ext E3 F0v) (Or.inl ne_aS_b3)) (Fld.other W9 (Fld.ext E3 F0c) (Or.inl ne_aS_b3)) ((Arv.ext R_A E3).other W9 ne_tA_b3) S_CS P_CS S_SF P_SF) (own_w hw 57 rfl) (own_w hw 7 rfl) e13 (Exa.wr W9 (Exa.ext E3 E_0)) (by decide) own_pd10 d7_54 rfl rfl rfl (fun T14 L14 v14 X14 hQ14 => ?_)
  obtain ⟨rfl, Nq14, eq14⟩ := hQ14
  have N14 := Fr.app N10 Nq14
  show gs T14 m 57 #[vr a1, vr aS, vr b3, vi 1] [(.int (own_lat y1)), (.int 7), (.ref b3)]
  refine own_st (fun _ kS => XT.i2b X14.here hx rfl (hb hby d7_57) rfl kS) ?_
  show gs T14 m 58 #[vr a1, vr aS, vr b3, vi 1] [(.int ((own_lat y1).toInt8.toInt32)), (.int 7), (.ref b3)]
  obtain ⟨cl15, Ar15, qa15, qs15, qn15, qh15, qg15⟩ := id R9
  obtain ⟨T15, h15, X15, e15, W15, st15⟩ := stB X14 hx hZ eq14 Ar15 (j := (7 : Int32)) (inb_of qs15 ⟨by decide, by decide⟩) (g := (mkF m 58 #[vr a1, vr aS, vr b3, vi 1] [(.int ((own_lat y1).toInt8.toInt32)), (.int 7), (.ref b3)])) rfl rfl (hb hby d7_58)
  have N15 := Fr.snoc X15 N14 ge_b3
  have K15 := K9.wr W15 (Or.inr sz_b3)
  have O15 := O9.wr W15 ge_b3
  have R15 : Arv Z h15 b3 k3 .byte (8 : Int32) [(.int 0), (.int 0), (.int 0), (.int (nar .byte ((own_lat y0).toInt8.toInt32))), (.int 0), (.int 0), (.int 0), (.int (nar .byte ((own_lat y1).toInt8.toInt32)))] (.int 0) := Arv.set Ar15 qa15 qs15 qn15 qh15 qg15 (fits_nar_byte _) W15 7 rfl (Nat.le_of_ble_eq_true rfl)
  refine own_st st15 ?_
  show gs T15 m 59 #[vr a1, vr aS, vr b3, vi 1] []
  refine own_st (fun _ kS => XS.iinc X15.here hx rfl (hb hby d7_59) rfl (l' := #[vr a1, vr aS, vr b3, vi 2]) rfl kS) ?_
  refine own_st (fun _ kS => XS.goto X15.here hx rfl (pc0 := 62) (pc' := 14) rfl (hb hby d7_62) (by decide) (by decide) kS) ?_
  refine oiloadN X15 hx hby d7_14 rfl ?_
  refine oaloadN X15 hx hby d7_15 rfl rfl ?_
  refine oV 1 X15 hx hZ hby hml hown (own_w hw 39 rfl) (own_w hw 40 rfl) (own_w hw 42 rfl) (own_w hw 41 rfl) (rm_sLen_2 l Z a0 hw [] aS tA kA y0 y1 zCS h15 n0 (Nat.le_trans (Nat.le_trans (Nat.le_trans Z0 E3.1) (Keep.of_wr W9).1) (Keep.of_wr W15).1) O15 (Exa.wr W15 (Exa.wr W9 (Exa.ext E3 E_0))) (Fld.other W15 (Fld.other W9 (Fld.ext E3 F0v) (Or.inl ne_aS_b3)) (Or.inl ne_aS_b3)) (Fld.other W15 (Fld.other W9 (Fld.ext E3 F0c) (Or.inl ne_aS_b3)) (Or.inl ne_aS_b3)) (((Arv.ext R_A E3).other W9 ne_tA_b3).other W15 ne_tA_b3) S_CS P_CS) (own_w hw 43 rfl) (own_w hw 7 rfl) e15 (Exa.wr W15 (Exa.wr W9 (Exa.ext E3 E_0))) (by decide) own_pd9 d7_16 rfl rfl rfl (fun T16 L16 v16 X16 hQ16 => ?_)
  obtain ⟨rfl, Nq16, eq16⟩ := hQ16
  have N16 := Fr.app N15 Nq16
  show gs T16 m 19 #[vr a1, vr aS, vr b3, vi 2] [(.int 2), (.int 2)]
  refine own_st (fun _ kS => XS.icmpYes X16.here hx rfl (pc0 := 19) (pc' := 65) rfl (hb hby d7_19) rfl (flt (by decide : ¬ ((2 : Int32) < (2 : Int32)))).2.1 (by decide) (by decide) kS) ?_
  show gs T16 m 65 #[vr a1, vr aS, vr b3, vi 2] []
  refine oaloadN X16 hx hby d7_65 rfl rfl ?_
  exact own_retA X16 hx hlk hret rfl rfl (hb hby d7_66) (by decide) (by decide) (by rw [eq16]; exact ⟨b3, k3, ⟨rfl, N16, K15, sz_b3, R15⟩⟩)
theorem ef_enc_2_4_1 (m : MethodId) (x0 : Addr) (x1 : Addr) : entryFrame m #[(.ref x0), (.ref x1)] 4 = mkF m 0 #[.val (.ref x0), .val (.ref x1), .unset, .unset] [] := by first | (simp [entryFrame, mkF, argsToLocals, Value.category]; done) | rfl
def Q_enc_2_4_1 (Z : State) (a1 : Addr) (aS : Addr) (tA : Addr) (kA : ClassId) (y0 : Int32) (y1 : Int32) (zCS : Int32) (fm : Value) (h0 : Heap) (n0 : Nat) (v : Option Value) (h : Heap) (L : List Loc) : Prop := ∃ tN : Addr, ∃ kN : ClassId, v = some (.ref tN) ∧ Fr n0 L ∧ Keep h0 h [] ∧ h0.size ≤ tN ∧ Arv Z h tN kN .byte (8 : Int32) [(.int (nar .byte ((own_lat y0).toInt8.toInt32))), (.int 0), (.int 0), (.int 0), (.int (nar .byte ((own_lat y1).toInt8.toInt32))), (.int 0), (.int 0), (.int 0)] (.int 0)
theorem rm_enc_2_4_1 (l : Launch) (Z : State) (a0 : Array Value) (hw : HW a0 Z) (ws : List Jvm.Cond) (a1 : Addr) (aS : Addr) (tA : Addr) (kA : ClassId) (y0 : Int32) (y1 : Int32) (zCS : Int32) (fm : Value) (h0 : Heap) (n0 : Nat) (Z0 : n0 ≤ h0.size) (O0 : Old Z n0 h0) (Fw : fk10 Z Z.heap a1 (.int 4)) (Fl : fk11 Z Z.heap a1 (.int 1)) (E_0 : ek12 Z h0 aS) (F0v : fk9 Z h0 aS (.ref tA)) (F0c : fk8 Z h0 aS (.int 0)) (R_A : Arv Z h0 tA kA .byte (2 : Int32) [(.int y0), (.int y1)] (.int 0)) (S_CS : sk0 Z Z.heap (.int zCS)) (P_CS : ¬ zCS = 0) (S_SF : sk1 Z Z.heap fm) (P_SF : fm.isRef = true) :
    M12 l ws (rmk 4 1 8 55) Z #[(.ref a1), (.ref aS)] h0 (Q_enc_2_4_1 Z a1 aS tA kA y0 y1 zCS fm h0 n0) := by
  refine own_go "com/example/provenir/provenir/TextEncoding" rfl (plainFor_of_name pn_7) (fun m => ef_enc_2_4_1 m a1 aS) (fun p e s m below meth c s₁ hx hby hml hown hnm hlk hret hZ X0 e0 => ?_)
  have N0 := Fr.nil n0
  have K0 := Keep.refl h0 []
  show gs s₁ m 0 #[vr a1, vr aS, .unset, .unset] []
  refine oaloadN X0 hx hby d7_0 rfl rfl ?_
  refine oV 0 X0 hx hZ hby hml hown (own_w hw 39 rfl) (own_w hw 40 rfl) (own_w hw 42 rfl) (own_w hw 41 rfl) (rm_sLen_2 l Z a0 hw [] aS tA kA y0 y1 zCS h0 n0 Z0 O0 E_0 F0v F0c R_A S_CS P_CS) (own_w hw 43 rfl) (own_w hw 7 rfl) e0 E_0 (by decide) own_pd9 d7_1 rfl rfl rfl (fun T1 L1 v1 X1 hQ1 => ?_)
  obtain ⟨rfl, Nq1, eq1⟩ := hQ1
  have N1 := Fr.app N0 Nq1
  show gs T1 m 4 #[vr a1, vr aS, .unset, .unset] [(.int 2)]
  refine oaloadN X1 hx hby d7_4 rfl rfl ?_
  obtain ⟨T2, X2, e2, st2⟩ := getF X1 hx hZ hown (host := "") (Or.inl (own_w hw 49 rfl)) Via.refl eq1 (Fld.ext O0.2 Fw) (g := (mkF m 5 #[vr a1, vr aS, .unset, .unset] [(.ref a1), (.int 2)])) rfl rfl (hb hby d7_5)
  refine own_st st2 ?_
  show gs T2 m 8 #[vr a1, vr aS, .unset, .unset] [(.int 4), (.int 2)]
  refine own_st (fun _ kS => XS.imul X2.here hx rfl (hb hby d7_8) rfl kS) ?_
  show gs T2 m 9 #[vr a1, vr aS, .unset, .unset] [(.int 8)]
  obtain ⟨T3, h3, k3, X3, e3, E3, A3, st3⟩ := newP X2 hx hZ (own_w hw 23 rfl) e2 (g := (mkF m 9 #[vr a1, vr aS, .unset, .unset] [(.int 8)])) rfl (hb hby d7_9) rfl (by decide) (cap := 8) (by decide) (by decide) (by decide) (by decide)
  obtain ⟨b3, g3⟩ : ∃ z, z = h0.size := ⟨_, rfl⟩
  have ne_aS_b3 : aS ≠ b3 := Nat.ne_of_lt (Nat.lt_of_lt_of_eq E_0.lt g3.symm)
  have ne_tA_b3 : tA ≠ b3 := Nat.ne_of_lt (Nat.lt_of_lt_of_eq R_A.lt g3.symm)
  have ge_b3 : n0 ≤ b3 := Nat.le_trans Z0 (Nat.le_of_eq g3.symm)
  have sz_b3 : h0.size ≤ b3 := Nat.le_trans K0.1 (Nat.le_of_eq g3.symm)
  rw [← g3] at A3 st3
  have K3 := K0.ext E3
  have O3 := O0.ext E3
  have R3 : Arv Z h3 b3 k3 .byte (8 : Int32) [(.int 0), (.int 0), (.int 0), (.int 0), (.int 0), (.int 0), (.int 0), (.int 0)] (.int 0) := (Arv.new A3 (by decide)).pad (pad_rep [] (.int 0) 8)
  refine own_st st3 ?_
  show gs T3 m 11 #[vr a1, vr aS, .unset, .unset] [(.ref b3)]
  refine own_st (fun _ kS => XS.astoreN X3.here hx rfl (hb hby d7_11) rfl rfl (l' := #[vr a1, vr aS, vr b3, .unset]) rfl kS) ?_
  refine oiconst X3 hx hby d7_12 ?_
  refine own_st (fun _ kS => XS.istoreN X3.here hx rfl (hb hby d7_13) rfl (l' := #[vr a1, vr aS, vr b3, vi 0]) rfl kS) ?_
  refine oiloadN X3 hx hby d7_14 rfl ?_
  refine oaloadN X3 hx hby d7_15 rfl rfl ?_
  refine oV 1 X3 hx hZ hby hml hown (own_w hw 39 rfl) (own_w hw 40 rfl) (own_w hw 42 rfl) (own_w hw 41 rfl) (rm_sLen_2 l Z a0 hw [] aS tA kA y0 y1 zCS h3 n0 (Nat.le_trans Z0 E3.1) O3 (Exa.ext E3 E_0) (Fld.ext E3 F0v) (Fld.ext E3 F0c) (Arv.ext R_A E3) S_CS P_CS) (own_w hw 43 rfl) (own_w hw 7 rfl) e3 (Exa.ext E3 E_0) (by decide) own_pd9 d7_16 rfl rfl rfl (fun T4 L4 v4 X4 hQ4 => ?_)
  obtain ⟨rfl, Nq4, eq4⟩ := hQ4
  have N4 := Fr.app N1 Nq4
  show gs T4 m 19 #[vr a1, vr aS, vr b3, vi 0] [(.int 2), (.int 0)]
  refine own_st (fun _ kS => XS.icmpNo X4.here hx rfl (hb hby d7_19) rfl (tlt (by decide : (0 : Int32) < (2 : Int32))).2.1 kS) ?_
  show gs T4 m 22 #[vr a1, vr aS, vr b3, vi 0] []
  refine oaloadN X4 hx hby d7_22 rfl rfl ?_
  refine oaloadN X4 hx hby d7_23 rfl rfl ?_
  obtain ⟨T5, X5, e5, st5⟩ := getF X4 hx hZ hown (host := "") (Or.inl (own_w hw 51 rfl)) Via.refl eq4 (Fld.ext O3.2 Fl) (g := (mkF m 24 #[vr a1, vr aS, vr b3, vi 0] [(.ref a1), (.ref b3)])) rfl rfl (hb hby d7_24)
  refine own_st st5 ?_
  show gs T5 m 27 #[vr a1, vr aS, vr b3, vi 0] [(.int 1), (.ref b3)]
  refine own_st (fun _ kS => XS.ifNo X5.here hx rfl (hb hby d7_27) rfl ((if0 _ _).trans (feq (by decide : ¬ ((1 : Int32) = (0 : Int32)))).1) kS) ?_
  show gs T5 m 30 #[vr a1, vr aS, vr b3, vi 0] [(.ref b3)]
  refine oiloadN X5 hx hby d7_30 rfl ?_
  refine oaloadN X5 hx hby d7_31 rfl rfl ?_
  obtain ⟨T6, X6, e6, st6⟩ := getF X5 hx hZ hown (host := "") (Or.inl (own_w hw 49 rfl)) Via.refl e5 (Fld.ext O3.2 Fw) (g := (mkF m 32 #[vr a1, vr aS, vr b3, vi 0] [(.ref a1), (.int 0), (.ref b3)])) rfl rfl (hb hby d7_32)
  refine own_st st6 ?_
  show gs T6 m 35 #[vr a1, vr aS, vr b3, vi 0] [(.int 4), (.int 0), (.ref b3)]
  refine own_st (fun _ kS => XS.imul X6.here hx rfl (hb hby d7_35) rfl kS) ?_
  refine own_st (fun _ kS => XS.goto X6.here hx rfl (pc0 := 36) (pc' := 52) rfl (hb hby d7_36) (by decide) (by decide) kS) ?_
  refine oaloadN X6 hx hby d7_52 rfl rfl ?_
  refine oiloadN X6 hx hby d7_53 rfl ?_
  refine oV 2 X6 hx hZ hby hml hown (own_w hw 53 rfl) (own_w hw 54 rfl) (own_w hw 56 rfl) (own_w hw 55 rfl) (rm_chAt_2_0 l Z a0 hw [] aS tA kA y0 y1 zCS fm h3 n0 (Nat.le_trans Z0 E3.1) O3 (Exa.ext E3 E_0) (Fld.ext E3 F0v) (Fld.ext E3 F0c) (Arv.ext R_A E3) S_CS P_CS S_SF P_SF) (own_w hw 57 rfl) (own_w hw 7 rfl) e6 (Exa.ext E3 E_0) (by decide) own_pd10 d7_54 rfl rfl rfl (fun T7 L7 v7 X7 hQ7 => ?_)
  obtain ⟨rfl, Nq7, eq7⟩ := hQ7
  have N7 := Fr.app N4 Nq7
  show gs T7 m 57 #[vr a1, vr aS, vr b3, vi 0] [(.int (own_lat y0)), (.int 0), (.ref b3)]
  refine own_st (fun _ kS => XT.i2b X7.here hx rfl (hb hby d7_57) rfl kS) ?_
  show gs T7 m 58 #[vr a1, vr aS, vr b3, vi 0] [(.int ((own_lat y0).toInt8.toInt32)), (.int 0), (.ref b3)]
  obtain ⟨cl8, Ar8, qa8, qs8, qn8, qh8, qg8⟩ := id R3
  obtain ⟨T8, h8, X8, e8, W8, st8⟩ := stB X7 hx hZ eq7 Ar8 (j := (0 : Int32)) (inb_of qs8 ⟨by decide, by decide⟩) (g := (mkF m 58 #[vr a1, vr aS, vr b3, vi 0] [(.int ((own_lat y0).toInt8.toInt32)), (.int 0), (.ref b3)])) rfl rfl (hb hby d7_58)
  have N8 := Fr.snoc X8 N7 ge_b3
  have K8 := K3.wr W8 (Or.inr sz_b3)
  have O8 := O3.wr W8 ge_b3
  have R8 : Arv Z h8 b3 k3 .byte (8 : Int32) [(.int (nar .byte ((own_lat y0).toInt8.toInt32))), (.int 0), (.int 0), (.int 0), (.int 0), (.int 0), (.int 0), (.int 0)] (.int 0) := Arv.set Ar8 qa8 qs8 qn8 qh8 qg8 (fits_nar_byte _) W8 0 rfl (Nat.le_of_ble_eq_true rfl)
  refine own_st st8 ?_
  show gs T8 m 59 #[vr a1, vr aS, vr b3, vi 0] []
  refine own_st (fun _ kS => XS.iinc X8.here hx rfl (hb hby d7_59) rfl (l' := #[vr a1, vr aS, vr b3, vi 1]) rfl kS) ?_
  refine own_st (fun _ kS => XS.goto X8.here hx rfl (pc0 := 62) (pc' := 14) rfl (hb hby d7_62) (by decide) (by decide) kS) ?_
  refine oiloadN X8 hx hby d7_14 rfl ?_
  refine oaloadN X8 hx hby d7_15 rfl rfl ?_
  refine oV 1 X8 hx hZ hby hml hown (own_w hw 39 rfl) (own_w hw 40 rfl) (own_w hw 42 rfl) (own_w hw 41 rfl) (rm_sLen_2 l Z a0 hw [] aS tA kA y0 y1 zCS h8 n0 (Nat.le_trans (Nat.le_trans Z0 E3.1) (Keep.of_wr W8).1) O8 (Exa.wr W8 (Exa.ext E3 E_0)) (Fld.other W8 (Fld.ext E3 F0v) (Or.inl ne_aS_b3)) (Fld.other W8 (Fld.ext E3 F0c) (Or.inl ne_aS_b3)) ((Arv.ext R_A E3).other W8 ne_tA_b3) S_CS P_CS) (own_w hw 43 rfl) (own_w hw 7 rfl) e8 (Exa.wr W8 (Exa.ext E3 E_0)) (by decide) own_pd9 d7_16 rfl rfl rfl (fun T9 L9 v9 X9 hQ9 => ?_)
  obtain ⟨rfl, Nq9, eq9⟩ := hQ9
  have N9 := Fr.app N8 Nq9
  show gs T9 m 19 #[vr a1, vr aS, vr b3, vi 1] [(.int 2), (.int 1)]
  refine own_st (fun _ kS => XS.icmpNo X9.here hx rfl (hb hby d7_19) rfl (tlt (by decide : (1 : Int32) < (2 : Int32))).2.1 kS) ?_
  show gs T9 m 22 #[vr a1, vr aS, vr b3, vi 1] []
  refine oaloadN X9 hx hby d7_22 rfl rfl ?_
  refine oaloadN X9 hx hby d7_23 rfl rfl ?_
  obtain ⟨T10, X10, e10, st10⟩ := getF X9 hx hZ hown (host := "") (Or.inl (own_w hw 51 rfl)) Via.refl eq9 (Fld.ext O8.2 Fl) (g := (mkF m 24 #[vr a1, vr aS, vr b3, vi 1] [(.ref a1), (.ref b3)])) rfl rfl (hb hby d7_24)
  refine own_st st10 ?_
  show gs T10 m 27 #[vr a1, vr aS, vr b3, vi 1] [(.int 1), (.ref b3)]
  refine own_st (fun _ kS => XS.ifNo X10.here hx rfl (hb hby d7_27) rfl ((if0 _ _).trans (feq (by decide : ¬ ((1 : Int32) = (0 : Int32)))).1) kS) ?_
  show gs T10 m 30 #[vr a1, vr aS, vr b3, vi 1] [(.ref b3)]
  refine oiloadN X10 hx hby d7_30 rfl ?_
  refine oaloadN X10 hx hby d7_31 rfl rfl ?_
  obtain ⟨T11, X11, e11, st11⟩ := getF X10 hx hZ hown (host := "") (Or.inl (own_w hw 49 rfl)) Via.refl e10 (Fld.ext O8.2 Fw) (g := (mkF m 32 #[vr a1, vr aS, vr b3, vi 1] [(.ref a1), (.int 1), (.ref b3)])) rfl rfl (hb hby d7_32)
  refine own_st st11 ?_
  show gs T11 m 35 #[vr a1, vr aS, vr b3, vi 1] [(.int 4), (.int 1), (.ref b3)]
  refine own_st (fun _ kS => XS.imul X11.here hx rfl (hb hby d7_35) rfl kS) ?_
  refine own_st (fun _ kS => XS.goto X11.here hx rfl (pc0 := 36) (pc' := 52) rfl (hb hby d7_36) (by decide) (by decide) kS) ?_
  refine oaloadN X11 hx hby d7_52 rfl rfl ?_
  refine oiloadN X11 hx hby d7_53 rfl ?_
  refine oV 2 X11 hx hZ hby hml hown (own_w hw 53 rfl) (own_w hw 54 rfl) (own_w hw 56 rfl) (own_w hw 55 rfl) (rm_chAt_2_1 l Z a0 hw [] aS tA kA y0 y1 zCS fm h8 n0 (Nat.le_trans (Nat.le_trans Z0 E3.1) (Keep.of_wr W8).1) O8 (Exa.wr W8 (Exa.ext E3 E_0)) (Fld.other W8 (Fld.ext E3 F0v) (Or.inl ne_aS_b3)) (Fld.other W8 (Fld.ext E3 F0c) (Or.inl ne_aS_b3)) ((Arv.ext R_A E3).other W8 ne_tA_b3) S_CS P_CS S_SF P_SF) (own_w hw 57 rfl) (own_w hw 7 rfl) e11 (Exa.wr W8 (Exa.ext E3 E_0)) (by decide) own_pd10 d7_54 rfl rfl rfl (fun T12 L12 v12 X12 hQ12 => ?_)
  obtain ⟨rfl, Nq12, eq12⟩ := hQ12
  have N12 := Fr.app N9 Nq12
  show gs T12 m 57 #[vr a1, vr aS, vr b3, vi 1] [(.int (own_lat y1)), (.int 4), (.ref b3)]
  refine own_st (fun _ kS => XT.i2b X12.here hx rfl (hb hby d7_57) rfl kS) ?_
  show gs T12 m 58 #[vr a1, vr aS, vr b3, vi 1] [(.int ((own_lat y1).toInt8.toInt32)), (.int 4), (.ref b3)]
  obtain ⟨cl13, Ar13, qa13, qs13, qn13, qh13, qg13⟩ := id R8
  obtain ⟨T13, h13, X13, e13, W13, st13⟩ := stB X12 hx hZ eq12 Ar13 (j := (4 : Int32)) (inb_of qs13 ⟨by decide, by decide⟩) (g := (mkF m 58 #[vr a1, vr aS, vr b3, vi 1] [(.int ((own_lat y1).toInt8.toInt32)), (.int 4), (.ref b3)])) rfl rfl (hb hby d7_58)
  have N13 := Fr.snoc X13 N12 ge_b3
  have K13 := K8.wr W13 (Or.inr sz_b3)
  have O13 := O8.wr W13 ge_b3
  have R13 : Arv Z h13 b3 k3 .byte (8 : Int32) [(.int (nar .byte ((own_lat y0).toInt8.toInt32))), (.int 0), (.int 0), (.int 0), (.int (nar .byte ((own_lat y1).toInt8.toInt32))), (.int 0), (.int 0), (.int 0)] (.int 0) := Arv.set Ar13 qa13 qs13 qn13 qh13 qg13 (fits_nar_byte _) W13 4 rfl (Nat.le_of_ble_eq_true rfl)
  refine own_st st13 ?_
  show gs T13 m 59 #[vr a1, vr aS, vr b3, vi 1] []
  refine own_st (fun _ kS => XS.iinc X13.here hx rfl (hb hby d7_59) rfl (l' := #[vr a1, vr aS, vr b3, vi 2]) rfl kS) ?_
  refine own_st (fun _ kS => XS.goto X13.here hx rfl (pc0 := 62) (pc' := 14) rfl (hb hby d7_62) (by decide) (by decide) kS) ?_
  refine oiloadN X13 hx hby d7_14 rfl ?_
  refine oaloadN X13 hx hby d7_15 rfl rfl ?_
  refine oV 1 X13 hx hZ hby hml hown (own_w hw 39 rfl) (own_w hw 40 rfl) (own_w hw 42 rfl) (own_w hw 41 rfl) (rm_sLen_2 l Z a0 hw [] aS tA kA y0 y1 zCS h13 n0 (Nat.le_trans (Nat.le_trans (Nat.le_trans Z0 E3.1) (Keep.of_wr W8).1) (Keep.of_wr W13).1) O13 (Exa.wr W13 (Exa.wr W8 (Exa.ext E3 E_0))) (Fld.other W13 (Fld.other W8 (Fld.ext E3 F0v) (Or.inl ne_aS_b3)) (Or.inl ne_aS_b3)) (Fld.other W13 (Fld.other W8 (Fld.ext E3 F0c) (Or.inl ne_aS_b3)) (Or.inl ne_aS_b3)) (((Arv.ext R_A E3).other W8 ne_tA_b3).other W13 ne_tA_b3) S_CS P_CS) (own_w hw 43 rfl) (own_w hw 7 rfl) e13 (Exa.wr W13 (Exa.wr W8 (Exa.ext E3 E_0))) (by decide) own_pd9 d7_16 rfl rfl rfl (fun T14 L14 v14 X14 hQ14 => ?_)
  obtain ⟨rfl, Nq14, eq14⟩ := hQ14
  have N14 := Fr.app N13 Nq14
  show gs T14 m 19 #[vr a1, vr aS, vr b3, vi 2] [(.int 2), (.int 2)]
  refine own_st (fun _ kS => XS.icmpYes X14.here hx rfl (pc0 := 19) (pc' := 65) rfl (hb hby d7_19) rfl (flt (by decide : ¬ ((2 : Int32) < (2 : Int32)))).2.1 (by decide) (by decide) kS) ?_
  show gs T14 m 65 #[vr a1, vr aS, vr b3, vi 2] []
  refine oaloadN X14 hx hby d7_65 rfl rfl ?_
  exact own_retA X14 hx hlk hret rfl rfl (hb hby d7_66) (by decide) (by decide) (by rw [eq14]; exact ⟨b3, k3, ⟨rfl, N14, K13, sz_b3, R13⟩⟩)
theorem ef_enc_2_2_0 (m : MethodId) (x0 : Addr) (x1 : Addr) : entryFrame m #[(.ref x0), (.ref x1)] 4 = mkF m 0 #[.val (.ref x0), .val (.ref x1), .unset, .unset] [] := by first | (simp [entryFrame, mkF, argsToLocals, Value.category]; done) | rfl
def Q_enc_2_2_0 (Z : State) (a1 : Addr) (aS : Addr) (tA : Addr) (kA : ClassId) (y0 : Int32) (y1 : Int32) (zCS : Int32) (fm : Value) (h0 : Heap) (n0 : Nat) (v : Option Value) (h : Heap) (L : List Loc) : Prop := ∃ tN : Addr, ∃ kN : ClassId, v = some (.ref tN) ∧ Fr n0 L ∧ Keep h0 h [] ∧ h0.size ≤ tN ∧ Arv Z h tN kN .byte (4 : Int32) [(.int 0), (.int (nar .byte ((own_lat y0).toInt8.toInt32))), (.int 0), (.int (nar .byte ((own_lat y1).toInt8.toInt32)))] (.int 0)
theorem rm_enc_2_2_0 (l : Launch) (Z : State) (a0 : Array Value) (hw : HW a0 Z) (ws : List Jvm.Cond) (a1 : Addr) (aS : Addr) (tA : Addr) (kA : ClassId) (y0 : Int32) (y1 : Int32) (zCS : Int32) (fm : Value) (h0 : Heap) (n0 : Nat) (Z0 : n0 ≤ h0.size) (O0 : Old Z n0 h0) (Fw : fk10 Z Z.heap a1 (.int 2)) (Fl : fk11 Z Z.heap a1 (.int 0)) (E_0 : ek12 Z h0 aS) (F0v : fk9 Z h0 aS (.ref tA)) (F0c : fk8 Z h0 aS (.int 0)) (R_A : Arv Z h0 tA kA .byte (2 : Int32) [(.int y0), (.int y1)] (.int 0)) (S_CS : sk0 Z Z.heap (.int zCS)) (P_CS : ¬ zCS = 0) (S_SF : sk1 Z Z.heap fm) (P_SF : fm.isRef = true) :
    M12 l ws (rmk 4 1 4 55) Z #[(.ref a1), (.ref aS)] h0 (Q_enc_2_2_0 Z a1 aS tA kA y0 y1 zCS fm h0 n0) := by
  refine own_go "com/example/provenir/provenir/TextEncoding" rfl (plainFor_of_name pn_7) (fun m => ef_enc_2_2_0 m a1 aS) (fun p e s m below meth c s₁ hx hby hml hown hnm hlk hret hZ X0 e0 => ?_)
  have N0 := Fr.nil n0
  have K0 := Keep.refl h0 []
  show gs s₁ m 0 #[vr a1, vr aS, .unset, .unset] []
  refine oaloadN X0 hx hby d7_0 rfl rfl ?_
  refine oV 0 X0 hx hZ hby hml hown (own_w hw 39 rfl) (own_w hw 40 rfl) (own_w hw 42 rfl) (own_w hw 41 rfl) (rm_sLen_2 l Z a0 hw [] aS tA kA y0 y1 zCS h0 n0 Z0 O0 E_0 F0v F0c R_A S_CS P_CS) (own_w hw 43 rfl) (own_w hw 7 rfl) e0 E_0 (by decide) own_pd9 d7_1 rfl rfl rfl (fun T1 L1 v1 X1 hQ1 => ?_)
  obtain ⟨rfl, Nq1, eq1⟩ := hQ1
  have N1 := Fr.app N0 Nq1
  show gs T1 m 4 #[vr a1, vr aS, .unset, .unset] [(.int 2)]
  refine oaloadN X1 hx hby d7_4 rfl rfl ?_
  obtain ⟨T2, X2, e2, st2⟩ := getF X1 hx hZ hown (host := "") (Or.inl (own_w hw 49 rfl)) Via.refl eq1 (Fld.ext O0.2 Fw) (g := (mkF m 5 #[vr a1, vr aS, .unset, .unset] [(.ref a1), (.int 2)])) rfl rfl (hb hby d7_5)
  refine own_st st2 ?_
  show gs T2 m 8 #[vr a1, vr aS, .unset, .unset] [(.int 2), (.int 2)]
  refine own_st (fun _ kS => XS.imul X2.here hx rfl (hb hby d7_8) rfl kS) ?_
  show gs T2 m 9 #[vr a1, vr aS, .unset, .unset] [(.int 4)]
  obtain ⟨T3, h3, k3, X3, e3, E3, A3, st3⟩ := newP X2 hx hZ (own_w hw 23 rfl) e2 (g := (mkF m 9 #[vr a1, vr aS, .unset, .unset] [(.int 4)])) rfl (hb hby d7_9) rfl (by decide) (cap := 4) (by decide) (by decide) (by decide) (by decide)
  obtain ⟨b3, g3⟩ : ∃ z, z = h0.size := ⟨_, rfl⟩
  have ne_aS_b3 : aS ≠ b3 := Nat.ne_of_lt (Nat.lt_of_lt_of_eq E_0.lt g3.symm)
  have ne_tA_b3 : tA ≠ b3 := Nat.ne_of_lt (Nat.lt_of_lt_of_eq R_A.lt g3.symm)
  have ge_b3 : n0 ≤ b3 := Nat.le_trans Z0 (Nat.le_of_eq g3.symm)
  have sz_b3 : h0.size ≤ b3 := Nat.le_trans K0.1 (Nat.le_of_eq g3.symm)
  rw [← g3] at A3 st3
  have K3 := K0.ext E3
  have O3 := O0.ext E3
  have R3 : Arv Z h3 b3 k3 .byte (4 : Int32) [(.int 0), (.int 0), (.int 0), (.int 0)] (.int 0) := (Arv.new A3 (by decide)).pad (pad_rep [] (.int 0) 4)
  refine own_st st3 ?_
  show gs T3 m 11 #[vr a1, vr aS, .unset, .unset] [(.ref b3)]
  refine own_st (fun _ kS => XS.astoreN X3.here hx rfl (hb hby d7_11) rfl rfl (l' := #[vr a1, vr aS, vr b3, .unset]) rfl kS) ?_
  refine oiconst X3 hx hby d7_12 ?_
  refine own_st (fun _ kS => XS.istoreN X3.here hx rfl (hb hby d7_13) rfl (l' := #[vr a1, vr aS, vr b3, vi 0]) rfl kS) ?_
  refine oiloadN X3 hx hby d7_14 rfl ?_
  refine oaloadN X3 hx hby d7_15 rfl rfl ?_
  refine oV 1 X3 hx hZ hby hml hown (own_w hw 39 rfl) (own_w hw 40 rfl) (own_w hw 42 rfl) (own_w hw 41 rfl) (rm_sLen_2 l Z a0 hw [] aS tA kA y0 y1 zCS h3 n0 (Nat.le_trans Z0 E3.1) O3 (Exa.ext E3 E_0) (Fld.ext E3 F0v) (Fld.ext E3 F0c) (Arv.ext R_A E3) S_CS P_CS) (own_w hw 43 rfl) (own_w hw 7 rfl) e3 (Exa.ext E3 E_0) (by decide) own_pd9 d7_16 rfl rfl rfl (fun T4 L4 v4 X4 hQ4 => ?_)
  obtain ⟨rfl, Nq4, eq4⟩ := hQ4
  have N4 := Fr.app N1 Nq4
  show gs T4 m 19 #[vr a1, vr aS, vr b3, vi 0] [(.int 2), (.int 0)]
  refine own_st (fun _ kS => XS.icmpNo X4.here hx rfl (hb hby d7_19) rfl (tlt (by decide : (0 : Int32) < (2 : Int32))).2.1 kS) ?_
  show gs T4 m 22 #[vr a1, vr aS, vr b3, vi 0] []
  refine oaloadN X4 hx hby d7_22 rfl rfl ?_
  refine oaloadN X4 hx hby d7_23 rfl rfl ?_
  obtain ⟨T5, X5, e5, st5⟩ := getF X4 hx hZ hown (host := "") (Or.inl (own_w hw 51 rfl)) Via.refl eq4 (Fld.ext O3.2 Fl) (g := (mkF m 24 #[vr a1, vr aS, vr b3, vi 0] [(.ref a1), (.ref b3)])) rfl rfl (hb hby d7_24)
  refine own_st st5 ?_
  show gs T5 m 27 #[vr a1, vr aS, vr b3, vi 0] [(.int 0), (.ref b3)]
  refine own_st (fun _ kS => XS.ifYes X5.here hx rfl (pc0 := 27) (pc' := 39) rfl (hb hby d7_27) rfl ((if0 _ _).trans (teq (by decide : (0 : Int32) = (0 : Int32))).1) (by decide) (by decide) kS) ?_
  show gs T5 m 39 #[vr a1, vr aS, vr b3, vi 0] [(.ref b3)]
  refine oiloadN X5 hx hby d7_39 rfl ?_
  refine oaloadN X5 hx hby d7_40 rfl rfl ?_
  obtain ⟨T6, X6, e6, st6⟩ := getF X5 hx hZ hown (host := "") (Or.inl (own_w hw 49 rfl)) Via.refl e5 (Fld.ext O3.2 Fw) (g := (mkF m 41 #[vr a1, vr aS, vr b3, vi 0] [(.ref a1), (.int 0), (.ref b3)])) rfl rfl (hb hby d7_41)
  refine own_st st6 ?_
  show gs T6 m 44 #[vr a1, vr aS, vr b3, vi 0] [(.int 2), (.int 0), (.ref b3)]
  refine own_st (fun _ kS => XS.imul X6.here hx rfl (hb hby d7_44) rfl kS) ?_
  refine oaloadN X6 hx hby d7_45 rfl rfl ?_
  obtain ⟨T7, X7, e7, st7⟩ := getF X6 hx hZ hown (host := "") (Or.inl (own_w hw 49 rfl)) Via.refl e6 (Fld.ext O3.2 Fw) (g := (mkF m 46 #[vr a1, vr aS, vr b3, vi 0] [(.ref a1), (.int 0), (.ref b3)])) rfl rfl (hb hby d7_46)
  refine own_st st7 ?_
  show gs T7 m 49 #[vr a1, vr aS, vr b3, vi 0] [(.int 2), (.int 0), (.ref b3)]
  refine own_st (fun _ kS => XS.iadd X7.here hx rfl (hb hby d7_49) rfl kS) ?_
  refine oiconst X7 hx hby d7_50 ?_
  refine own_st (fun _ kS => XS.isub X7.here hx rfl (hb hby d7_51) rfl kS) ?_
  refine oaloadN X7 hx hby d7_52 rfl rfl ?_
  refine oiloadN X7 hx hby d7_53 rfl ?_
  refine oV 2 X7 hx hZ hby hml hown (own_w hw 53 rfl) (own_w hw 54 rfl) (own_w hw 56 rfl) (own_w hw 55 rfl) (rm_chAt_2_0 l Z a0 hw [] aS tA kA y0 y1 zCS fm h3 n0 (Nat.le_trans Z0 E3.1) O3 (Exa.ext E3 E_0) (Fld.ext E3 F0v) (Fld.ext E3 F0c) (Arv.ext R_A E3) S_CS P_CS S_SF P_SF) (own_w hw 57 rfl) (own_w hw 7 rfl) e7 (Exa.ext E3 E_0) (by decide) own_pd10 d7_54 rfl rfl rfl (fun T8 L8 v8 X8 hQ8 => ?_)
  obtain ⟨rfl, Nq8, eq8⟩ := hQ8
  have N8 := Fr.app N4 Nq8
  show gs T8 m 57 #[vr a1, vr aS, vr b3, vi 0] [(.int (own_lat y0)), (.int 1), (.ref b3)]
  refine own_st (fun _ kS => XT.i2b X8.here hx rfl (hb hby d7_57) rfl kS) ?_
  show gs T8 m 58 #[vr a1, vr aS, vr b3, vi 0] [(.int ((own_lat y0).toInt8.toInt32)), (.int 1), (.ref b3)]
  obtain ⟨cl9, Ar9, qa9, qs9, qn9, qh9, qg9⟩ := id R3
  obtain ⟨T9, h9, X9, e9, W9, st9⟩ := stB X8 hx hZ eq8 Ar9 (j := (1 : Int32)) (inb_of qs9 ⟨by decide, by decide⟩) (g := (mkF m 58 #[vr a1, vr aS, vr b3, vi 0] [(.int ((own_lat y0).toInt8.toInt32)), (.int 1), (.ref b3)])) rfl rfl (hb hby d7_58)
  have N9 := Fr.snoc X9 N8 ge_b3
  have K9 := K3.wr W9 (Or.inr sz_b3)
  have O9 := O3.wr W9 ge_b3
  have R9 : Arv Z h9 b3 k3 .byte (4 : Int32) [(.int 0), (.int (nar .byte ((own_lat y0).toInt8.toInt32))), (.int 0), (.int 0)] (.int 0) := Arv.set Ar9 qa9 qs9 qn9 qh9 qg9 (fits_nar_byte _) W9 1 rfl (Nat.le_of_ble_eq_true rfl)
  refine own_st st9 ?_
  show gs T9 m 59 #[vr a1, vr aS, vr b3, vi 0] []
  refine own_st (fun _ kS => XS.iinc X9.here hx rfl (hb hby d7_59) rfl (l' := #[vr a1, vr aS, vr b3, vi 1]) rfl kS) ?_
  refine own_st (fun _ kS => XS.goto X9.here hx rfl (pc0 := 62) (pc' := 14) rfl (hb hby d7_62) (by decide) (by decide) kS) ?_
  refine oiloadN X9 hx hby d7_14 rfl ?_
  refine oaloadN X9 hx hby d7_15 rfl rfl ?_
  refine oV 1 X9 hx hZ hby hml hown (own_w hw 39 rfl) (own_w hw 40 rfl) (own_w hw 42 rfl) (own_w hw 41 rfl) (rm_sLen_2 l Z a0 hw [] aS tA kA y0 y1 zCS h9 n0 (Nat.le_trans (Nat.le_trans Z0 E3.1) (Keep.of_wr W9).1) O9 (Exa.wr W9 (Exa.ext E3 E_0)) (Fld.other W9 (Fld.ext E3 F0v) (Or.inl ne_aS_b3)) (Fld.other W9 (Fld.ext E3 F0c) (Or.inl ne_aS_b3)) ((Arv.ext R_A E3).other W9 ne_tA_b3) S_CS P_CS) (own_w hw 43 rfl) (own_w hw 7 rfl) e9 (Exa.wr W9 (Exa.ext E3 E_0)) (by decide) own_pd9 d7_16 rfl rfl rfl (fun T10 L10 v10 X10 hQ10 => ?_)
  obtain ⟨rfl, Nq10, eq10⟩ := hQ10
  have N10 := Fr.app N9 Nq10
  show gs T10 m 19 #[vr a1, vr aS, vr b3, vi 1] [(.int 2), (.int 1)]
  refine own_st (fun _ kS => XS.icmpNo X10.here hx rfl (hb hby d7_19) rfl (tlt (by decide : (1 : Int32) < (2 : Int32))).2.1 kS) ?_
  show gs T10 m 22 #[vr a1, vr aS, vr b3, vi 1] []
  refine oaloadN X10 hx hby d7_22 rfl rfl ?_
  refine oaloadN X10 hx hby d7_23 rfl rfl ?_
  obtain ⟨T11, X11, e11, st11⟩ := getF X10 hx hZ hown (host := "") (Or.inl (own_w hw 51 rfl)) Via.refl eq10 (Fld.ext O9.2 Fl) (g := (mkF m 24 #[vr a1, vr aS, vr b3, vi 1] [(.ref a1), (.ref b3)])) rfl rfl (hb hby d7_24)
  refine own_st st11 ?_
  show gs T11 m 27 #[vr a1, vr aS, vr b3, vi 1] [(.int 0), (.ref b3)]
  refine own_st (fun _ kS => XS.ifYes X11.here hx rfl (pc0 := 27) (pc' := 39) rfl (hb hby d7_27) rfl ((if0 _ _).trans (teq (by decide : (0 : Int32) = (0 : Int32))).1) (by decide) (by decide) kS) ?_
  show gs T11 m 39 #[vr a1, vr aS, vr b3, vi 1] [(.ref b3)]
  refine oiloadN X11 hx hby d7_39 rfl ?_
  refine oaloadN X11 hx hby d7_40 rfl rfl ?_
  obtain ⟨T12, X12, e12, st12⟩ := getF X11 hx hZ hown (host := "") (Or.inl (own_w hw 49 rfl)) Via.refl e11 (Fld.ext O9.2 Fw) (g := (mkF m 41 #[vr a1, vr aS, vr b3, vi 1] [(.ref a1), (.int 1), (.ref b3)])) rfl rfl (hb hby d7_41)
  refine own_st st12 ?_
  show gs T12 m 44 #[vr a1, vr aS, vr b3, vi 1] [(.int 2), (.int 1), (.ref b3)]
  refine own_st (fun _ kS => XS.imul X12.here hx rfl (hb hby d7_44) rfl kS) ?_
  refine oaloadN X12 hx hby d7_45 rfl rfl ?_
  obtain ⟨T13, X13, e13, st13⟩ := getF X12 hx hZ hown (host := "") (Or.inl (own_w hw 49 rfl)) Via.refl e12 (Fld.ext O9.2 Fw) (g := (mkF m 46 #[vr a1, vr aS, vr b3, vi 1] [(.ref a1), (.int 2), (.ref b3)])) rfl rfl (hb hby d7_46)
  refine own_st st13 ?_
  show gs T13 m 49 #[vr a1, vr aS, vr b3, vi 1] [(.int 2), (.int 2), (.ref b3)]
  refine own_st (fun _ kS => XS.iadd X13.here hx rfl (hb hby d7_49) rfl kS) ?_
  refine oiconst X13 hx hby d7_50 ?_
  refine own_st (fun _ kS => XS.isub X13.here hx rfl (hb hby d7_51) rfl kS) ?_
  refine oaloadN X13 hx hby d7_52 rfl rfl ?_
  refine oiloadN X13 hx hby d7_53 rfl ?_
  refine oV 2 X13 hx hZ hby hml hown (own_w hw 53 rfl) (own_w hw 54 rfl) (own_w hw 56 rfl) (own_w hw 55 rfl) (rm_chAt_2_1 l Z a0 hw [] aS tA kA y0 y1 zCS fm h9 n0 (Nat.le_trans (Nat.le_trans Z0 E3.1) (Keep.of_wr W9).1) O9 (Exa.wr W9 (Exa.ext E3 E_0)) (Fld.other W9 (Fld.ext E3 F0v) (Or.inl ne_aS_b3)) (Fld.other W9 (Fld.ext E3 F0c) (Or.inl ne_aS_b3)) ((Arv.ext R_A E3).other W9 ne_tA_b3) S_CS P_CS S_SF P_SF) (own_w hw 57 rfl) (own_w hw 7 rfl) e13 (Exa.wr W9 (Exa.ext E3 E_0)) (by decide) own_pd10 d7_54 rfl rfl rfl (fun T14 L14 v14 X14 hQ14 => ?_)
  obtain ⟨rfl, Nq14, eq14⟩ := hQ14
  have N14 := Fr.app N10 Nq14
  show gs T14 m 57 #[vr a1, vr aS, vr b3, vi 1] [(.int (own_lat y1)), (.int 3), (.ref b3)]
  refine own_st (fun _ kS => XT.i2b X14.here hx rfl (hb hby d7_57) rfl kS) ?_
  show gs T14 m 58 #[vr a1, vr aS, vr b3, vi 1] [(.int ((own_lat y1).toInt8.toInt32)), (.int 3), (.ref b3)]
  obtain ⟨cl15, Ar15, qa15, qs15, qn15, qh15, qg15⟩ := id R9
  obtain ⟨T15, h15, X15, e15, W15, st15⟩ := stB X14 hx hZ eq14 Ar15 (j := (3 : Int32)) (inb_of qs15 ⟨by decide, by decide⟩) (g := (mkF m 58 #[vr a1, vr aS, vr b3, vi 1] [(.int ((own_lat y1).toInt8.toInt32)), (.int 3), (.ref b3)])) rfl rfl (hb hby d7_58)
  have N15 := Fr.snoc X15 N14 ge_b3
  have K15 := K9.wr W15 (Or.inr sz_b3)
  have O15 := O9.wr W15 ge_b3
  have R15 : Arv Z h15 b3 k3 .byte (4 : Int32) [(.int 0), (.int (nar .byte ((own_lat y0).toInt8.toInt32))), (.int 0), (.int (nar .byte ((own_lat y1).toInt8.toInt32)))] (.int 0) := Arv.set Ar15 qa15 qs15 qn15 qh15 qg15 (fits_nar_byte _) W15 3 rfl (Nat.le_of_ble_eq_true rfl)
  refine own_st st15 ?_
  show gs T15 m 59 #[vr a1, vr aS, vr b3, vi 1] []
  refine own_st (fun _ kS => XS.iinc X15.here hx rfl (hb hby d7_59) rfl (l' := #[vr a1, vr aS, vr b3, vi 2]) rfl kS) ?_
  refine own_st (fun _ kS => XS.goto X15.here hx rfl (pc0 := 62) (pc' := 14) rfl (hb hby d7_62) (by decide) (by decide) kS) ?_
  refine oiloadN X15 hx hby d7_14 rfl ?_
  refine oaloadN X15 hx hby d7_15 rfl rfl ?_
  refine oV 1 X15 hx hZ hby hml hown (own_w hw 39 rfl) (own_w hw 40 rfl) (own_w hw 42 rfl) (own_w hw 41 rfl) (rm_sLen_2 l Z a0 hw [] aS tA kA y0 y1 zCS h15 n0 (Nat.le_trans (Nat.le_trans (Nat.le_trans Z0 E3.1) (Keep.of_wr W9).1) (Keep.of_wr W15).1) O15 (Exa.wr W15 (Exa.wr W9 (Exa.ext E3 E_0))) (Fld.other W15 (Fld.other W9 (Fld.ext E3 F0v) (Or.inl ne_aS_b3)) (Or.inl ne_aS_b3)) (Fld.other W15 (Fld.other W9 (Fld.ext E3 F0c) (Or.inl ne_aS_b3)) (Or.inl ne_aS_b3)) (((Arv.ext R_A E3).other W9 ne_tA_b3).other W15 ne_tA_b3) S_CS P_CS) (own_w hw 43 rfl) (own_w hw 7 rfl) e15 (Exa.wr W15 (Exa.wr W9 (Exa.ext E3 E_0))) (by decide) own_pd9 d7_16 rfl rfl rfl (fun T16 L16 v16 X16 hQ16 => ?_)
  obtain ⟨rfl, Nq16, eq16⟩ := hQ16
  have N16 := Fr.app N15 Nq16
  show gs T16 m 19 #[vr a1, vr aS, vr b3, vi 2] [(.int 2), (.int 2)]
  refine own_st (fun _ kS => XS.icmpYes X16.here hx rfl (pc0 := 19) (pc' := 65) rfl (hb hby d7_19) rfl (flt (by decide : ¬ ((2 : Int32) < (2 : Int32)))).2.1 (by decide) (by decide) kS) ?_
  show gs T16 m 65 #[vr a1, vr aS, vr b3, vi 2] []
  refine oaloadN X16 hx hby d7_65 rfl rfl ?_
  exact own_retA X16 hx hlk hret rfl rfl (hb hby d7_66) (by decide) (by decide) (by rw [eq16]; exact ⟨b3, k3, ⟨rfl, N16, K15, sz_b3, R15⟩⟩)
theorem ef_enc_2_2_1 (m : MethodId) (x0 : Addr) (x1 : Addr) : entryFrame m #[(.ref x0), (.ref x1)] 4 = mkF m 0 #[.val (.ref x0), .val (.ref x1), .unset, .unset] [] := by first | (simp [entryFrame, mkF, argsToLocals, Value.category]; done) | rfl
def Q_enc_2_2_1 (Z : State) (a1 : Addr) (aS : Addr) (tA : Addr) (kA : ClassId) (y0 : Int32) (y1 : Int32) (zCS : Int32) (fm : Value) (h0 : Heap) (n0 : Nat) (v : Option Value) (h : Heap) (L : List Loc) : Prop := ∃ tN : Addr, ∃ kN : ClassId, v = some (.ref tN) ∧ Fr n0 L ∧ Keep h0 h [] ∧ h0.size ≤ tN ∧ Arv Z h tN kN .byte (4 : Int32) [(.int (nar .byte ((own_lat y0).toInt8.toInt32))), (.int 0), (.int (nar .byte ((own_lat y1).toInt8.toInt32))), (.int 0)] (.int 0)
theorem rm_enc_2_2_1 (l : Launch) (Z : State) (a0 : Array Value) (hw : HW a0 Z) (ws : List Jvm.Cond) (a1 : Addr) (aS : Addr) (tA : Addr) (kA : ClassId) (y0 : Int32) (y1 : Int32) (zCS : Int32) (fm : Value) (h0 : Heap) (n0 : Nat) (Z0 : n0 ≤ h0.size) (O0 : Old Z n0 h0) (Fw : fk10 Z Z.heap a1 (.int 2)) (Fl : fk11 Z Z.heap a1 (.int 1)) (E_0 : ek12 Z h0 aS) (F0v : fk9 Z h0 aS (.ref tA)) (F0c : fk8 Z h0 aS (.int 0)) (R_A : Arv Z h0 tA kA .byte (2 : Int32) [(.int y0), (.int y1)] (.int 0)) (S_CS : sk0 Z Z.heap (.int zCS)) (P_CS : ¬ zCS = 0) (S_SF : sk1 Z Z.heap fm) (P_SF : fm.isRef = true) :
    M12 l ws (rmk 4 1 4 55) Z #[(.ref a1), (.ref aS)] h0 (Q_enc_2_2_1 Z a1 aS tA kA y0 y1 zCS fm h0 n0) := by
  refine own_go "com/example/provenir/provenir/TextEncoding" rfl (plainFor_of_name pn_7) (fun m => ef_enc_2_2_1 m a1 aS) (fun p e s m below meth c s₁ hx hby hml hown hnm hlk hret hZ X0 e0 => ?_)
  have N0 := Fr.nil n0
  have K0 := Keep.refl h0 []
  show gs s₁ m 0 #[vr a1, vr aS, .unset, .unset] []
  refine oaloadN X0 hx hby d7_0 rfl rfl ?_
  refine oV 0 X0 hx hZ hby hml hown (own_w hw 39 rfl) (own_w hw 40 rfl) (own_w hw 42 rfl) (own_w hw 41 rfl) (rm_sLen_2 l Z a0 hw [] aS tA kA y0 y1 zCS h0 n0 Z0 O0 E_0 F0v F0c R_A S_CS P_CS) (own_w hw 43 rfl) (own_w hw 7 rfl) e0 E_0 (by decide) own_pd9 d7_1 rfl rfl rfl (fun T1 L1 v1 X1 hQ1 => ?_)
  obtain ⟨rfl, Nq1, eq1⟩ := hQ1
  have N1 := Fr.app N0 Nq1
  show gs T1 m 4 #[vr a1, vr aS, .unset, .unset] [(.int 2)]
  refine oaloadN X1 hx hby d7_4 rfl rfl ?_
  obtain ⟨T2, X2, e2, st2⟩ := getF X1 hx hZ hown (host := "") (Or.inl (own_w hw 49 rfl)) Via.refl eq1 (Fld.ext O0.2 Fw) (g := (mkF m 5 #[vr a1, vr aS, .unset, .unset] [(.ref a1), (.int 2)])) rfl rfl (hb hby d7_5)
  refine own_st st2 ?_
  show gs T2 m 8 #[vr a1, vr aS, .unset, .unset] [(.int 2), (.int 2)]
  refine own_st (fun _ kS => XS.imul X2.here hx rfl (hb hby d7_8) rfl kS) ?_
  show gs T2 m 9 #[vr a1, vr aS, .unset, .unset] [(.int 4)]
  obtain ⟨T3, h3, k3, X3, e3, E3, A3, st3⟩ := newP X2 hx hZ (own_w hw 23 rfl) e2 (g := (mkF m 9 #[vr a1, vr aS, .unset, .unset] [(.int 4)])) rfl (hb hby d7_9) rfl (by decide) (cap := 4) (by decide) (by decide) (by decide) (by decide)
  obtain ⟨b3, g3⟩ : ∃ z, z = h0.size := ⟨_, rfl⟩
  have ne_aS_b3 : aS ≠ b3 := Nat.ne_of_lt (Nat.lt_of_lt_of_eq E_0.lt g3.symm)
  have ne_tA_b3 : tA ≠ b3 := Nat.ne_of_lt (Nat.lt_of_lt_of_eq R_A.lt g3.symm)
  have ge_b3 : n0 ≤ b3 := Nat.le_trans Z0 (Nat.le_of_eq g3.symm)
  have sz_b3 : h0.size ≤ b3 := Nat.le_trans K0.1 (Nat.le_of_eq g3.symm)
  rw [← g3] at A3 st3
  have K3 := K0.ext E3
  have O3 := O0.ext E3
  have R3 : Arv Z h3 b3 k3 .byte (4 : Int32) [(.int 0), (.int 0), (.int 0), (.int 0)] (.int 0) := (Arv.new A3 (by decide)).pad (pad_rep [] (.int 0) 4)
  refine own_st st3 ?_
  show gs T3 m 11 #[vr a1, vr aS, .unset, .unset] [(.ref b3)]
  refine own_st (fun _ kS => XS.astoreN X3.here hx rfl (hb hby d7_11) rfl rfl (l' := #[vr a1, vr aS, vr b3, .unset]) rfl kS) ?_
  refine oiconst X3 hx hby d7_12 ?_
  refine own_st (fun _ kS => XS.istoreN X3.here hx rfl (hb hby d7_13) rfl (l' := #[vr a1, vr aS, vr b3, vi 0]) rfl kS) ?_
  refine oiloadN X3 hx hby d7_14 rfl ?_
  refine oaloadN X3 hx hby d7_15 rfl rfl ?_
  refine oV 1 X3 hx hZ hby hml hown (own_w hw 39 rfl) (own_w hw 40 rfl) (own_w hw 42 rfl) (own_w hw 41 rfl) (rm_sLen_2 l Z a0 hw [] aS tA kA y0 y1 zCS h3 n0 (Nat.le_trans Z0 E3.1) O3 (Exa.ext E3 E_0) (Fld.ext E3 F0v) (Fld.ext E3 F0c) (Arv.ext R_A E3) S_CS P_CS) (own_w hw 43 rfl) (own_w hw 7 rfl) e3 (Exa.ext E3 E_0) (by decide) own_pd9 d7_16 rfl rfl rfl (fun T4 L4 v4 X4 hQ4 => ?_)
  obtain ⟨rfl, Nq4, eq4⟩ := hQ4
  have N4 := Fr.app N1 Nq4
  show gs T4 m 19 #[vr a1, vr aS, vr b3, vi 0] [(.int 2), (.int 0)]
  refine own_st (fun _ kS => XS.icmpNo X4.here hx rfl (hb hby d7_19) rfl (tlt (by decide : (0 : Int32) < (2 : Int32))).2.1 kS) ?_
  show gs T4 m 22 #[vr a1, vr aS, vr b3, vi 0] []
  refine oaloadN X4 hx hby d7_22 rfl rfl ?_
  refine oaloadN X4 hx hby d7_23 rfl rfl ?_
  obtain ⟨T5, X5, e5, st5⟩ := getF X4 hx hZ hown (host := "") (Or.inl (own_w hw 51 rfl)) Via.refl eq4 (Fld.ext O3.2 Fl) (g := (mkF m 24 #[vr a1, vr aS, vr b3, vi 0] [(.ref a1), (.ref b3)])) rfl rfl (hb hby d7_24)
  refine own_st st5 ?_
  show gs T5 m 27 #[vr a1, vr aS, vr b3, vi 0] [(.int 1), (.ref b3)]
  refine own_st (fun _ kS => XS.ifNo X5.here hx rfl (hb hby d7_27) rfl ((if0 _ _).trans (feq (by decide : ¬ ((1 : Int32) = (0 : Int32)))).1) kS) ?_
  show gs T5 m 30 #[vr a1, vr aS, vr b3, vi 0] [(.ref b3)]
  refine oiloadN X5 hx hby d7_30 rfl ?_
  refine oaloadN X5 hx hby d7_31 rfl rfl ?_
  obtain ⟨T6, X6, e6, st6⟩ := getF X5 hx hZ hown (host := "") (Or.inl (own_w hw 49 rfl)) Via.refl e5 (Fld.ext O3.2 Fw) (g := (mkF m 32 #[vr a1, vr aS, vr b3, vi 0] [(.ref a1), (.int 0), (.ref b3)])) rfl rfl (hb hby d7_32)
  refine own_st st6 ?_
  show gs T6 m 35 #[vr a1, vr aS, vr b3, vi 0] [(.int 2), (.int 0), (.ref b3)]
  refine own_st (fun _ kS => XS.imul X6.here hx rfl (hb hby d7_35) rfl kS) ?_
  refine own_st (fun _ kS => XS.goto X6.here hx rfl (pc0 := 36) (pc' := 52) rfl (hb hby d7_36) (by decide) (by decide) kS) ?_
  refine oaloadN X6 hx hby d7_52 rfl rfl ?_
  refine oiloadN X6 hx hby d7_53 rfl ?_
  refine oV 2 X6 hx hZ hby hml hown (own_w hw 53 rfl) (own_w hw 54 rfl) (own_w hw 56 rfl) (own_w hw 55 rfl) (rm_chAt_2_0 l Z a0 hw [] aS tA kA y0 y1 zCS fm h3 n0 (Nat.le_trans Z0 E3.1) O3 (Exa.ext E3 E_0) (Fld.ext E3 F0v) (Fld.ext E3 F0c) (Arv.ext R_A E3) S_CS P_CS S_SF P_SF) (own_w hw 57 rfl) (own_w hw 7 rfl) e6 (Exa.ext E3 E_0) (by decide) own_pd10 d7_54 rfl rfl rfl (fun T7 L7 v7 X7 hQ7 => ?_)
  obtain ⟨rfl, Nq7, eq7⟩ := hQ7
  have N7 := Fr.app N4 Nq7
  show gs T7 m 57 #[vr a1, vr aS, vr b3, vi 0] [(.int (own_lat y0)), (.int 0), (.ref b3)]
  refine own_st (fun _ kS => XT.i2b X7.here hx rfl (hb hby d7_57) rfl kS) ?_
  show gs T7 m 58 #[vr a1, vr aS, vr b3, vi 0] [(.int ((own_lat y0).toInt8.toInt32)), (.int 0), (.ref b3)]
  obtain ⟨cl8, Ar8, qa8, qs8, qn8, qh8, qg8⟩ := id R3
  obtain ⟨T8, h8, X8, e8, W8, st8⟩ := stB X7 hx hZ eq7 Ar8 (j := (0 : Int32)) (inb_of qs8 ⟨by decide, by decide⟩) (g := (mkF m 58 #[vr a1, vr aS, vr b3, vi 0] [(.int ((own_lat y0).toInt8.toInt32)), (.int 0), (.ref b3)])) rfl rfl (hb hby d7_58)
  have N8 := Fr.snoc X8 N7 ge_b3
  have K8 := K3.wr W8 (Or.inr sz_b3)
  have O8 := O3.wr W8 ge_b3
  have R8 : Arv Z h8 b3 k3 .byte (4 : Int32) [(.int (nar .byte ((own_lat y0).toInt8.toInt32))), (.int 0), (.int 0), (.int 0)] (.int 0) := Arv.set Ar8 qa8 qs8 qn8 qh8 qg8 (fits_nar_byte _) W8 0 rfl (Nat.le_of_ble_eq_true rfl)
  refine own_st st8 ?_
  show gs T8 m 59 #[vr a1, vr aS, vr b3, vi 0] []
  refine own_st (fun _ kS => XS.iinc X8.here hx rfl (hb hby d7_59) rfl (l' := #[vr a1, vr aS, vr b3, vi 1]) rfl kS) ?_
  refine own_st (fun _ kS => XS.goto X8.here hx rfl (pc0 := 62) (pc' := 14) rfl (hb hby d7_62) (by decide) (by decide) kS) ?_
  refine oiloadN X8 hx hby d7_14 rfl ?_
  refine oaloadN X8 hx hby d7_15 rfl rfl ?_
  refine oV 1 X8 hx hZ hby hml hown (own_w hw 39 rfl) (own_w hw 40 rfl) (own_w hw 42 rfl) (own_w hw 41 rfl) (rm_sLen_2 l Z a0 hw [] aS tA kA y0 y1 zCS h8 n0 (Nat.le_trans (Nat.le_trans Z0 E3.1) (Keep.of_wr W8).1) O8 (Exa.wr W8 (Exa.ext E3 E_0)) (Fld.other W8 (Fld.ext E3 F0v) (Or.inl ne_aS_b3)) (Fld.other W8 (Fld.ext E3 F0c) (Or.inl ne_aS_b3)) ((Arv.ext R_A E3).other W8 ne_tA_b3) S_CS P_CS) (own_w hw 43 rfl) (own_w hw 7 rfl) e8 (Exa.wr W8 (Exa.ext E3 E_0)) (by decide) own_pd9 d7_16 rfl rfl rfl (fun T9 L9 v9 X9 hQ9 => ?_)
  obtain ⟨rfl, Nq9, eq9⟩ := hQ9
  have N9 := Fr.app N8 Nq9
  show gs T9 m 19 #[vr a1, vr aS, vr b3, vi 1] [(.int 2), (.int 1)]
  refine own_st (fun _ kS => XS.icmpNo X9.here hx rfl (hb hby d7_19) rfl (tlt (by decide : (1 : Int32) < (2 : Int32))).2.1 kS) ?_
  show gs T9 m 22 #[vr a1, vr aS, vr b3, vi 1] []
  refine oaloadN X9 hx hby d7_22 rfl rfl ?_
  refine oaloadN X9 hx hby d7_23 rfl rfl ?_
  obtain ⟨T10, X10, e10, st10⟩ := getF X9 hx hZ hown (host := "") (Or.inl (own_w hw 51 rfl)) Via.refl eq9 (Fld.ext O8.2 Fl) (g := (mkF m 24 #[vr a1, vr aS, vr b3, vi 1] [(.ref a1), (.ref b3)])) rfl rfl (hb hby d7_24)
  refine own_st st10 ?_
  show gs T10 m 27 #[vr a1, vr aS, vr b3, vi 1] [(.int 1), (.ref b3)]
  refine own_st (fun _ kS => XS.ifNo X10.here hx rfl (hb hby d7_27) rfl ((if0 _ _).trans (feq (by decide : ¬ ((1 : Int32) = (0 : Int32)))).1) kS) ?_
  show gs T10 m 30 #[vr a1, vr aS, vr b3, vi 1] [(.ref b3)]
  refine oiloadN X10 hx hby d7_30 rfl ?_
  refine oaloadN X10 hx hby d7_31 rfl rfl ?_
  obtain ⟨T11, X11, e11, st11⟩ := getF X10 hx hZ hown (host := "") (Or.inl (own_w hw 49 rfl)) Via.refl e10 (Fld.ext O8.2 Fw) (g := (mkF m 32 #[vr a1, vr aS, vr b3, vi 1] [(.ref a1), (.int 1), (.ref b3)])) rfl rfl (hb hby d7_32)
  refine own_st st11 ?_
  show gs T11 m 35 #[vr a1, vr aS, vr b3, vi 1] [(.int 2), (.int 1), (.ref b3)]
  refine own_st (fun _ kS => XS.imul X11.here hx rfl (hb hby d7_35) rfl kS) ?_
  refine own_st (fun _ kS => XS.goto X11.here hx rfl (pc0 := 36) (pc' := 52) rfl (hb hby d7_36) (by decide) (by decide) kS) ?_
  refine oaloadN X11 hx hby d7_52 rfl rfl ?_
  refine oiloadN X11 hx hby d7_53 rfl ?_
  refine oV 2 X11 hx hZ hby hml hown (own_w hw 53 rfl) (own_w hw 54 rfl) (own_w hw 56 rfl) (own_w hw 55 rfl) (rm_chAt_2_1 l Z a0 hw [] aS tA kA y0 y1 zCS fm h8 n0 (Nat.le_trans (Nat.le_trans Z0 E3.1) (Keep.of_wr W8).1) O8 (Exa.wr W8 (Exa.ext E3 E_0)) (Fld.other W8 (Fld.ext E3 F0v) (Or.inl ne_aS_b3)) (Fld.other W8 (Fld.ext E3 F0c) (Or.inl ne_aS_b3)) ((Arv.ext R_A E3).other W8 ne_tA_b3) S_CS P_CS S_SF P_SF) (own_w hw 57 rfl) (own_w hw 7 rfl) e11 (Exa.wr W8 (Exa.ext E3 E_0)) (by decide) own_pd10 d7_54 rfl rfl rfl (fun T12 L12 v12 X12 hQ12 => ?_)
  obtain ⟨rfl, Nq12, eq12⟩ := hQ12
  have N12 := Fr.app N9 Nq12
  show gs T12 m 57 #[vr a1, vr aS, vr b3, vi 1] [(.int (own_lat y1)), (.int 2), (.ref b3)]
  refine own_st (fun _ kS => XT.i2b X12.here hx rfl (hb hby d7_57) rfl kS) ?_
  show gs T12 m 58 #[vr a1, vr aS, vr b3, vi 1] [(.int ((own_lat y1).toInt8.toInt32)), (.int 2), (.ref b3)]
  obtain ⟨cl13, Ar13, qa13, qs13, qn13, qh13, qg13⟩ := id R8
  obtain ⟨T13, h13, X13, e13, W13, st13⟩ := stB X12 hx hZ eq12 Ar13 (j := (2 : Int32)) (inb_of qs13 ⟨by decide, by decide⟩) (g := (mkF m 58 #[vr a1, vr aS, vr b3, vi 1] [(.int ((own_lat y1).toInt8.toInt32)), (.int 2), (.ref b3)])) rfl rfl (hb hby d7_58)
  have N13 := Fr.snoc X13 N12 ge_b3
  have K13 := K8.wr W13 (Or.inr sz_b3)
  have O13 := O8.wr W13 ge_b3
  have R13 : Arv Z h13 b3 k3 .byte (4 : Int32) [(.int (nar .byte ((own_lat y0).toInt8.toInt32))), (.int 0), (.int (nar .byte ((own_lat y1).toInt8.toInt32))), (.int 0)] (.int 0) := Arv.set Ar13 qa13 qs13 qn13 qh13 qg13 (fits_nar_byte _) W13 2 rfl (Nat.le_of_ble_eq_true rfl)
  refine own_st st13 ?_
  show gs T13 m 59 #[vr a1, vr aS, vr b3, vi 1] []
  refine own_st (fun _ kS => XS.iinc X13.here hx rfl (hb hby d7_59) rfl (l' := #[vr a1, vr aS, vr b3, vi 2]) rfl kS) ?_
  refine own_st (fun _ kS => XS.goto X13.here hx rfl (pc0 := 62) (pc' := 14) rfl (hb hby d7_62) (by decide) (by decide) kS) ?_
  refine oiloadN X13 hx hby d7_14 rfl ?_
  refine oaloadN X13 hx hby d7_15 rfl rfl ?_
  refine oV 1 X13 hx hZ hby hml hown (own_w hw 39 rfl) (own_w hw 40 rfl) (own_w hw 42 rfl) (own_w hw 41 rfl) (rm_sLen_2 l Z a0 hw [] aS tA kA y0 y1 zCS h13 n0 (Nat.le_trans (Nat.le_trans (Nat.le_trans Z0 E3.1) (Keep.of_wr W8).1) (Keep.of_wr W13).1) O13 (Exa.wr W13 (Exa.wr W8 (Exa.ext E3 E_0))) (Fld.other W13 (Fld.other W8 (Fld.ext E3 F0v) (Or.inl ne_aS_b3)) (Or.inl ne_aS_b3)) (Fld.other W13 (Fld.other W8 (Fld.ext E3 F0c) (Or.inl ne_aS_b3)) (Or.inl ne_aS_b3)) (((Arv.ext R_A E3).other W8 ne_tA_b3).other W13 ne_tA_b3) S_CS P_CS) (own_w hw 43 rfl) (own_w hw 7 rfl) e13 (Exa.wr W13 (Exa.wr W8 (Exa.ext E3 E_0))) (by decide) own_pd9 d7_16 rfl rfl rfl (fun T14 L14 v14 X14 hQ14 => ?_)
  obtain ⟨rfl, Nq14, eq14⟩ := hQ14
  have N14 := Fr.app N13 Nq14
  show gs T14 m 19 #[vr a1, vr aS, vr b3, vi 2] [(.int 2), (.int 2)]
  refine own_st (fun _ kS => XS.icmpYes X14.here hx rfl (pc0 := 19) (pc' := 65) rfl (hb hby d7_19) rfl (flt (by decide : ¬ ((2 : Int32) < (2 : Int32)))).2.1 (by decide) (by decide) kS) ?_
  show gs T14 m 65 #[vr a1, vr aS, vr b3, vi 2] []
  refine oaloadN X14 hx hby d7_65 rfl rfl ?_
  exact own_retA X14 hx hlk hret rfl rfl (hb hby d7_66) (by decide) (by decide) (by rw [eq14]; exact ⟨b3, k3, ⟨rfl, N14, K13, sz_b3, R13⟩⟩)
theorem ef_enc_3_1_0 (m : MethodId) (x0 : Addr) (x1 : Addr) : entryFrame m #[(.ref x0), (.ref x1)] 4 = mkF m 0 #[.val (.ref x0), .val (.ref x1), .unset, .unset] [] := by first | (simp [entryFrame, mkF, argsToLocals, Value.category]; done) | rfl
def Q_enc_3_1_0 (Z : State) (a1 : Addr) (aS : Addr) (tA : Addr) (kA : ClassId) (y0 : Int32) (y1 : Int32) (y2 : Int32) (zCS : Int32) (fm : Value) (h0 : Heap) (n0 : Nat) (v : Option Value) (h : Heap) (L : List Loc) : Prop := ∃ tN : Addr, ∃ kN : ClassId, v = some (.ref tN) ∧ Fr n0 L ∧ Keep h0 h [] ∧ h0.size ≤ tN ∧ Arv Z h tN kN .byte (3 : Int32) [(.int (nar .byte ((own_lat y0).toInt8.toInt32))), (.int (nar .byte ((own_lat y1).toInt8.toInt32))), (.int (nar .byte ((own_lat y2).toInt8.toInt32)))] (.int 0)
theorem rm_enc_3_1_0 (l : Launch) (Z : State) (a0 : Array Value) (hw : HW a0 Z) (ws : List Jvm.Cond) (a1 : Addr) (aS : Addr) (tA : Addr) (kA : ClassId) (y0 : Int32) (y1 : Int32) (y2 : Int32) (zCS : Int32) (fm : Value) (h0 : Heap) (n0 : Nat) (Z0 : n0 ≤ h0.size) (O0 : Old Z n0 h0) (Fw : fk10 Z Z.heap a1 (.int 1)) (Fl : fk11 Z Z.heap a1 (.int 0)) (E_0 : ek12 Z h0 aS) (F0v : fk9 Z h0 aS (.ref tA)) (F0c : fk8 Z h0 aS (.int 0)) (R_A : Arv Z h0 tA kA .byte (3 : Int32) [(.int y0), (.int y1), (.int y2)] (.int 0)) (S_CS : sk0 Z Z.heap (.int zCS)) (P_CS : ¬ zCS = 0) (S_SF : sk1 Z Z.heap fm) (P_SF : fm.isRef = true) :
    M12 l ws (rmk 4 1 3 55) Z #[(.ref a1), (.ref aS)] h0 (Q_enc_3_1_0 Z a1 aS tA kA y0 y1 y2 zCS fm h0 n0) := by
  refine own_go "com/example/provenir/provenir/TextEncoding" rfl (plainFor_of_name pn_7) (fun m => ef_enc_3_1_0 m a1 aS) (fun p e s m below meth c s₁ hx hby hml hown hnm hlk hret hZ X0 e0 => ?_)
  have N0 := Fr.nil n0
  have K0 := Keep.refl h0 []
  show gs s₁ m 0 #[vr a1, vr aS, .unset, .unset] []
  refine oaloadN X0 hx hby d7_0 rfl rfl ?_
  refine oV 0 X0 hx hZ hby hml hown (own_w hw 39 rfl) (own_w hw 40 rfl) (own_w hw 42 rfl) (own_w hw 41 rfl) (rm_sLen_3 l Z a0 hw [] aS tA kA y0 y1 y2 zCS h0 n0 Z0 O0 E_0 F0v F0c R_A S_CS P_CS) (own_w hw 43 rfl) (own_w hw 7 rfl) e0 E_0 (by decide) own_pd9 d7_1 rfl rfl rfl (fun T1 L1 v1 X1 hQ1 => ?_)
  obtain ⟨rfl, Nq1, eq1⟩ := hQ1
  have N1 := Fr.app N0 Nq1
  show gs T1 m 4 #[vr a1, vr aS, .unset, .unset] [(.int 3)]
  refine oaloadN X1 hx hby d7_4 rfl rfl ?_
  obtain ⟨T2, X2, e2, st2⟩ := getF X1 hx hZ hown (host := "") (Or.inl (own_w hw 49 rfl)) Via.refl eq1 (Fld.ext O0.2 Fw) (g := (mkF m 5 #[vr a1, vr aS, .unset, .unset] [(.ref a1), (.int 3)])) rfl rfl (hb hby d7_5)
  refine own_st st2 ?_
  show gs T2 m 8 #[vr a1, vr aS, .unset, .unset] [(.int 1), (.int 3)]
  refine own_st (fun _ kS => XS.imul X2.here hx rfl (hb hby d7_8) rfl kS) ?_
  show gs T2 m 9 #[vr a1, vr aS, .unset, .unset] [(.int 3)]
  obtain ⟨T3, h3, k3, X3, e3, E3, A3, st3⟩ := newP X2 hx hZ (own_w hw 23 rfl) e2 (g := (mkF m 9 #[vr a1, vr aS, .unset, .unset] [(.int 3)])) rfl (hb hby d7_9) rfl (by decide) (cap := 3) (by decide) (by decide) (by decide) (by decide)
  obtain ⟨b3, g3⟩ : ∃ z, z = h0.size := ⟨_, rfl⟩
  have ne_aS_b3 : aS ≠ b3 := Nat.ne_of_lt (Nat.lt_of_lt_of_eq E_0.lt g3.symm)
  have ne_tA_b3 : tA ≠ b3 := Nat.ne_of_lt (Nat.lt_of_lt_of_eq R_A.lt g3.symm)
  have ge_b3 : n0 ≤ b3 := Nat.le_trans Z0 (Nat.le_of_eq g3.symm)
  have sz_b3 : h0.size ≤ b3 := Nat.le_trans K0.1 (Nat.le_of_eq g3.symm)
  rw [← g3] at A3 st3
  have K3 := K0.ext E3
  have O3 := O0.ext E3
  have R3 : Arv Z h3 b3 k3 .byte (3 : Int32) [(.int 0), (.int 0), (.int 0)] (.int 0) := (Arv.new A3 (by decide)).pad (pad_rep [] (.int 0) 3)
  refine own_st st3 ?_
  show gs T3 m 11 #[vr a1, vr aS, .unset, .unset] [(.ref b3)]
  refine own_st (fun _ kS => XS.astoreN X3.here hx rfl (hb hby d7_11) rfl rfl (l' := #[vr a1, vr aS, vr b3, .unset]) rfl kS) ?_
  refine oiconst X3 hx hby d7_12 ?_
  refine own_st (fun _ kS => XS.istoreN X3.here hx rfl (hb hby d7_13) rfl (l' := #[vr a1, vr aS, vr b3, vi 0]) rfl kS) ?_
  refine oiloadN X3 hx hby d7_14 rfl ?_
  refine oaloadN X3 hx hby d7_15 rfl rfl ?_
  refine oV 1 X3 hx hZ hby hml hown (own_w hw 39 rfl) (own_w hw 40 rfl) (own_w hw 42 rfl) (own_w hw 41 rfl) (rm_sLen_3 l Z a0 hw [] aS tA kA y0 y1 y2 zCS h3 n0 (Nat.le_trans Z0 E3.1) O3 (Exa.ext E3 E_0) (Fld.ext E3 F0v) (Fld.ext E3 F0c) (Arv.ext R_A E3) S_CS P_CS) (own_w hw 43 rfl) (own_w hw 7 rfl) e3 (Exa.ext E3 E_0) (by decide) own_pd9 d7_16 rfl rfl rfl (fun T4 L4 v4 X4 hQ4 => ?_)
  obtain ⟨rfl, Nq4, eq4⟩ := hQ4
  have N4 := Fr.app N1 Nq4
  show gs T4 m 19 #[vr a1, vr aS, vr b3, vi 0] [(.int 3), (.int 0)]
  refine own_st (fun _ kS => XS.icmpNo X4.here hx rfl (hb hby d7_19) rfl (tlt (by decide : (0 : Int32) < (3 : Int32))).2.1 kS) ?_
  show gs T4 m 22 #[vr a1, vr aS, vr b3, vi 0] []
  refine oaloadN X4 hx hby d7_22 rfl rfl ?_
  refine oaloadN X4 hx hby d7_23 rfl rfl ?_
  obtain ⟨T5, X5, e5, st5⟩ := getF X4 hx hZ hown (host := "") (Or.inl (own_w hw 51 rfl)) Via.refl eq4 (Fld.ext O3.2 Fl) (g := (mkF m 24 #[vr a1, vr aS, vr b3, vi 0] [(.ref a1), (.ref b3)])) rfl rfl (hb hby d7_24)
  refine own_st st5 ?_
  show gs T5 m 27 #[vr a1, vr aS, vr b3, vi 0] [(.int 0), (.ref b3)]
  refine own_st (fun _ kS => XS.ifYes X5.here hx rfl (pc0 := 27) (pc' := 39) rfl (hb hby d7_27) rfl ((if0 _ _).trans (teq (by decide : (0 : Int32) = (0 : Int32))).1) (by decide) (by decide) kS) ?_
  show gs T5 m 39 #[vr a1, vr aS, vr b3, vi 0] [(.ref b3)]
  refine oiloadN X5 hx hby d7_39 rfl ?_
  refine oaloadN X5 hx hby d7_40 rfl rfl ?_
  obtain ⟨T6, X6, e6, st6⟩ := getF X5 hx hZ hown (host := "") (Or.inl (own_w hw 49 rfl)) Via.refl e5 (Fld.ext O3.2 Fw) (g := (mkF m 41 #[vr a1, vr aS, vr b3, vi 0] [(.ref a1), (.int 0), (.ref b3)])) rfl rfl (hb hby d7_41)
  refine own_st st6 ?_
  show gs T6 m 44 #[vr a1, vr aS, vr b3, vi 0] [(.int 1), (.int 0), (.ref b3)]
  refine own_st (fun _ kS => XS.imul X6.here hx rfl (hb hby d7_44) rfl kS) ?_
  refine oaloadN X6 hx hby d7_45 rfl rfl ?_
  obtain ⟨T7, X7, e7, st7⟩ := getF X6 hx hZ hown (host := "") (Or.inl (own_w hw 49 rfl)) Via.refl e6 (Fld.ext O3.2 Fw) (g := (mkF m 46 #[vr a1, vr aS, vr b3, vi 0] [(.ref a1), (.int 0), (.ref b3)])) rfl rfl (hb hby d7_46)
  refine own_st st7 ?_
  show gs T7 m 49 #[vr a1, vr aS, vr b3, vi 0] [(.int 1), (.int 0), (.ref b3)]
  refine own_st (fun _ kS => XS.iadd X7.here hx rfl (hb hby d7_49) rfl kS) ?_
  refine oiconst X7 hx hby d7_50 ?_
  refine own_st (fun _ kS => XS.isub X7.here hx rfl (hb hby d7_51) rfl kS) ?_
  refine oaloadN X7 hx hby d7_52 rfl rfl ?_
  refine oiloadN X7 hx hby d7_53 rfl ?_
  refine oV 2 X7 hx hZ hby hml hown (own_w hw 53 rfl) (own_w hw 54 rfl) (own_w hw 56 rfl) (own_w hw 55 rfl) (rm_chAt_3_0 l Z a0 hw [] aS tA kA y0 y1 y2 zCS fm h3 n0 (Nat.le_trans Z0 E3.1) O3 (Exa.ext E3 E_0) (Fld.ext E3 F0v) (Fld.ext E3 F0c) (Arv.ext R_A E3) S_CS P_CS S_SF P_SF) (own_w hw 57 rfl) (own_w hw 7 rfl) e7 (Exa.ext E3 E_0) (by decide) own_pd10 d7_54 rfl rfl rfl (fun T8 L8 v8 X8 hQ8 => ?_)
  obtain ⟨rfl, Nq8, eq8⟩ := hQ8
  have N8 := Fr.app N4 Nq8
  show gs T8 m 57 #[vr a1, vr aS, vr b3, vi 0] [(.int (own_lat y0)), (.int 0), (.ref b3)]
  refine own_st (fun _ kS => XT.i2b X8.here hx rfl (hb hby d7_57) rfl kS) ?_
  show gs T8 m 58 #[vr a1, vr aS, vr b3, vi 0] [(.int ((own_lat y0).toInt8.toInt32)), (.int 0), (.ref b3)]
  obtain ⟨cl9, Ar9, qa9, qs9, qn9, qh9, qg9⟩ := id R3
  obtain ⟨T9, h9, X9, e9, W9, st9⟩ := stB X8 hx hZ eq8 Ar9 (j := (0 : Int32)) (inb_of qs9 ⟨by decide, by decide⟩) (g := (mkF m 58 #[vr a1, vr aS, vr b3, vi 0] [(.int ((own_lat y0).toInt8.toInt32)), (.int 0), (.ref b3)])) rfl rfl (hb hby d7_58)
  have N9 := Fr.snoc X9 N8 ge_b3
  have K9 := K3.wr W9 (Or.inr sz_b3)
  have O9 := O3.wr W9 ge_b3
  have R9 : Arv Z h9 b3 k3 .byte (3 : Int32) [(.int (nar .byte ((own_lat y0).toInt8.toInt32))), (.int 0), (.int 0)] (.int 0) := Arv.set Ar9 qa9 qs9 qn9 qh9 qg9 (fits_nar_byte _) W9 0 rfl (Nat.le_of_ble_eq_true rfl)
  refine own_st st9 ?_
  show gs T9 m 59 #[vr a1, vr aS, vr b3, vi 0] []
  refine own_st (fun _ kS => XS.iinc X9.here hx rfl (hb hby d7_59) rfl (l' := #[vr a1, vr aS, vr b3, vi 1]) rfl kS) ?_
  refine own_st (fun _ kS => XS.goto X9.here hx rfl (pc0 := 62) (pc' := 14) rfl (hb hby d7_62) (by decide) (by decide) kS) ?_
  refine oiloadN X9 hx hby d7_14 rfl ?_
  refine oaloadN X9 hx hby d7_15 rfl rfl ?_
  refine oV 1 X9 hx hZ hby hml hown (own_w hw 39 rfl) (own_w hw 40 rfl) (own_w hw 42 rfl) (own_w hw 41 rfl) (rm_sLen_3 l Z a0 hw [] aS tA kA y0 y1 y2 zCS h9 n0 (Nat.le_trans (Nat.le_trans Z0 E3.1) (Keep.of_wr W9).1) O9 (Exa.wr W9 (Exa.ext E3 E_0)) (Fld.other W9 (Fld.ext E3 F0v) (Or.inl ne_aS_b3)) (Fld.other W9 (Fld.ext E3 F0c) (Or.inl ne_aS_b3)) ((Arv.ext R_A E3).other W9 ne_tA_b3) S_CS P_CS) (own_w hw 43 rfl) (own_w hw 7 rfl) e9 (Exa.wr W9 (Exa.ext E3 E_0)) (by decide) own_pd9 d7_16 rfl rfl rfl (fun T10 L10 v10 X10 hQ10 => ?_)
  obtain ⟨rfl, Nq10, eq10⟩ := hQ10
  have N10 := Fr.app N9 Nq10
  show gs T10 m 19 #[vr a1, vr aS, vr b3, vi 1] [(.int 3), (.int 1)]
  refine own_st (fun _ kS => XS.icmpNo X10.here hx rfl (hb hby d7_19) rfl (tlt (by decide : (1 : Int32) < (3 : Int32))).2.1 kS) ?_
  show gs T10 m 22 #[vr a1, vr aS, vr b3, vi 1] []
  refine oaloadN X10 hx hby d7_22 rfl rfl ?_
  refine oaloadN X10 hx hby d7_23 rfl rfl ?_
  obtain ⟨T11, X11, e11, st11⟩ := getF X10 hx hZ hown (host := "") (Or.inl (own_w hw 51 rfl)) Via.refl eq10 (Fld.ext O9.2 Fl) (g := (mkF m 24 #[vr a1, vr aS, vr b3, vi 1] [(.ref a1), (.ref b3)])) rfl rfl (hb hby d7_24)
  refine own_st st11 ?_
  show gs T11 m 27 #[vr a1, vr aS, vr b3, vi 1] [(.int 0), (.ref b3)]
  refine own_st (fun _ kS => XS.ifYes X11.here hx rfl (pc0 := 27) (pc' := 39) rfl (hb hby d7_27) rfl ((if0 _ _).trans (teq (by decide : (0 : Int32) = (0 : Int32))).1) (by decide) (by decide) kS) ?_
  show gs T11 m 39 #[vr a1, vr aS, vr b3, vi 1] [(.ref b3)]
  refine oiloadN X11 hx hby d7_39 rfl ?_
  refine oaloadN X11 hx hby d7_40 rfl rfl ?_
  obtain ⟨T12, X12, e12, st12⟩ := getF X11 hx hZ hown (host := "") (Or.inl (own_w hw 49 rfl)) Via.refl e11 (Fld.ext O9.2 Fw) (g := (mkF m 41 #[vr a1, vr aS, vr b3, vi 1] [(.ref a1), (.int 1), (.ref b3)])) rfl rfl (hb hby d7_41)
  refine own_st st12 ?_
  show gs T12 m 44 #[vr a1, vr aS, vr b3, vi 1] [(.int 1), (.int 1), (.ref b3)]
  refine own_st (fun _ kS => XS.imul X12.here hx rfl (hb hby d7_44) rfl kS) ?_
  refine oaloadN X12 hx hby d7_45 rfl rfl ?_
  obtain ⟨T13, X13, e13, st13⟩ := getF X12 hx hZ hown (host := "") (Or.inl (own_w hw 49 rfl)) Via.refl e12 (Fld.ext O9.2 Fw) (g := (mkF m 46 #[vr a1, vr aS, vr b3, vi 1] [(.ref a1), (.int 1), (.ref b3)])) rfl rfl (hb hby d7_46)
  refine own_st st13 ?_
  show gs T13 m 49 #[vr a1, vr aS, vr b3, vi 1] [(.int 1), (.int 1), (.ref b3)]
  refine own_st (fun _ kS => XS.iadd X13.here hx rfl (hb hby d7_49) rfl kS) ?_
  refine oiconst X13 hx hby d7_50 ?_
  refine own_st (fun _ kS => XS.isub X13.here hx rfl (hb hby d7_51) rfl kS) ?_
  refine oaloadN X13 hx hby d7_52 rfl rfl ?_
  refine oiloadN X13 hx hby d7_53 rfl ?_
  refine oV 2 X13 hx hZ hby hml hown (own_w hw 53 rfl) (own_w hw 54 rfl) (own_w hw 56 rfl) (own_w hw 55 rfl) (rm_chAt_3_1 l Z a0 hw [] aS tA kA y0 y1 y2 zCS fm h9 n0 (Nat.le_trans (Nat.le_trans Z0 E3.1) (Keep.of_wr W9).1) O9 (Exa.wr W9 (Exa.ext E3 E_0)) (Fld.other W9 (Fld.ext E3 F0v) (Or.inl ne_aS_b3)) (Fld.other W9 (Fld.ext E3 F0c) (Or.inl ne_aS_b3)) ((Arv.ext R_A E3).other W9 ne_tA_b3) S_CS P_CS S_SF P_SF) (own_w hw 57 rfl) (own_w hw 7 rfl) e13 (Exa.wr W9 (Exa.ext E3 E_0)) (by decide) own_pd10 d7_54 rfl rfl rfl (fun T14 L14 v14 X14 hQ14 => ?_)
  obtain ⟨rfl, Nq14, eq14⟩ := hQ14
  have N14 := Fr.app N10 Nq14
  show gs T14 m 57 #[vr a1, vr aS, vr b3, vi 1] [(.int (own_lat y1)), (.int 1), (.ref b3)]
  refine own_st (fun _ kS => XT.i2b X14.here hx rfl (hb hby d7_57) rfl kS) ?_
  show gs T14 m 58 #[vr a1, vr aS, vr b3, vi 1] [(.int ((own_lat y1).toInt8.toInt32)), (.int 1), (.ref b3)]
  obtain ⟨cl15, Ar15, qa15, qs15, qn15, qh15, qg15⟩ := id R9
  obtain ⟨T15, h15, X15, e15, W15, st15⟩ := stB X14 hx hZ eq14 Ar15 (j := (1 : Int32)) (inb_of qs15 ⟨by decide, by decide⟩) (g := (mkF m 58 #[vr a1, vr aS, vr b3, vi 1] [(.int ((own_lat y1).toInt8.toInt32)), (.int 1), (.ref b3)])) rfl rfl (hb hby d7_58)
  have N15 := Fr.snoc X15 N14 ge_b3
  have K15 := K9.wr W15 (Or.inr sz_b3)
  have O15 := O9.wr W15 ge_b3
  have R15 : Arv Z h15 b3 k3 .byte (3 : Int32) [(.int (nar .byte ((own_lat y0).toInt8.toInt32))), (.int (nar .byte ((own_lat y1).toInt8.toInt32))), (.int 0)] (.int 0) := Arv.set Ar15 qa15 qs15 qn15 qh15 qg15 (fits_nar_byte _) W15 1 rfl (Nat.le_of_ble_eq_true rfl)
  refine own_st st15 ?_
  show gs T15 m 59 #[vr a1, vr aS, vr b3, vi 1] []
  refine own_st (fun _ kS => XS.iinc X15.here hx rfl (hb hby d7_59) rfl (l' := #[vr a1, vr aS, vr b3, vi 2]) rfl kS) ?_
  refine own_st (fun _ kS => XS.goto X15.here hx rfl (pc0 := 62) (pc' := 14) rfl (hb hby d7_62) (by decide) (by decide) kS) ?_
  refine oiloadN X15 hx hby d7_14 rfl ?_
  refine oaloadN X15 hx hby d7_15 rfl rfl ?_
  refine oV 1 X15 hx hZ hby hml hown (own_w hw 39 rfl) (own_w hw 40 rfl) (own_w hw 42 rfl) (own_w hw 41 rfl) (rm_sLen_3 l Z a0 hw [] aS tA kA y0 y1 y2 zCS h15 n0 (Nat.le_trans (Nat.le_trans (Nat.le_trans Z0 E3.1) (Keep.of_wr W9).1) (Keep.of_wr W15).1) O15 (Exa.wr W15 (Exa.wr W9 (Exa.ext E3 E_0))) (Fld.other W15 (Fld.other W9 (Fld.ext E3 F0v) (Or.inl ne_aS_b3)) (Or.inl ne_aS_b3)) (Fld.other W15 (Fld.other W9 (Fld.ext E3 F0c) (Or.inl ne_aS_b3)) (Or.inl ne_aS_b3)) (((Arv.ext R_A E3).other W9 ne_tA_b3).other W15 ne_tA_b3) S_CS P_CS) (own_w hw 43 rfl) (own_w hw 7 rfl) e15 (Exa.wr W15 (Exa.wr W9 (Exa.ext E3 E_0))) (by decide) own_pd9 d7_16 rfl rfl rfl (fun T16 L16 v16 X16 hQ16 => ?_)
  obtain ⟨rfl, Nq16, eq16⟩ := hQ16
  have N16 := Fr.app N15 Nq16
  show gs T16 m 19 #[vr a1, vr aS, vr b3, vi 2] [(.int 3), (.int 2)]
  refine own_st (fun _ kS => XS.icmpNo X16.here hx rfl (hb hby d7_19) rfl (tlt (by decide : (2 : Int32) < (3 : Int32))).2.1 kS) ?_
  show gs T16 m 22 #[vr a1, vr aS, vr b3, vi 2] []
  refine oaloadN X16 hx hby d7_22 rfl rfl ?_
  refine oaloadN X16 hx hby d7_23 rfl rfl ?_
  obtain ⟨T17, X17, e17, st17⟩ := getF X16 hx hZ hown (host := "") (Or.inl (own_w hw 51 rfl)) Via.refl eq16 (Fld.ext O15.2 Fl) (g := (mkF m 24 #[vr a1, vr aS, vr b3, vi 2] [(.ref a1), (.ref b3)])) rfl rfl (hb hby d7_24)
  refine own_st st17 ?_
  show gs T17 m 27 #[vr a1, vr aS, vr b3, vi 2] [(.int 0), (.ref b3)]
  refine own_st (fun _ kS => XS.ifYes X17.here hx rfl (pc0 := 27) (pc' := 39) rfl (hb hby d7_27) rfl ((if0 _ _).trans (teq (by decide : (0 : Int32) = (0 : Int32))).1) (by decide) (by decide) kS) ?_
  show gs T17 m 39 #[vr a1, vr aS, vr b3, vi 2] [(.ref b3)]
  refine oiloadN X17 hx hby d7_39 rfl ?_
  refine oaloadN X17 hx hby d7_40 rfl rfl ?_
  obtain ⟨T18, X18, e18, st18⟩ := getF X17 hx hZ hown (host := "") (Or.inl (own_w hw 49 rfl)) Via.refl e17 (Fld.ext O15.2 Fw) (g := (mkF m 41 #[vr a1, vr aS, vr b3, vi 2] [(.ref a1), (.int 2), (.ref b3)])) rfl rfl (hb hby d7_41)
  refine own_st st18 ?_
  show gs T18 m 44 #[vr a1, vr aS, vr b3, vi 2] [(.int 1), (.int 2), (.ref b3)]
  refine own_st (fun _ kS => XS.imul X18.here hx rfl (hb hby d7_44) rfl kS) ?_
  refine oaloadN X18 hx hby d7_45 rfl rfl ?_
  obtain ⟨T19, X19, e19, st19⟩ := getF X18 hx hZ hown (host := "") (Or.inl (own_w hw 49 rfl)) Via.refl e18 (Fld.ext O15.2 Fw) (g := (mkF m 46 #[vr a1, vr aS, vr b3, vi 2] [(.ref a1), (.int 2), (.ref b3)])) rfl rfl (hb hby d7_46)
  refine own_st st19 ?_
  show gs T19 m 49 #[vr a1, vr aS, vr b3, vi 2] [(.int 1), (.int 2), (.ref b3)]
  refine own_st (fun _ kS => XS.iadd X19.here hx rfl (hb hby d7_49) rfl kS) ?_
  refine oiconst X19 hx hby d7_50 ?_
  refine own_st (fun _ kS => XS.isub X19.here hx rfl (hb hby d7_51) rfl kS) ?_
  refine oaloadN X19 hx hby d7_52 rfl rfl ?_
  refine oiloadN X19 hx hby d7_53 rfl ?_
  refine oV 2 X19 hx hZ hby hml hown (own_w hw 53 rfl) (own_w hw 54 rfl) (own_w hw 56 rfl) (own_w hw 55 rfl) (rm_chAt_3_2 l Z a0 hw [] aS tA kA y0 y1 y2 zCS fm h15 n0 (Nat.le_trans (Nat.le_trans (Nat.le_trans Z0 E3.1) (Keep.of_wr W9).1) (Keep.of_wr W15).1) O15 (Exa.wr W15 (Exa.wr W9 (Exa.ext E3 E_0))) (Fld.other W15 (Fld.other W9 (Fld.ext E3 F0v) (Or.inl ne_aS_b3)) (Or.inl ne_aS_b3)) (Fld.other W15 (Fld.other W9 (Fld.ext E3 F0c) (Or.inl ne_aS_b3)) (Or.inl ne_aS_b3)) (((Arv.ext R_A E3).other W9 ne_tA_b3).other W15 ne_tA_b3) S_CS P_CS S_SF P_SF) (own_w hw 57 rfl) (own_w hw 7 rfl) e19 (Exa.wr W15 (Exa.wr W9 (Exa.ext E3 E_0))) (by decide) own_pd10 d7_54 rfl rfl rfl (fun T20 L20 v20 X20 hQ20 => ?_)
  obtain ⟨rfl, Nq20, eq20⟩ := hQ20
  have N20 := Fr.app N16 Nq20
  show gs T20 m 57 #[vr a1, vr aS, vr b3, vi 2] [(.int (own_lat y2)), (.int 2), (.ref b3)]
  refine own_st (fun _ kS => XT.i2b X20.here hx rfl (hb hby d7_57) rfl kS) ?_
  show gs T20 m 58 #[vr a1, vr aS, vr b3, vi 2] [(.int ((own_lat y2).toInt8.toInt32)), (.int 2), (.ref b3)]
  obtain ⟨cl21, Ar21, qa21, qs21, qn21, qh21, qg21⟩ := id R15
  obtain ⟨T21, h21, X21, e21, W21, st21⟩ := stB X20 hx hZ eq20 Ar21 (j := (2 : Int32)) (inb_of qs21 ⟨by decide, by decide⟩) (g := (mkF m 58 #[vr a1, vr aS, vr b3, vi 2] [(.int ((own_lat y2).toInt8.toInt32)), (.int 2), (.ref b3)])) rfl rfl (hb hby d7_58)
  have N21 := Fr.snoc X21 N20 ge_b3
  have K21 := K15.wr W21 (Or.inr sz_b3)
  have O21 := O15.wr W21 ge_b3
  have R21 : Arv Z h21 b3 k3 .byte (3 : Int32) [(.int (nar .byte ((own_lat y0).toInt8.toInt32))), (.int (nar .byte ((own_lat y1).toInt8.toInt32))), (.int (nar .byte ((own_lat y2).toInt8.toInt32)))] (.int 0) := Arv.set Ar21 qa21 qs21 qn21 qh21 qg21 (fits_nar_byte _) W21 2 rfl (Nat.le_of_ble_eq_true rfl)
  refine own_st st21 ?_
  show gs T21 m 59 #[vr a1, vr aS, vr b3, vi 2] []
  refine own_st (fun _ kS => XS.iinc X21.here hx rfl (hb hby d7_59) rfl (l' := #[vr a1, vr aS, vr b3, vi 3]) rfl kS) ?_
  refine own_st (fun _ kS => XS.goto X21.here hx rfl (pc0 := 62) (pc' := 14) rfl (hb hby d7_62) (by decide) (by decide) kS) ?_
  refine oiloadN X21 hx hby d7_14 rfl ?_
  refine oaloadN X21 hx hby d7_15 rfl rfl ?_
  refine oV 1 X21 hx hZ hby hml hown (own_w hw 39 rfl) (own_w hw 40 rfl) (own_w hw 42 rfl) (own_w hw 41 rfl) (rm_sLen_3 l Z a0 hw [] aS tA kA y0 y1 y2 zCS h21 n0 (Nat.le_trans (Nat.le_trans (Nat.le_trans (Nat.le_trans Z0 E3.1) (Keep.of_wr W9).1) (Keep.of_wr W15).1) (Keep.of_wr W21).1) O21 (Exa.wr W21 (Exa.wr W15 (Exa.wr W9 (Exa.ext E3 E_0)))) (Fld.other W21 (Fld.other W15 (Fld.other W9 (Fld.ext E3 F0v) (Or.inl ne_aS_b3)) (Or.inl ne_aS_b3)) (Or.inl ne_aS_b3)) (Fld.other W21 (Fld.other W15 (Fld.other W9 (Fld.ext E3 F0c) (Or.inl ne_aS_b3)) (Or.inl ne_aS_b3)) (Or.inl ne_aS_b3)) ((((Arv.ext R_A E3).other W9 ne_tA_b3).other W15 ne_tA_b3).other W21 ne_tA_b3) S_CS P_CS) (own_w hw 43 rfl) (own_w hw 7 rfl) e21 (Exa.wr W21 (Exa.wr W15 (Exa.wr W9 (Exa.ext E3 E_0)))) (by decide) own_pd9 d7_16 rfl rfl rfl (fun T22 L22 v22 X22 hQ22 => ?_)
  obtain ⟨rfl, Nq22, eq22⟩ := hQ22
  have N22 := Fr.app N21 Nq22
  show gs T22 m 19 #[vr a1, vr aS, vr b3, vi 3] [(.int 3), (.int 3)]
  refine own_st (fun _ kS => XS.icmpYes X22.here hx rfl (pc0 := 19) (pc' := 65) rfl (hb hby d7_19) rfl (flt (by decide : ¬ ((3 : Int32) < (3 : Int32)))).2.1 (by decide) (by decide) kS) ?_
  show gs T22 m 65 #[vr a1, vr aS, vr b3, vi 3] []
  refine oaloadN X22 hx hby d7_65 rfl rfl ?_
  exact own_retA X22 hx hlk hret rfl rfl (hb hby d7_66) (by decide) (by decide) (by rw [eq22]; exact ⟨b3, k3, ⟨rfl, N22, K21, sz_b3, R21⟩⟩)
theorem ef_enc_3_4_0 (m : MethodId) (x0 : Addr) (x1 : Addr) : entryFrame m #[(.ref x0), (.ref x1)] 4 = mkF m 0 #[.val (.ref x0), .val (.ref x1), .unset, .unset] [] := by first | (simp [entryFrame, mkF, argsToLocals, Value.category]; done) | rfl
def Q_enc_3_4_0 (Z : State) (a1 : Addr) (aS : Addr) (tA : Addr) (kA : ClassId) (y0 : Int32) (y1 : Int32) (y2 : Int32) (zCS : Int32) (fm : Value) (h0 : Heap) (n0 : Nat) (v : Option Value) (h : Heap) (L : List Loc) : Prop := ∃ tN : Addr, ∃ kN : ClassId, v = some (.ref tN) ∧ Fr n0 L ∧ Keep h0 h [] ∧ h0.size ≤ tN ∧ Arv Z h tN kN .byte (12 : Int32) [(.int 0), (.int 0), (.int 0), (.int (nar .byte ((own_lat y0).toInt8.toInt32))), (.int 0), (.int 0), (.int 0), (.int (nar .byte ((own_lat y1).toInt8.toInt32))), (.int 0), (.int 0), (.int 0), (.int (nar .byte ((own_lat y2).toInt8.toInt32)))] (.int 0)
theorem rm_enc_3_4_0 (l : Launch) (Z : State) (a0 : Array Value) (hw : HW a0 Z) (ws : List Jvm.Cond) (a1 : Addr) (aS : Addr) (tA : Addr) (kA : ClassId) (y0 : Int32) (y1 : Int32) (y2 : Int32) (zCS : Int32) (fm : Value) (h0 : Heap) (n0 : Nat) (Z0 : n0 ≤ h0.size) (O0 : Old Z n0 h0) (Fw : fk10 Z Z.heap a1 (.int 4)) (Fl : fk11 Z Z.heap a1 (.int 0)) (E_0 : ek12 Z h0 aS) (F0v : fk9 Z h0 aS (.ref tA)) (F0c : fk8 Z h0 aS (.int 0)) (R_A : Arv Z h0 tA kA .byte (3 : Int32) [(.int y0), (.int y1), (.int y2)] (.int 0)) (S_CS : sk0 Z Z.heap (.int zCS)) (P_CS : ¬ zCS = 0) (S_SF : sk1 Z Z.heap fm) (P_SF : fm.isRef = true) :
    M12 l ws (rmk 4 1 12 55) Z #[(.ref a1), (.ref aS)] h0 (Q_enc_3_4_0 Z a1 aS tA kA y0 y1 y2 zCS fm h0 n0) := by
  refine own_go "com/example/provenir/provenir/TextEncoding" rfl (plainFor_of_name pn_7) (fun m => ef_enc_3_4_0 m a1 aS) (fun p e s m below meth c s₁ hx hby hml hown hnm hlk hret hZ X0 e0 => ?_)
  have N0 := Fr.nil n0
  have K0 := Keep.refl h0 []
  show gs s₁ m 0 #[vr a1, vr aS, .unset, .unset] []
  refine oaloadN X0 hx hby d7_0 rfl rfl ?_
  refine oV 0 X0 hx hZ hby hml hown (own_w hw 39 rfl) (own_w hw 40 rfl) (own_w hw 42 rfl) (own_w hw 41 rfl) (rm_sLen_3 l Z a0 hw [] aS tA kA y0 y1 y2 zCS h0 n0 Z0 O0 E_0 F0v F0c R_A S_CS P_CS) (own_w hw 43 rfl) (own_w hw 7 rfl) e0 E_0 (by decide) own_pd9 d7_1 rfl rfl rfl (fun T1 L1 v1 X1 hQ1 => ?_)
  obtain ⟨rfl, Nq1, eq1⟩ := hQ1
  have N1 := Fr.app N0 Nq1
  show gs T1 m 4 #[vr a1, vr aS, .unset, .unset] [(.int 3)]
  refine oaloadN X1 hx hby d7_4 rfl rfl ?_
  obtain ⟨T2, X2, e2, st2⟩ := getF X1 hx hZ hown (host := "") (Or.inl (own_w hw 49 rfl)) Via.refl eq1 (Fld.ext O0.2 Fw) (g := (mkF m 5 #[vr a1, vr aS, .unset, .unset] [(.ref a1), (.int 3)])) rfl rfl (hb hby d7_5)
  refine own_st st2 ?_
  show gs T2 m 8 #[vr a1, vr aS, .unset, .unset] [(.int 4), (.int 3)]
  refine own_st (fun _ kS => XS.imul X2.here hx rfl (hb hby d7_8) rfl kS) ?_
  show gs T2 m 9 #[vr a1, vr aS, .unset, .unset] [(.int 12)]
  obtain ⟨T3, h3, k3, X3, e3, E3, A3, st3⟩ := newP X2 hx hZ (own_w hw 23 rfl) e2 (g := (mkF m 9 #[vr a1, vr aS, .unset, .unset] [(.int 12)])) rfl (hb hby d7_9) rfl (by decide) (cap := 12) (by decide) (by decide) (by decide) (by decide)
  obtain ⟨b3, g3⟩ : ∃ z, z = h0.size := ⟨_, rfl⟩
  have ne_aS_b3 : aS ≠ b3 := Nat.ne_of_lt (Nat.lt_of_lt_of_eq E_0.lt g3.symm)
  have ne_tA_b3 : tA ≠ b3 := Nat.ne_of_lt (Nat.lt_of_lt_of_eq R_A.lt g3.symm)
  have ge_b3 : n0 ≤ b3 := Nat.le_trans Z0 (Nat.le_of_eq g3.symm)
  have sz_b3 : h0.size ≤ b3 := Nat.le_trans K0.1 (Nat.le_of_eq g3.symm)
  rw [← g3] at A3 st3
  have K3 := K0.ext E3
  have O3 := O0.ext E3
  have R3 : Arv Z h3 b3 k3 .byte (12 : Int32) [(.int 0), (.int 0), (.int 0), (.int 0), (.int 0), (.int 0), (.int 0), (.int 0), (.int 0), (.int 0), (.int 0), (.int 0)] (.int 0) := (Arv.new A3 (by decide)).pad (pad_rep [] (.int 0) 12)
  refine own_st st3 ?_
  show gs T3 m 11 #[vr a1, vr aS, .unset, .unset] [(.ref b3)]
  refine own_st (fun _ kS => XS.astoreN X3.here hx rfl (hb hby d7_11) rfl rfl (l' := #[vr a1, vr aS, vr b3, .unset]) rfl kS) ?_
  refine oiconst X3 hx hby d7_12 ?_
  refine own_st (fun _ kS => XS.istoreN X3.here hx rfl (hb hby d7_13) rfl (l' := #[vr a1, vr aS, vr b3, vi 0]) rfl kS) ?_
  refine oiloadN X3 hx hby d7_14 rfl ?_
  refine oaloadN X3 hx hby d7_15 rfl rfl ?_
  refine oV 1 X3 hx hZ hby hml hown (own_w hw 39 rfl) (own_w hw 40 rfl) (own_w hw 42 rfl) (own_w hw 41 rfl) (rm_sLen_3 l Z a0 hw [] aS tA kA y0 y1 y2 zCS h3 n0 (Nat.le_trans Z0 E3.1) O3 (Exa.ext E3 E_0) (Fld.ext E3 F0v) (Fld.ext E3 F0c) (Arv.ext R_A E3) S_CS P_CS) (own_w hw 43 rfl) (own_w hw 7 rfl) e3 (Exa.ext E3 E_0) (by decide) own_pd9 d7_16 rfl rfl rfl (fun T4 L4 v4 X4 hQ4 => ?_)
  obtain ⟨rfl, Nq4, eq4⟩ := hQ4
  have N4 := Fr.app N1 Nq4
  show gs T4 m 19 #[vr a1, vr aS, vr b3, vi 0] [(.int 3), (.int 0)]
  refine own_st (fun _ kS => XS.icmpNo X4.here hx rfl (hb hby d7_19) rfl (tlt (by decide : (0 : Int32) < (3 : Int32))).2.1 kS) ?_
  show gs T4 m 22 #[vr a1, vr aS, vr b3, vi 0] []
  refine oaloadN X4 hx hby d7_22 rfl rfl ?_
  refine oaloadN X4 hx hby d7_23 rfl rfl ?_
  obtain ⟨T5, X5, e5, st5⟩ := getF X4 hx hZ hown (host := "") (Or.inl (own_w hw 51 rfl)) Via.refl eq4 (Fld.ext O3.2 Fl) (g := (mkF m 24 #[vr a1, vr aS, vr b3, vi 0] [(.ref a1), (.ref b3)])) rfl rfl (hb hby d7_24)
  refine own_st st5 ?_
  show gs T5 m 27 #[vr a1, vr aS, vr b3, vi 0] [(.int 0), (.ref b3)]
  refine own_st (fun _ kS => XS.ifYes X5.here hx rfl (pc0 := 27) (pc' := 39) rfl (hb hby d7_27) rfl ((if0 _ _).trans (teq (by decide : (0 : Int32) = (0 : Int32))).1) (by decide) (by decide) kS) ?_
  show gs T5 m 39 #[vr a1, vr aS, vr b3, vi 0] [(.ref b3)]
  refine oiloadN X5 hx hby d7_39 rfl ?_
  refine oaloadN X5 hx hby d7_40 rfl rfl ?_
  obtain ⟨T6, X6, e6, st6⟩ := getF X5 hx hZ hown (host := "") (Or.inl (own_w hw 49 rfl)) Via.refl e5 (Fld.ext O3.2 Fw) (g := (mkF m 41 #[vr a1, vr aS, vr b3, vi 0] [(.ref a1), (.int 0), (.ref b3)])) rfl rfl (hb hby d7_41)
  refine own_st st6 ?_
  show gs T6 m 44 #[vr a1, vr aS, vr b3, vi 0] [(.int 4), (.int 0), (.ref b3)]
  refine own_st (fun _ kS => XS.imul X6.here hx rfl (hb hby d7_44) rfl kS) ?_
  refine oaloadN X6 hx hby d7_45 rfl rfl ?_
  obtain ⟨T7, X7, e7, st7⟩ := getF X6 hx hZ hown (host := "") (Or.inl (own_w hw 49 rfl)) Via.refl e6 (Fld.ext O3.2 Fw) (g := (mkF m 46 #[vr a1, vr aS, vr b3, vi 0] [(.ref a1), (.int 0), (.ref b3)])) rfl rfl (hb hby d7_46)
  refine own_st st7 ?_
  show gs T7 m 49 #[vr a1, vr aS, vr b3, vi 0] [(.int 4), (.int 0), (.ref b3)]
  refine own_st (fun _ kS => XS.iadd X7.here hx rfl (hb hby d7_49) rfl kS) ?_
  refine oiconst X7 hx hby d7_50 ?_
  refine own_st (fun _ kS => XS.isub X7.here hx rfl (hb hby d7_51) rfl kS) ?_
  refine oaloadN X7 hx hby d7_52 rfl rfl ?_
  refine oiloadN X7 hx hby d7_53 rfl ?_
  refine oV 2 X7 hx hZ hby hml hown (own_w hw 53 rfl) (own_w hw 54 rfl) (own_w hw 56 rfl) (own_w hw 55 rfl) (rm_chAt_3_0 l Z a0 hw [] aS tA kA y0 y1 y2 zCS fm h3 n0 (Nat.le_trans Z0 E3.1) O3 (Exa.ext E3 E_0) (Fld.ext E3 F0v) (Fld.ext E3 F0c) (Arv.ext R_A E3) S_CS P_CS S_SF P_SF) (own_w hw 57 rfl) (own_w hw 7 rfl) e7 (Exa.ext E3 E_0) (by decide) own_pd10 d7_54 rfl rfl rfl (fun T8 L8 v8 X8 hQ8 => ?_)
  obtain ⟨rfl, Nq8, eq8⟩ := hQ8
  have N8 := Fr.app N4 Nq8
  show gs T8 m 57 #[vr a1, vr aS, vr b3, vi 0] [(.int (own_lat y0)), (.int 3), (.ref b3)]
  refine own_st (fun _ kS => XT.i2b X8.here hx rfl (hb hby d7_57) rfl kS) ?_
  show gs T8 m 58 #[vr a1, vr aS, vr b3, vi 0] [(.int ((own_lat y0).toInt8.toInt32)), (.int 3), (.ref b3)]
  obtain ⟨cl9, Ar9, qa9, qs9, qn9, qh9, qg9⟩ := id R3
  obtain ⟨T9, h9, X9, e9, W9, st9⟩ := stB X8 hx hZ eq8 Ar9 (j := (3 : Int32)) (inb_of qs9 ⟨by decide, by decide⟩) (g := (mkF m 58 #[vr a1, vr aS, vr b3, vi 0] [(.int ((own_lat y0).toInt8.toInt32)), (.int 3), (.ref b3)])) rfl rfl (hb hby d7_58)
  have N9 := Fr.snoc X9 N8 ge_b3
  have K9 := K3.wr W9 (Or.inr sz_b3)
  have O9 := O3.wr W9 ge_b3
  have R9 : Arv Z h9 b3 k3 .byte (12 : Int32) [(.int 0), (.int 0), (.int 0), (.int (nar .byte ((own_lat y0).toInt8.toInt32))), (.int 0), (.int 0), (.int 0), (.int 0), (.int 0), (.int 0), (.int 0), (.int 0)] (.int 0) := Arv.set Ar9 qa9 qs9 qn9 qh9 qg9 (fits_nar_byte _) W9 3 rfl (Nat.le_of_ble_eq_true rfl)
  refine own_st st9 ?_
  show gs T9 m 59 #[vr a1, vr aS, vr b3, vi 0] []
  refine own_st (fun _ kS => XS.iinc X9.here hx rfl (hb hby d7_59) rfl (l' := #[vr a1, vr aS, vr b3, vi 1]) rfl kS) ?_
  refine own_st (fun _ kS => XS.goto X9.here hx rfl (pc0 := 62) (pc' := 14) rfl (hb hby d7_62) (by decide) (by decide) kS) ?_
  refine oiloadN X9 hx hby d7_14 rfl ?_
  refine oaloadN X9 hx hby d7_15 rfl rfl ?_
  refine oV 1 X9 hx hZ hby hml hown (own_w hw 39 rfl) (own_w hw 40 rfl) (own_w hw 42 rfl) (own_w hw 41 rfl) (rm_sLen_3 l Z a0 hw [] aS tA kA y0 y1 y2 zCS h9 n0 (Nat.le_trans (Nat.le_trans Z0 E3.1) (Keep.of_wr W9).1) O9 (Exa.wr W9 (Exa.ext E3 E_0)) (Fld.other W9 (Fld.ext E3 F0v) (Or.inl ne_aS_b3)) (Fld.other W9 (Fld.ext E3 F0c) (Or.inl ne_aS_b3)) ((Arv.ext R_A E3).other W9 ne_tA_b3) S_CS P_CS) (own_w hw 43 rfl) (own_w hw 7 rfl) e9 (Exa.wr W9 (Exa.ext E3 E_0)) (by decide) own_pd9 d7_16 rfl rfl rfl (fun T10 L10 v10 X10 hQ10 => ?_)
  obtain ⟨rfl, Nq10, eq10⟩ := hQ10
  have N10 := Fr.app N9 Nq10
  show gs T10 m 19 #[vr a1, vr aS, vr b3, vi 1] [(.int 3), (.int 1)]
  refine own_st (fun _ kS => XS.icmpNo X10.here hx rfl (hb hby d7_19) rfl (tlt (by decide : (1 : Int32) < (3 : Int32))).2.1 kS) ?_
  show gs T10 m 22 #[vr a1, vr aS, vr b3, vi 1] []
  refine oaloadN X10 hx hby d7_22 rfl rfl ?_
  refine oaloadN X10 hx hby d7_23 rfl rfl ?_
  obtain ⟨T11, X11, e11, st11⟩ := getF X10 hx hZ hown (host := "") (Or.inl (own_w hw 51 rfl)) Via.refl eq10 (Fld.ext O9.2 Fl) (g := (mkF m 24 #[vr a1, vr aS, vr b3, vi 1] [(.ref a1), (.ref b3)])) rfl rfl (hb hby d7_24)
  refine own_st st11 ?_
  show gs T11 m 27 #[vr a1, vr aS, vr b3, vi 1] [(.int 0), (.ref b3)]
  refine own_st (fun _ kS => XS.ifYes X11.here hx rfl (pc0 := 27) (pc' := 39) rfl (hb hby d7_27) rfl ((if0 _ _).trans (teq (by decide : (0 : Int32) = (0 : Int32))).1) (by decide) (by decide) kS) ?_
  show gs T11 m 39 #[vr a1, vr aS, vr b3, vi 1] [(.ref b3)]
  refine oiloadN X11 hx hby d7_39 rfl ?_
  refine oaloadN X11 hx hby d7_40 rfl rfl ?_
  obtain ⟨T12, X12, e12, st12⟩ := getF X11 hx hZ hown (host := "") (Or.inl (own_w hw 49 rfl)) Via.refl e11 (Fld.ext O9.2 Fw) (g := (mkF m 41 #[vr a1, vr aS, vr b3, vi 1] [(.ref a1), (.int 1), (.ref b3)])) rfl rfl (hb hby d7_41)
  refine own_st st12 ?_
  show gs T12 m 44 #[vr a1, vr aS, vr b3, vi 1] [(.int 4), (.int 1), (.ref b3)]
  refine own_st (fun _ kS => XS.imul X12.here hx rfl (hb hby d7_44) rfl kS) ?_
  refine oaloadN X12 hx hby d7_45 rfl rfl ?_
  obtain ⟨T13, X13, e13, st13⟩ := getF X12 hx hZ hown (host := "") (Or.inl (own_w hw 49 rfl)) Via.refl e12 (Fld.ext O9.2 Fw) (g := (mkF m 46 #[vr a1, vr aS, vr b3, vi 1] [(.ref a1), (.int 4), (.ref b3)])) rfl rfl (hb hby d7_46)
  refine own_st st13 ?_
  show gs T13 m 49 #[vr a1, vr aS, vr b3, vi 1] [(.int 4), (.int 4), (.ref b3)]
  refine own_st (fun _ kS => XS.iadd X13.here hx rfl (hb hby d7_49) rfl kS) ?_
  refine oiconst X13 hx hby d7_50 ?_
  refine own_st (fun _ kS => XS.isub X13.here hx rfl (hb hby d7_51) rfl kS) ?_
  refine oaloadN X13 hx hby d7_52 rfl rfl ?_
  refine oiloadN X13 hx hby d7_53 rfl ?_
  refine oV 2 X13 hx hZ hby hml hown (own_w hw 53 rfl) (own_w hw 54 rfl) (own_w hw 56 rfl) (own_w hw 55 rfl) (rm_chAt_3_1 l Z a0 hw [] aS tA kA y0 y1 y2 zCS fm h9 n0 (Nat.le_trans (Nat.le_trans Z0 E3.1) (Keep.of_wr W9).1) O9 (Exa.wr W9 (Exa.ext E3 E_0)) (Fld.other W9 (Fld.ext E3 F0v) (Or.inl ne_aS_b3)) (Fld.other W9 (Fld.ext E3 F0c) (Or.inl ne_aS_b3)) ((Arv.ext R_A E3).other W9 ne_tA_b3) S_CS P_CS S_SF P_SF) (own_w hw 57 rfl) (own_w hw 7 rfl) e13 (Exa.wr W9 (Exa.ext E3 E_0)) (by decide) own_pd10 d7_54 rfl rfl rfl (fun T14 L14 v14 X14 hQ14 => ?_)
  obtain ⟨rfl, Nq14, eq14⟩ := hQ14
  have N14 := Fr.app N10 Nq14
  show gs T14 m 57 #[vr a1, vr aS, vr b3, vi 1] [(.int (own_lat y1)), (.int 7), (.ref b3)]
  refine own_st (fun _ kS => XT.i2b X14.here hx rfl (hb hby d7_57) rfl kS) ?_
  show gs T14 m 58 #[vr a1, vr aS, vr b3, vi 1] [(.int ((own_lat y1).toInt8.toInt32)), (.int 7), (.ref b3)]
  obtain ⟨cl15, Ar15, qa15, qs15, qn15, qh15, qg15⟩ := id R9
  obtain ⟨T15, h15, X15, e15, W15, st15⟩ := stB X14 hx hZ eq14 Ar15 (j := (7 : Int32)) (inb_of qs15 ⟨by decide, by decide⟩) (g := (mkF m 58 #[vr a1, vr aS, vr b3, vi 1] [(.int ((own_lat y1).toInt8.toInt32)), (.int 7), (.ref b3)])) rfl rfl (hb hby d7_58)
  have N15 := Fr.snoc X15 N14 ge_b3
  have K15 := K9.wr W15 (Or.inr sz_b3)
  have O15 := O9.wr W15 ge_b3
  have R15 : Arv Z h15 b3 k3 .byte (12 : Int32) [(.int 0), (.int 0), (.int 0), (.int (nar .byte ((own_lat y0).toInt8.toInt32))), (.int 0), (.int 0), (.int 0), (.int (nar .byte ((own_lat y1).toInt8.toInt32))), (.int 0), (.int 0), (.int 0), (.int 0)] (.int 0) := Arv.set Ar15 qa15 qs15 qn15 qh15 qg15 (fits_nar_byte _) W15 7 rfl (Nat.le_of_ble_eq_true rfl)
  refine own_st st15 ?_
  show gs T15 m 59 #[vr a1, vr aS, vr b3, vi 1] []
  refine own_st (fun _ kS => XS.iinc X15.here hx rfl (hb hby d7_59) rfl (l' := #[vr a1, vr aS, vr b3, vi 2]) rfl kS) ?_
  refine own_st (fun _ kS => XS.goto X15.here hx rfl (pc0 := 62) (pc' := 14) rfl (hb hby d7_62) (by decide) (by decide) kS) ?_
  refine oiloadN X15 hx hby d7_14 rfl ?_
  refine oaloadN X15 hx hby d7_15 rfl rfl ?_
  refine oV 1 X15 hx hZ hby hml hown (own_w hw 39 rfl) (own_w hw 40 rfl) (own_w hw 42 rfl) (own_w hw 41 rfl) (rm_sLen_3 l Z a0 hw [] aS tA kA y0 y1 y2 zCS h15 n0 (Nat.le_trans (Nat.le_trans (Nat.le_trans Z0 E3.1) (Keep.of_wr W9).1) (Keep.of_wr W15).1) O15 (Exa.wr W15 (Exa.wr W9 (Exa.ext E3 E_0))) (Fld.other W15 (Fld.other W9 (Fld.ext E3 F0v) (Or.inl ne_aS_b3)) (Or.inl ne_aS_b3)) (Fld.other W15 (Fld.other W9 (Fld.ext E3 F0c) (Or.inl ne_aS_b3)) (Or.inl ne_aS_b3)) (((Arv.ext R_A E3).other W9 ne_tA_b3).other W15 ne_tA_b3) S_CS P_CS) (own_w hw 43 rfl) (own_w hw 7 rfl) e15 (Exa.wr W15 (Exa.wr W9 (Exa.ext E3 E_0))) (by decide) own_pd9 d7_16 rfl rfl rfl (fun T16 L16 v16 X16 hQ16 => ?_)
  obtain ⟨rfl, Nq16, eq16⟩ := hQ16
  have N16 := Fr.app N15 Nq16
  show gs T16 m 19 #[vr a1, vr aS, vr b3, vi 2] [(.int 3), (.int 2)]
  refine own_st (fun _ kS => XS.icmpNo X16.here hx rfl (hb hby d7_19) rfl (tlt (by decide : (2 : Int32) < (3 : Int32))).2.1 kS) ?_
  show gs T16 m 22 #[vr a1, vr aS, vr b3, vi 2] []
  refine oaloadN X16 hx hby d7_22 rfl rfl ?_
  refine oaloadN X16 hx hby d7_23 rfl rfl ?_
  obtain ⟨T17, X17, e17, st17⟩ := getF X16 hx hZ hown (host := "") (Or.inl (own_w hw 51 rfl)) Via.refl eq16 (Fld.ext O15.2 Fl) (g := (mkF m 24 #[vr a1, vr aS, vr b3, vi 2] [(.ref a1), (.ref b3)])) rfl rfl (hb hby d7_24)
  refine own_st st17 ?_
  show gs T17 m 27 #[vr a1, vr aS, vr b3, vi 2] [(.int 0), (.ref b3)]
  refine own_st (fun _ kS => XS.ifYes X17.here hx rfl (pc0 := 27) (pc' := 39) rfl (hb hby d7_27) rfl ((if0 _ _).trans (teq (by decide : (0 : Int32) = (0 : Int32))).1) (by decide) (by decide) kS) ?_
  show gs T17 m 39 #[vr a1, vr aS, vr b3, vi 2] [(.ref b3)]
  refine oiloadN X17 hx hby d7_39 rfl ?_
  refine oaloadN X17 hx hby d7_40 rfl rfl ?_
  obtain ⟨T18, X18, e18, st18⟩ := getF X17 hx hZ hown (host := "") (Or.inl (own_w hw 49 rfl)) Via.refl e17 (Fld.ext O15.2 Fw) (g := (mkF m 41 #[vr a1, vr aS, vr b3, vi 2] [(.ref a1), (.int 2), (.ref b3)])) rfl rfl (hb hby d7_41)
  refine own_st st18 ?_
  show gs T18 m 44 #[vr a1, vr aS, vr b3, vi 2] [(.int 4), (.int 2), (.ref b3)]
  refine own_st (fun _ kS => XS.imul X18.here hx rfl (hb hby d7_44) rfl kS) ?_
  refine oaloadN X18 hx hby d7_45 rfl rfl ?_
  obtain ⟨T19, X19, e19, st19⟩ := getF X18 hx hZ hown (host := "") (Or.inl (own_w hw 49 rfl)) Via.refl e18 (Fld.ext O15.2 Fw) (g := (mkF m 46 #[vr a1, vr aS, vr b3, vi 2] [(.ref a1), (.int 8), (.ref b3)])) rfl rfl (hb hby d7_46)
  refine own_st st19 ?_
  show gs T19 m 49 #[vr a1, vr aS, vr b3, vi 2] [(.int 4), (.int 8), (.ref b3)]
  refine own_st (fun _ kS => XS.iadd X19.here hx rfl (hb hby d7_49) rfl kS) ?_
  refine oiconst X19 hx hby d7_50 ?_
  refine own_st (fun _ kS => XS.isub X19.here hx rfl (hb hby d7_51) rfl kS) ?_
  refine oaloadN X19 hx hby d7_52 rfl rfl ?_
  refine oiloadN X19 hx hby d7_53 rfl ?_
  refine oV 2 X19 hx hZ hby hml hown (own_w hw 53 rfl) (own_w hw 54 rfl) (own_w hw 56 rfl) (own_w hw 55 rfl) (rm_chAt_3_2 l Z a0 hw [] aS tA kA y0 y1 y2 zCS fm h15 n0 (Nat.le_trans (Nat.le_trans (Nat.le_trans Z0 E3.1) (Keep.of_wr W9).1) (Keep.of_wr W15).1) O15 (Exa.wr W15 (Exa.wr W9 (Exa.ext E3 E_0))) (Fld.other W15 (Fld.other W9 (Fld.ext E3 F0v) (Or.inl ne_aS_b3)) (Or.inl ne_aS_b3)) (Fld.other W15 (Fld.other W9 (Fld.ext E3 F0c) (Or.inl ne_aS_b3)) (Or.inl ne_aS_b3)) (((Arv.ext R_A E3).other W9 ne_tA_b3).other W15 ne_tA_b3) S_CS P_CS S_SF P_SF) (own_w hw 57 rfl) (own_w hw 7 rfl) e19 (Exa.wr W15 (Exa.wr W9 (Exa.ext E3 E_0))) (by decide) own_pd10 d7_54 rfl rfl rfl (fun T20 L20 v20 X20 hQ20 => ?_)
  obtain ⟨rfl, Nq20, eq20⟩ := hQ20
  have N20 := Fr.app N16 Nq20
  show gs T20 m 57 #[vr a1, vr aS, vr b3, vi 2] [(.int (own_lat y2)), (.int 11), (.ref b3)]
  refine own_st (fun _ kS => XT.i2b X20.here hx rfl (hb hby d7_57) rfl kS) ?_
  show gs T20 m 58 #[vr a1, vr aS, vr b3, vi 2] [(.int ((own_lat y2).toInt8.toInt32)), (.int 11), (.ref b3)]
  obtain ⟨cl21, Ar21, qa21, qs21, qn21, qh21, qg21⟩ := id R15
  obtain ⟨T21, h21, X21, e21, W21, st21⟩ := stB X20 hx hZ eq20 Ar21 (j := (11 : Int32)) (inb_of qs21 ⟨by decide, by decide⟩) (g := (mkF m 58 #[vr a1, vr aS, vr b3, vi 2] [(.int ((own_lat y2).toInt8.toInt32)), (.int 11), (.ref b3)])) rfl rfl (hb hby d7_58)
  have N21 := Fr.snoc X21 N20 ge_b3
  have K21 := K15.wr W21 (Or.inr sz_b3)
  have O21 := O15.wr W21 ge_b3
  have R21 : Arv Z h21 b3 k3 .byte (12 : Int32) [(.int 0), (.int 0), (.int 0), (.int (nar .byte ((own_lat y0).toInt8.toInt32))), (.int 0), (.int 0), (.int 0), (.int (nar .byte ((own_lat y1).toInt8.toInt32))), (.int 0), (.int 0), (.int 0), (.int (nar .byte ((own_lat y2).toInt8.toInt32)))] (.int 0) := Arv.set Ar21 qa21 qs21 qn21 qh21 qg21 (fits_nar_byte _) W21 11 rfl (Nat.le_of_ble_eq_true rfl)
  refine own_st st21 ?_
  show gs T21 m 59 #[vr a1, vr aS, vr b3, vi 2] []
  refine own_st (fun _ kS => XS.iinc X21.here hx rfl (hb hby d7_59) rfl (l' := #[vr a1, vr aS, vr b3, vi 3]) rfl kS) ?_
  refine own_st (fun _ kS => XS.goto X21.here hx rfl (pc0 := 62) (pc' := 14) rfl (hb hby d7_62) (by decide) (by decide) kS) ?_
  refine oiloadN X21 hx hby d7_14 rfl ?_
  refine oaloadN X21 hx hby d7_15 rfl rfl ?_
  refine oV 1 X21 hx hZ hby hml hown (own_w hw 39 rfl) (own_w hw 40 rfl) (own_w hw 42 rfl) (own_w hw 41 rfl) (rm_sLen_3 l Z a0 hw [] aS tA kA y0 y1 y2 zCS h21 n0 (Nat.le_trans (Nat.le_trans (Nat.le_trans (Nat.le_trans Z0 E3.1) (Keep.of_wr W9).1) (Keep.of_wr W15).1) (Keep.of_wr W21).1) O21 (Exa.wr W21 (Exa.wr W15 (Exa.wr W9 (Exa.ext E3 E_0)))) (Fld.other W21 (Fld.other W15 (Fld.other W9 (Fld.ext E3 F0v) (Or.inl ne_aS_b3)) (Or.inl ne_aS_b3)) (Or.inl ne_aS_b3)) (Fld.other W21 (Fld.other W15 (Fld.other W9 (Fld.ext E3 F0c) (Or.inl ne_aS_b3)) (Or.inl ne_aS_b3)) (Or.inl ne_aS_b3)) ((((Arv.ext R_A E3).other W9 ne_tA_b3).other W15 ne_tA_b3).other W21 ne_tA_b3) S_CS P_CS) (own_w hw 43 rfl) (own_w hw 7 rfl) e21 (Exa.wr W21 (Exa.wr W15 (Exa.wr W9 (Exa.ext E3 E_0)))) (by decide) own_pd9 d7_16 rfl rfl rfl (fun T22 L22 v22 X22 hQ22 => ?_)
  obtain ⟨rfl, Nq22, eq22⟩ := hQ22
  have N22 := Fr.app N21 Nq22
  show gs T22 m 19 #[vr a1, vr aS, vr b3, vi 3] [(.int 3), (.int 3)]
  refine own_st (fun _ kS => XS.icmpYes X22.here hx rfl (pc0 := 19) (pc' := 65) rfl (hb hby d7_19) rfl (flt (by decide : ¬ ((3 : Int32) < (3 : Int32)))).2.1 (by decide) (by decide) kS) ?_
  show gs T22 m 65 #[vr a1, vr aS, vr b3, vi 3] []
  refine oaloadN X22 hx hby d7_65 rfl rfl ?_
  exact own_retA X22 hx hlk hret rfl rfl (hb hby d7_66) (by decide) (by decide) (by rw [eq22]; exact ⟨b3, k3, ⟨rfl, N22, K21, sz_b3, R21⟩⟩)
theorem ef_enc_3_4_1 (m : MethodId) (x0 : Addr) (x1 : Addr) : entryFrame m #[(.ref x0), (.ref x1)] 4 = mkF m 0 #[.val (.ref x0), .val (.ref x1), .unset, .unset] [] := by first | (simp [entryFrame, mkF, argsToLocals, Value.category]; done) | rfl
def Q_enc_3_4_1 (Z : State) (a1 : Addr) (aS : Addr) (tA : Addr) (kA : ClassId) (y0 : Int32) (y1 : Int32) (y2 : Int32) (zCS : Int32) (fm : Value) (h0 : Heap) (n0 : Nat) (v : Option Value) (h : Heap) (L : List Loc) : Prop := ∃ tN : Addr, ∃ kN : ClassId, v = some (.ref tN) ∧ Fr n0 L ∧ Keep h0 h [] ∧ h0.size ≤ tN ∧ Arv Z h tN kN .byte (12 : Int32) [(.int (nar .byte ((own_lat y0).toInt8.toInt32))), (.int 0), (.int 0), (.int 0), (.int (nar .byte ((own_lat y1).toInt8.toInt32))), (.int 0), (.int 0), (.int 0), (.int (nar .byte ((own_lat y2).toInt8.toInt32))), (.int 0), (.int 0), (.int 0)] (.int 0)
theorem rm_enc_3_4_1 (l : Launch) (Z : State) (a0 : Array Value) (hw : HW a0 Z) (ws : List Jvm.Cond) (a1 : Addr) (aS : Addr) (tA : Addr) (kA : ClassId) (y0 : Int32) (y1 : Int32) (y2 : Int32) (zCS : Int32) (fm : Value) (h0 : Heap) (n0 : Nat) (Z0 : n0 ≤ h0.size) (O0 : Old Z n0 h0) (Fw : fk10 Z Z.heap a1 (.int 4)) (Fl : fk11 Z Z.heap a1 (.int 1)) (E_0 : ek12 Z h0 aS) (F0v : fk9 Z h0 aS (.ref tA)) (F0c : fk8 Z h0 aS (.int 0)) (R_A : Arv Z h0 tA kA .byte (3 : Int32) [(.int y0), (.int y1), (.int y2)] (.int 0)) (S_CS : sk0 Z Z.heap (.int zCS)) (P_CS : ¬ zCS = 0) (S_SF : sk1 Z Z.heap fm) (P_SF : fm.isRef = true) :
    M12 l ws (rmk 4 1 12 55) Z #[(.ref a1), (.ref aS)] h0 (Q_enc_3_4_1 Z a1 aS tA kA y0 y1 y2 zCS fm h0 n0) := by
  refine own_go "com/example/provenir/provenir/TextEncoding" rfl (plainFor_of_name pn_7) (fun m => ef_enc_3_4_1 m a1 aS) (fun p e s m below meth c s₁ hx hby hml hown hnm hlk hret hZ X0 e0 => ?_)
  have N0 := Fr.nil n0
  have K0 := Keep.refl h0 []
  show gs s₁ m 0 #[vr a1, vr aS, .unset, .unset] []
  refine oaloadN X0 hx hby d7_0 rfl rfl ?_
  refine oV 0 X0 hx hZ hby hml hown (own_w hw 39 rfl) (own_w hw 40 rfl) (own_w hw 42 rfl) (own_w hw 41 rfl) (rm_sLen_3 l Z a0 hw [] aS tA kA y0 y1 y2 zCS h0 n0 Z0 O0 E_0 F0v F0c R_A S_CS P_CS) (own_w hw 43 rfl) (own_w hw 7 rfl) e0 E_0 (by decide) own_pd9 d7_1 rfl rfl rfl (fun T1 L1 v1 X1 hQ1 => ?_)
  obtain ⟨rfl, Nq1, eq1⟩ := hQ1
  have N1 := Fr.app N0 Nq1
  show gs T1 m 4 #[vr a1, vr aS, .unset, .unset] [(.int 3)]
  refine oaloadN X1 hx hby d7_4 rfl rfl ?_
  obtain ⟨T2, X2, e2, st2⟩ := getF X1 hx hZ hown (host := "") (Or.inl (own_w hw 49 rfl)) Via.refl eq1 (Fld.ext O0.2 Fw) (g := (mkF m 5 #[vr a1, vr aS, .unset, .unset] [(.ref a1), (.int 3)])) rfl rfl (hb hby d7_5)
  refine own_st st2 ?_
  show gs T2 m 8 #[vr a1, vr aS, .unset, .unset] [(.int 4), (.int 3)]
  refine own_st (fun _ kS => XS.imul X2.here hx rfl (hb hby d7_8) rfl kS) ?_
  show gs T2 m 9 #[vr a1, vr aS, .unset, .unset] [(.int 12)]
  obtain ⟨T3, h3, k3, X3, e3, E3, A3, st3⟩ := newP X2 hx hZ (own_w hw 23 rfl) e2 (g := (mkF m 9 #[vr a1, vr aS, .unset, .unset] [(.int 12)])) rfl (hb hby d7_9) rfl (by decide) (cap := 12) (by decide) (by decide) (by decide) (by decide)
  obtain ⟨b3, g3⟩ : ∃ z, z = h0.size := ⟨_, rfl⟩
  have ne_aS_b3 : aS ≠ b3 := Nat.ne_of_lt (Nat.lt_of_lt_of_eq E_0.lt g3.symm)
  have ne_tA_b3 : tA ≠ b3 := Nat.ne_of_lt (Nat.lt_of_lt_of_eq R_A.lt g3.symm)
  have ge_b3 : n0 ≤ b3 := Nat.le_trans Z0 (Nat.le_of_eq g3.symm)
  have sz_b3 : h0.size ≤ b3 := Nat.le_trans K0.1 (Nat.le_of_eq g3.symm)
  rw [← g3] at A3 st3
  have K3 := K0.ext E3
  have O3 := O0.ext E3
  have R3 : Arv Z h3 b3 k3 .byte (12 : Int32) [(.int 0), (.int 0), (.int 0), (.int 0), (.int 0), (.int 0), (.int 0), (.int 0), (.int 0), (.int 0), (.int 0), (.int 0)] (.int 0) := (Arv.new A3 (by decide)).pad (pad_rep [] (.int 0) 12)
  refine own_st st3 ?_
  show gs T3 m 11 #[vr a1, vr aS, .unset, .unset] [(.ref b3)]
  refine own_st (fun _ kS => XS.astoreN X3.here hx rfl (hb hby d7_11) rfl rfl (l' := #[vr a1, vr aS, vr b3, .unset]) rfl kS) ?_
  refine oiconst X3 hx hby d7_12 ?_
  refine own_st (fun _ kS => XS.istoreN X3.here hx rfl (hb hby d7_13) rfl (l' := #[vr a1, vr aS, vr b3, vi 0]) rfl kS) ?_
  refine oiloadN X3 hx hby d7_14 rfl ?_
  refine oaloadN X3 hx hby d7_15 rfl rfl ?_
  refine oV 1 X3 hx hZ hby hml hown (own_w hw 39 rfl) (own_w hw 40 rfl) (own_w hw 42 rfl) (own_w hw 41 rfl) (rm_sLen_3 l Z a0 hw [] aS tA kA y0 y1 y2 zCS h3 n0 (Nat.le_trans Z0 E3.1) O3 (Exa.ext E3 E_0) (Fld.ext E3 F0v) (Fld.ext E3 F0c) (Arv.ext R_A E3) S_CS P_CS) (own_w hw 43 rfl) (own_w hw 7 rfl) e3 (Exa.ext E3 E_0) (by decide) own_pd9 d7_16 rfl rfl rfl (fun T4 L4 v4 X4 hQ4 => ?_)
  obtain ⟨rfl, Nq4, eq4⟩ := hQ4
  have N4 := Fr.app N1 Nq4
  show gs T4 m 19 #[vr a1, vr aS, vr b3, vi 0] [(.int 3), (.int 0)]
  refine own_st (fun _ kS => XS.icmpNo X4.here hx rfl (hb hby d7_19) rfl (tlt (by decide : (0 : Int32) < (3 : Int32))).2.1 kS) ?_
  show gs T4 m 22 #[vr a1, vr aS, vr b3, vi 0] []
  refine oaloadN X4 hx hby d7_22 rfl rfl ?_
  refine oaloadN X4 hx hby d7_23 rfl rfl ?_
  obtain ⟨T5, X5, e5, st5⟩ := getF X4 hx hZ hown (host := "") (Or.inl (own_w hw 51 rfl)) Via.refl eq4 (Fld.ext O3.2 Fl) (g := (mkF m 24 #[vr a1, vr aS, vr b3, vi 0] [(.ref a1), (.ref b3)])) rfl rfl (hb hby d7_24)
  refine own_st st5 ?_
  show gs T5 m 27 #[vr a1, vr aS, vr b3, vi 0] [(.int 1), (.ref b3)]
  refine own_st (fun _ kS => XS.ifNo X5.here hx rfl (hb hby d7_27) rfl ((if0 _ _).trans (feq (by decide : ¬ ((1 : Int32) = (0 : Int32)))).1) kS) ?_
  show gs T5 m 30 #[vr a1, vr aS, vr b3, vi 0] [(.ref b3)]
  refine oiloadN X5 hx hby d7_30 rfl ?_
  refine oaloadN X5 hx hby d7_31 rfl rfl ?_
  obtain ⟨T6, X6, e6, st6⟩ := getF X5 hx hZ hown (host := "") (Or.inl (own_w hw 49 rfl)) Via.refl e5 (Fld.ext O3.2 Fw) (g := (mkF m 32 #[vr a1, vr aS, vr b3, vi 0] [(.ref a1), (.int 0), (.ref b3)])) rfl rfl (hb hby d7_32)
  refine own_st st6 ?_
  show gs T6 m 35 #[vr a1, vr aS, vr b3, vi 0] [(.int 4), (.int 0), (.ref b3)]
  refine own_st (fun _ kS => XS.imul X6.here hx rfl (hb hby d7_35) rfl kS) ?_
  refine own_st (fun _ kS => XS.goto X6.here hx rfl (pc0 := 36) (pc' := 52) rfl (hb hby d7_36) (by decide) (by decide) kS) ?_
  refine oaloadN X6 hx hby d7_52 rfl rfl ?_
  refine oiloadN X6 hx hby d7_53 rfl ?_
  refine oV 2 X6 hx hZ hby hml hown (own_w hw 53 rfl) (own_w hw 54 rfl) (own_w hw 56 rfl) (own_w hw 55 rfl) (rm_chAt_3_0 l Z a0 hw [] aS tA kA y0 y1 y2 zCS fm h3 n0 (Nat.le_trans Z0 E3.1) O3 (Exa.ext E3 E_0) (Fld.ext E3 F0v) (Fld.ext E3 F0c) (Arv.ext R_A E3) S_CS P_CS S_SF P_SF) (own_w hw 57 rfl) (own_w hw 7 rfl) e6 (Exa.ext E3 E_0) (by decide) own_pd10 d7_54 rfl rfl rfl (fun T7 L7 v7 X7 hQ7 => ?_)
  obtain ⟨rfl, Nq7, eq7⟩ := hQ7
  have N7 := Fr.app N4 Nq7
  show gs T7 m 57 #[vr a1, vr aS, vr b3, vi 0] [(.int (own_lat y0)), (.int 0), (.ref b3)]
  refine own_st (fun _ kS => XT.i2b X7.here hx rfl (hb hby d7_57) rfl kS) ?_
  show gs T7 m 58 #[vr a1, vr aS, vr b3, vi 0] [(.int ((own_lat y0).toInt8.toInt32)), (.int 0), (.ref b3)]
  obtain ⟨cl8, Ar8, qa8, qs8, qn8, qh8, qg8⟩ := id R3
  obtain ⟨T8, h8, X8, e8, W8, st8⟩ := stB X7 hx hZ eq7 Ar8 (j := (0 : Int32)) (inb_of qs8 ⟨by decide, by decide⟩) (g := (mkF m 58 #[vr a1, vr aS, vr b3, vi 0] [(.int ((own_lat y0).toInt8.toInt32)), (.int 0), (.ref b3)])) rfl rfl (hb hby d7_58)
  have N8 := Fr.snoc X8 N7 ge_b3
  have K8 := K3.wr W8 (Or.inr sz_b3)
  have O8 := O3.wr W8 ge_b3
  have R8 : Arv Z h8 b3 k3 .byte (12 : Int32) [(.int (nar .byte ((own_lat y0).toInt8.toInt32))), (.int 0), (.int 0), (.int 0), (.int 0), (.int 0), (.int 0), (.int 0), (.int 0), (.int 0), (.int 0), (.int 0)] (.int 0) := Arv.set Ar8 qa8 qs8 qn8 qh8 qg8 (fits_nar_byte _) W8 0 rfl (Nat.le_of_ble_eq_true rfl)
  refine own_st st8 ?_
  show gs T8 m 59 #[vr a1, vr aS, vr b3, vi 0] []
  refine own_st (fun _ kS => XS.iinc X8.here hx rfl (hb hby d7_59) rfl (l' := #[vr a1, vr aS, vr b3, vi 1]) rfl kS) ?_
  refine own_st (fun _ kS => XS.goto X8.here hx rfl (pc0 := 62) (pc' := 14) rfl (hb hby d7_62) (by decide) (by decide) kS) ?_
  refine oiloadN X8 hx hby d7_14 rfl ?_
  refine oaloadN X8 hx hby d7_15 rfl rfl ?_
  refine oV 1 X8 hx hZ hby hml hown (own_w hw 39 rfl) (own_w hw 40 rfl) (own_w hw 42 rfl) (own_w hw 41 rfl) (rm_sLen_3 l Z a0 hw [] aS tA kA y0 y1 y2 zCS h8 n0 (Nat.le_trans (Nat.le_trans Z0 E3.1) (Keep.of_wr W8).1) O8 (Exa.wr W8 (Exa.ext E3 E_0)) (Fld.other W8 (Fld.ext E3 F0v) (Or.inl ne_aS_b3)) (Fld.other W8 (Fld.ext E3 F0c) (Or.inl ne_aS_b3)) ((Arv.ext R_A E3).other W8 ne_tA_b3) S_CS P_CS) (own_w hw 43 rfl) (own_w hw 7 rfl) e8 (Exa.wr W8 (Exa.ext E3 E_0)) (by decide) own_pd9 d7_16 rfl rfl rfl (fun T9 L9 v9 X9 hQ9 => ?_)
  obtain ⟨rfl, Nq9, eq9⟩ := hQ9
  have N9 := Fr.app N8 Nq9
  show gs T9 m 19 #[vr a1, vr aS, vr b3, vi 1] [(.int 3), (.int 1)]
  refine own_st (fun _ kS => XS.icmpNo X9.here hx rfl (hb hby d7_19) rfl (tlt (by decide : (1 : Int32) < (3 : Int32))).2.1 kS) ?_
  show gs T9 m 22 #[vr a1, vr aS, vr b3, vi 1] []
  refine oaloadN X9 hx hby d7_22 rfl rfl ?_
  refine oaloadN X9 hx hby d7_23 rfl rfl ?_
  obtain ⟨T10, X10, e10, st10⟩ := getF X9 hx hZ hown (host := "") (Or.inl (own_w hw 51 rfl)) Via.refl eq9 (Fld.ext O8.2 Fl) (g := (mkF m 24 #[vr a1, vr aS, vr b3, vi 1] [(.ref a1), (.ref b3)])) rfl rfl (hb hby d7_24)
  refine own_st st10 ?_
  show gs T10 m 27 #[vr a1, vr aS, vr b3, vi 1] [(.int 1), (.ref b3)]
  refine own_st (fun _ kS => XS.ifNo X10.here hx rfl (hb hby d7_27) rfl ((if0 _ _).trans (feq (by decide : ¬ ((1 : Int32) = (0 : Int32)))).1) kS) ?_
  show gs T10 m 30 #[vr a1, vr aS, vr b3, vi 1] [(.ref b3)]
  refine oiloadN X10 hx hby d7_30 rfl ?_
  refine oaloadN X10 hx hby d7_31 rfl rfl ?_
  obtain ⟨T11, X11, e11, st11⟩ := getF X10 hx hZ hown (host := "") (Or.inl (own_w hw 49 rfl)) Via.refl e10 (Fld.ext O8.2 Fw) (g := (mkF m 32 #[vr a1, vr aS, vr b3, vi 1] [(.ref a1), (.int 1), (.ref b3)])) rfl rfl (hb hby d7_32)
  refine own_st st11 ?_
  show gs T11 m 35 #[vr a1, vr aS, vr b3, vi 1] [(.int 4), (.int 1), (.ref b3)]
  refine own_st (fun _ kS => XS.imul X11.here hx rfl (hb hby d7_35) rfl kS) ?_
  refine own_st (fun _ kS => XS.goto X11.here hx rfl (pc0 := 36) (pc' := 52) rfl (hb hby d7_36) (by decide) (by decide) kS) ?_
  refine oaloadN X11 hx hby d7_52 rfl rfl ?_
  refine oiloadN X11 hx hby d7_53 rfl ?_
  refine oV 2 X11 hx hZ hby hml hown (own_w hw 53 rfl) (own_w hw 54 rfl) (own_w hw 56 rfl) (own_w hw 55 rfl) (rm_chAt_3_1 l Z a0 hw [] aS tA kA y0 y1 y2 zCS fm h8 n0 (Nat.le_trans (Nat.le_trans Z0 E3.1) (Keep.of_wr W8).1) O8 (Exa.wr W8 (Exa.ext E3 E_0)) (Fld.other W8 (Fld.ext E3 F0v) (Or.inl ne_aS_b3)) (Fld.other W8 (Fld.ext E3 F0c) (Or.inl ne_aS_b3)) ((Arv.ext R_A E3).other W8 ne_tA_b3) S_CS P_CS S_SF P_SF) (own_w hw 57 rfl) (own_w hw 7 rfl) e11 (Exa.wr W8 (Exa.ext E3 E_0)) (by decide) own_pd10 d7_54 rfl rfl rfl (fun T12 L12 v12 X12 hQ12 => ?_)
  obtain ⟨rfl, Nq12, eq12⟩ := hQ12
  have N12 := Fr.app N9 Nq12
  show gs T12 m 57 #[vr a1, vr aS, vr b3, vi 1] [(.int (own_lat y1)), (.int 4), (.ref b3)]
  refine own_st (fun _ kS => XT.i2b X12.here hx rfl (hb hby d7_57) rfl kS) ?_
  show gs T12 m 58 #[vr a1, vr aS, vr b3, vi 1] [(.int ((own_lat y1).toInt8.toInt32)), (.int 4), (.ref b3)]
  obtain ⟨cl13, Ar13, qa13, qs13, qn13, qh13, qg13⟩ := id R8
  obtain ⟨T13, h13, X13, e13, W13, st13⟩ := stB X12 hx hZ eq12 Ar13 (j := (4 : Int32)) (inb_of qs13 ⟨by decide, by decide⟩) (g := (mkF m 58 #[vr a1, vr aS, vr b3, vi 1] [(.int ((own_lat y1).toInt8.toInt32)), (.int 4), (.ref b3)])) rfl rfl (hb hby d7_58)
  have N13 := Fr.snoc X13 N12 ge_b3
  have K13 := K8.wr W13 (Or.inr sz_b3)
  have O13 := O8.wr W13 ge_b3
  have R13 : Arv Z h13 b3 k3 .byte (12 : Int32) [(.int (nar .byte ((own_lat y0).toInt8.toInt32))), (.int 0), (.int 0), (.int 0), (.int (nar .byte ((own_lat y1).toInt8.toInt32))), (.int 0), (.int 0), (.int 0), (.int 0), (.int 0), (.int 0), (.int 0)] (.int 0) := Arv.set Ar13 qa13 qs13 qn13 qh13 qg13 (fits_nar_byte _) W13 4 rfl (Nat.le_of_ble_eq_true rfl)
  refine own_st st13 ?_
  show gs T13 m 59 #[vr a1, vr aS, vr b3, vi 1] []
  refine own_st (fun _ kS => XS.iinc X13.here hx rfl (hb hby d7_59) rfl (l' := #[vr a1, vr aS, vr b3, vi 2]) rfl kS) ?_
  refine own_st (fun _ kS => XS.goto X13.here hx rfl (pc0 := 62) (pc' := 14) rfl (hb hby d7_62) (by decide) (by decide) kS) ?_
  refine oiloadN X13 hx hby d7_14 rfl ?_
  refine oaloadN X13 hx hby d7_15 rfl rfl ?_
  refine oV 1 X13 hx hZ hby hml hown (own_w hw 39 rfl) (own_w hw 40 rfl) (own_w hw 42 rfl) (own_w hw 41 rfl) (rm_sLen_3 l Z a0 hw [] aS tA kA y0 y1 y2 zCS h13 n0 (Nat.le_trans (Nat.le_trans (Nat.le_trans Z0 E3.1) (Keep.of_wr W8).1) (Keep.of_wr W13).1) O13 (Exa.wr W13 (Exa.wr W8 (Exa.ext E3 E_0))) (Fld.other W13 (Fld.other W8 (Fld.ext E3 F0v) (Or.inl ne_aS_b3)) (Or.inl ne_aS_b3)) (Fld.other W13 (Fld.other W8 (Fld.ext E3 F0c) (Or.inl ne_aS_b3)) (Or.inl ne_aS_b3)) (((Arv.ext R_A E3).other W8 ne_tA_b3).other W13 ne_tA_b3) S_CS P_CS) (own_w hw 43 rfl) (own_w hw 7 rfl) e13 (Exa.wr W13 (Exa.wr W8 (Exa.ext E3 E_0))) (by decide) own_pd9 d7_16 rfl rfl rfl (fun T14 L14 v14 X14 hQ14 => ?_)
  obtain ⟨rfl, Nq14, eq14⟩ := hQ14
  have N14 := Fr.app N13 Nq14
  show gs T14 m 19 #[vr a1, vr aS, vr b3, vi 2] [(.int 3), (.int 2)]
  refine own_st (fun _ kS => XS.icmpNo X14.here hx rfl (hb hby d7_19) rfl (tlt (by decide : (2 : Int32) < (3 : Int32))).2.1 kS) ?_
  show gs T14 m 22 #[vr a1, vr aS, vr b3, vi 2] []
  refine oaloadN X14 hx hby d7_22 rfl rfl ?_
  refine oaloadN X14 hx hby d7_23 rfl rfl ?_
  obtain ⟨T15, X15, e15, st15⟩ := getF X14 hx hZ hown (host := "") (Or.inl (own_w hw 51 rfl)) Via.refl eq14 (Fld.ext O13.2 Fl) (g := (mkF m 24 #[vr a1, vr aS, vr b3, vi 2] [(.ref a1), (.ref b3)])) rfl rfl (hb hby d7_24)
  refine own_st st15 ?_
  show gs T15 m 27 #[vr a1, vr aS, vr b3, vi 2] [(.int 1), (.ref b3)]
  refine own_st (fun _ kS => XS.ifNo X15.here hx rfl (hb hby d7_27) rfl ((if0 _ _).trans (feq (by decide : ¬ ((1 : Int32) = (0 : Int32)))).1) kS) ?_
  show gs T15 m 30 #[vr a1, vr aS, vr b3, vi 2] [(.ref b3)]
  refine oiloadN X15 hx hby d7_30 rfl ?_
  refine oaloadN X15 hx hby d7_31 rfl rfl ?_
  obtain ⟨T16, X16, e16, st16⟩ := getF X15 hx hZ hown (host := "") (Or.inl (own_w hw 49 rfl)) Via.refl e15 (Fld.ext O13.2 Fw) (g := (mkF m 32 #[vr a1, vr aS, vr b3, vi 2] [(.ref a1), (.int 2), (.ref b3)])) rfl rfl (hb hby d7_32)
  refine own_st st16 ?_
  show gs T16 m 35 #[vr a1, vr aS, vr b3, vi 2] [(.int 4), (.int 2), (.ref b3)]
  refine own_st (fun _ kS => XS.imul X16.here hx rfl (hb hby d7_35) rfl kS) ?_
  refine own_st (fun _ kS => XS.goto X16.here hx rfl (pc0 := 36) (pc' := 52) rfl (hb hby d7_36) (by decide) (by decide) kS) ?_
  refine oaloadN X16 hx hby d7_52 rfl rfl ?_
  refine oiloadN X16 hx hby d7_53 rfl ?_
  refine oV 2 X16 hx hZ hby hml hown (own_w hw 53 rfl) (own_w hw 54 rfl) (own_w hw 56 rfl) (own_w hw 55 rfl) (rm_chAt_3_2 l Z a0 hw [] aS tA kA y0 y1 y2 zCS fm h13 n0 (Nat.le_trans (Nat.le_trans (Nat.le_trans Z0 E3.1) (Keep.of_wr W8).1) (Keep.of_wr W13).1) O13 (Exa.wr W13 (Exa.wr W8 (Exa.ext E3 E_0))) (Fld.other W13 (Fld.other W8 (Fld.ext E3 F0v) (Or.inl ne_aS_b3)) (Or.inl ne_aS_b3)) (Fld.other W13 (Fld.other W8 (Fld.ext E3 F0c) (Or.inl ne_aS_b3)) (Or.inl ne_aS_b3)) (((Arv.ext R_A E3).other W8 ne_tA_b3).other W13 ne_tA_b3) S_CS P_CS S_SF P_SF) (own_w hw 57 rfl) (own_w hw 7 rfl) e16 (Exa.wr W13 (Exa.wr W8 (Exa.ext E3 E_0))) (by decide) own_pd10 d7_54 rfl rfl rfl (fun T17 L17 v17 X17 hQ17 => ?_)
  obtain ⟨rfl, Nq17, eq17⟩ := hQ17
  have N17 := Fr.app N14 Nq17
  show gs T17 m 57 #[vr a1, vr aS, vr b3, vi 2] [(.int (own_lat y2)), (.int 8), (.ref b3)]
  refine own_st (fun _ kS => XT.i2b X17.here hx rfl (hb hby d7_57) rfl kS) ?_
  show gs T17 m 58 #[vr a1, vr aS, vr b3, vi 2] [(.int ((own_lat y2).toInt8.toInt32)), (.int 8), (.ref b3)]
  obtain ⟨cl18, Ar18, qa18, qs18, qn18, qh18, qg18⟩ := id R13
  obtain ⟨T18, h18, X18, e18, W18, st18⟩ := stB X17 hx hZ eq17 Ar18 (j := (8 : Int32)) (inb_of qs18 ⟨by decide, by decide⟩) (g := (mkF m 58 #[vr a1, vr aS, vr b3, vi 2] [(.int ((own_lat y2).toInt8.toInt32)), (.int 8), (.ref b3)])) rfl rfl (hb hby d7_58)
  have N18 := Fr.snoc X18 N17 ge_b3
  have K18 := K13.wr W18 (Or.inr sz_b3)
  have O18 := O13.wr W18 ge_b3
  have R18 : Arv Z h18 b3 k3 .byte (12 : Int32) [(.int (nar .byte ((own_lat y0).toInt8.toInt32))), (.int 0), (.int 0), (.int 0), (.int (nar .byte ((own_lat y1).toInt8.toInt32))), (.int 0), (.int 0), (.int 0), (.int (nar .byte ((own_lat y2).toInt8.toInt32))), (.int 0), (.int 0), (.int 0)] (.int 0) := Arv.set Ar18 qa18 qs18 qn18 qh18 qg18 (fits_nar_byte _) W18 8 rfl (Nat.le_of_ble_eq_true rfl)
  refine own_st st18 ?_
  show gs T18 m 59 #[vr a1, vr aS, vr b3, vi 2] []
  refine own_st (fun _ kS => XS.iinc X18.here hx rfl (hb hby d7_59) rfl (l' := #[vr a1, vr aS, vr b3, vi 3]) rfl kS) ?_
  refine own_st (fun _ kS => XS.goto X18.here hx rfl (pc0 := 62) (pc' := 14) rfl (hb hby d7_62) (by decide) (by decide) kS) ?_
  refine oiloadN X18 hx hby d7_14 rfl ?_
  refine oaloadN X18 hx hby d7_15 rfl rfl ?_
  refine oV 1 X18 hx hZ hby hml hown (own_w hw 39 rfl) (own_w hw 40 rfl) (own_w hw 42 rfl) (own_w hw 41 rfl) (rm_sLen_3 l Z a0 hw [] aS tA kA y0 y1 y2 zCS h18 n0 (Nat.le_trans (Nat.le_trans (Nat.le_trans (Nat.le_trans Z0 E3.1) (Keep.of_wr W8).1) (Keep.of_wr W13).1) (Keep.of_wr W18).1) O18 (Exa.wr W18 (Exa.wr W13 (Exa.wr W8 (Exa.ext E3 E_0)))) (Fld.other W18 (Fld.other W13 (Fld.other W8 (Fld.ext E3 F0v) (Or.inl ne_aS_b3)) (Or.inl ne_aS_b3)) (Or.inl ne_aS_b3)) (Fld.other W18 (Fld.other W13 (Fld.other W8 (Fld.ext E3 F0c) (Or.inl ne_aS_b3)) (Or.inl ne_aS_b3)) (Or.inl ne_aS_b3)) ((((Arv.ext R_A E3).other W8 ne_tA_b3).other W13 ne_tA_b3).other W18 ne_tA_b3) S_CS P_CS) (own_w hw 43 rfl) (own_w hw 7 rfl) e18 (Exa.wr W18 (Exa.wr W13 (Exa.wr W8 (Exa.ext E3 E_0)))) (by decide) own_pd9 d7_16 rfl rfl rfl (fun T19 L19 v19 X19 hQ19 => ?_)
  obtain ⟨rfl, Nq19, eq19⟩ := hQ19
  have N19 := Fr.app N18 Nq19
  show gs T19 m 19 #[vr a1, vr aS, vr b3, vi 3] [(.int 3), (.int 3)]
  refine own_st (fun _ kS => XS.icmpYes X19.here hx rfl (pc0 := 19) (pc' := 65) rfl (hb hby d7_19) rfl (flt (by decide : ¬ ((3 : Int32) < (3 : Int32)))).2.1 (by decide) (by decide) kS) ?_
  show gs T19 m 65 #[vr a1, vr aS, vr b3, vi 3] []
  refine oaloadN X19 hx hby d7_65 rfl rfl ?_
  exact own_retA X19 hx hlk hret rfl rfl (hb hby d7_66) (by decide) (by decide) (by rw [eq19]; exact ⟨b3, k3, ⟨rfl, N19, K18, sz_b3, R18⟩⟩)
theorem ef_enc_3_2_0 (m : MethodId) (x0 : Addr) (x1 : Addr) : entryFrame m #[(.ref x0), (.ref x1)] 4 = mkF m 0 #[.val (.ref x0), .val (.ref x1), .unset, .unset] [] := by first | (simp [entryFrame, mkF, argsToLocals, Value.category]; done) | rfl
def Q_enc_3_2_0 (Z : State) (a1 : Addr) (aS : Addr) (tA : Addr) (kA : ClassId) (y0 : Int32) (y1 : Int32) (y2 : Int32) (zCS : Int32) (fm : Value) (h0 : Heap) (n0 : Nat) (v : Option Value) (h : Heap) (L : List Loc) : Prop := ∃ tN : Addr, ∃ kN : ClassId, v = some (.ref tN) ∧ Fr n0 L ∧ Keep h0 h [] ∧ h0.size ≤ tN ∧ Arv Z h tN kN .byte (6 : Int32) [(.int 0), (.int (nar .byte ((own_lat y0).toInt8.toInt32))), (.int 0), (.int (nar .byte ((own_lat y1).toInt8.toInt32))), (.int 0), (.int (nar .byte ((own_lat y2).toInt8.toInt32)))] (.int 0)
theorem rm_enc_3_2_0 (l : Launch) (Z : State) (a0 : Array Value) (hw : HW a0 Z) (ws : List Jvm.Cond) (a1 : Addr) (aS : Addr) (tA : Addr) (kA : ClassId) (y0 : Int32) (y1 : Int32) (y2 : Int32) (zCS : Int32) (fm : Value) (h0 : Heap) (n0 : Nat) (Z0 : n0 ≤ h0.size) (O0 : Old Z n0 h0) (Fw : fk10 Z Z.heap a1 (.int 2)) (Fl : fk11 Z Z.heap a1 (.int 0)) (E_0 : ek12 Z h0 aS) (F0v : fk9 Z h0 aS (.ref tA)) (F0c : fk8 Z h0 aS (.int 0)) (R_A : Arv Z h0 tA kA .byte (3 : Int32) [(.int y0), (.int y1), (.int y2)] (.int 0)) (S_CS : sk0 Z Z.heap (.int zCS)) (P_CS : ¬ zCS = 0) (S_SF : sk1 Z Z.heap fm) (P_SF : fm.isRef = true) :
    M12 l ws (rmk 4 1 6 55) Z #[(.ref a1), (.ref aS)] h0 (Q_enc_3_2_0 Z a1 aS tA kA y0 y1 y2 zCS fm h0 n0) := by
  refine own_go "com/example/provenir/provenir/TextEncoding" rfl (plainFor_of_name pn_7) (fun m => ef_enc_3_2_0 m a1 aS) (fun p e s m below meth c s₁ hx hby hml hown hnm hlk hret hZ X0 e0 => ?_)
  have N0 := Fr.nil n0
  have K0 := Keep.refl h0 []
  show gs s₁ m 0 #[vr a1, vr aS, .unset, .unset] []
  refine oaloadN X0 hx hby d7_0 rfl rfl ?_
  refine oV 0 X0 hx hZ hby hml hown (own_w hw 39 rfl) (own_w hw 40 rfl) (own_w hw 42 rfl) (own_w hw 41 rfl) (rm_sLen_3 l Z a0 hw [] aS tA kA y0 y1 y2 zCS h0 n0 Z0 O0 E_0 F0v F0c R_A S_CS P_CS) (own_w hw 43 rfl) (own_w hw 7 rfl) e0 E_0 (by decide) own_pd9 d7_1 rfl rfl rfl (fun T1 L1 v1 X1 hQ1 => ?_)
  obtain ⟨rfl, Nq1, eq1⟩ := hQ1
  have N1 := Fr.app N0 Nq1
  show gs T1 m 4 #[vr a1, vr aS, .unset, .unset] [(.int 3)]
  refine oaloadN X1 hx hby d7_4 rfl rfl ?_
  obtain ⟨T2, X2, e2, st2⟩ := getF X1 hx hZ hown (host := "") (Or.inl (own_w hw 49 rfl)) Via.refl eq1 (Fld.ext O0.2 Fw) (g := (mkF m 5 #[vr a1, vr aS, .unset, .unset] [(.ref a1), (.int 3)])) rfl rfl (hb hby d7_5)
  refine own_st st2 ?_
  show gs T2 m 8 #[vr a1, vr aS, .unset, .unset] [(.int 2), (.int 3)]
  refine own_st (fun _ kS => XS.imul X2.here hx rfl (hb hby d7_8) rfl kS) ?_
  show gs T2 m 9 #[vr a1, vr aS, .unset, .unset] [(.int 6)]
  obtain ⟨T3, h3, k3, X3, e3, E3, A3, st3⟩ := newP X2 hx hZ (own_w hw 23 rfl) e2 (g := (mkF m 9 #[vr a1, vr aS, .unset, .unset] [(.int 6)])) rfl (hb hby d7_9) rfl (by decide) (cap := 6) (by decide) (by decide) (by decide) (by decide)
  obtain ⟨b3, g3⟩ : ∃ z, z = h0.size := ⟨_, rfl⟩
  have ne_aS_b3 : aS ≠ b3 := Nat.ne_of_lt (Nat.lt_of_lt_of_eq E_0.lt g3.symm)
  have ne_tA_b3 : tA ≠ b3 := Nat.ne_of_lt (Nat.lt_of_lt_of_eq R_A.lt g3.symm)
  have ge_b3 : n0 ≤ b3 := Nat.le_trans Z0 (Nat.le_of_eq g3.symm)
  have sz_b3 : h0.size ≤ b3 := Nat.le_trans K0.1 (Nat.le_of_eq g3.symm)
  rw [← g3] at A3 st3
  have K3 := K0.ext E3
  have O3 := O0.ext E3
  have R3 : Arv Z h3 b3 k3 .byte (6 : Int32) [(.int 0), (.int 0), (.int 0), (.int 0), (.int 0), (.int 0)] (.int 0) := (Arv.new A3 (by decide)).pad (pad_rep [] (.int 0) 6)
  refine own_st st3 ?_
  show gs T3 m 11 #[vr a1, vr aS, .unset, .unset] [(.ref b3)]
  refine own_st (fun _ kS => XS.astoreN X3.here hx rfl (hb hby d7_11) rfl rfl (l' := #[vr a1, vr aS, vr b3, .unset]) rfl kS) ?_
  refine oiconst X3 hx hby d7_12 ?_
  refine own_st (fun _ kS => XS.istoreN X3.here hx rfl (hb hby d7_13) rfl (l' := #[vr a1, vr aS, vr b3, vi 0]) rfl kS) ?_
  refine oiloadN X3 hx hby d7_14 rfl ?_
  refine oaloadN X3 hx hby d7_15 rfl rfl ?_
  refine oV 1 X3 hx hZ hby hml hown (own_w hw 39 rfl) (own_w hw 40 rfl) (own_w hw 42 rfl) (own_w hw 41 rfl) (rm_sLen_3 l Z a0 hw [] aS tA kA y0 y1 y2 zCS h3 n0 (Nat.le_trans Z0 E3.1) O3 (Exa.ext E3 E_0) (Fld.ext E3 F0v) (Fld.ext E3 F0c) (Arv.ext R_A E3) S_CS P_CS) (own_w hw 43 rfl) (own_w hw 7 rfl) e3 (Exa.ext E3 E_0) (by decide) own_pd9 d7_16 rfl rfl rfl (fun T4 L4 v4 X4 hQ4 => ?_)
  obtain ⟨rfl, Nq4, eq4⟩ := hQ4
  have N4 := Fr.app N1 Nq4
  show gs T4 m 19 #[vr a1, vr aS, vr b3, vi 0] [(.int 3), (.int 0)]
  refine own_st (fun _ kS => XS.icmpNo X4.here hx rfl (hb hby d7_19) rfl (tlt (by decide : (0 : Int32) < (3 : Int32))).2.1 kS) ?_
  show gs T4 m 22 #[vr a1, vr aS, vr b3, vi 0] []
  refine oaloadN X4 hx hby d7_22 rfl rfl ?_
  refine oaloadN X4 hx hby d7_23 rfl rfl ?_
  obtain ⟨T5, X5, e5, st5⟩ := getF X4 hx hZ hown (host := "") (Or.inl (own_w hw 51 rfl)) Via.refl eq4 (Fld.ext O3.2 Fl) (g := (mkF m 24 #[vr a1, vr aS, vr b3, vi 0] [(.ref a1), (.ref b3)])) rfl rfl (hb hby d7_24)
  refine own_st st5 ?_
  show gs T5 m 27 #[vr a1, vr aS, vr b3, vi 0] [(.int 0), (.ref b3)]
  refine own_st (fun _ kS => XS.ifYes X5.here hx rfl (pc0 := 27) (pc' := 39) rfl (hb hby d7_27) rfl ((if0 _ _).trans (teq (by decide : (0 : Int32) = (0 : Int32))).1) (by decide) (by decide) kS) ?_
  show gs T5 m 39 #[vr a1, vr aS, vr b3, vi 0] [(.ref b3)]
  refine oiloadN X5 hx hby d7_39 rfl ?_
  refine oaloadN X5 hx hby d7_40 rfl rfl ?_
  obtain ⟨T6, X6, e6, st6⟩ := getF X5 hx hZ hown (host := "") (Or.inl (own_w hw 49 rfl)) Via.refl e5 (Fld.ext O3.2 Fw) (g := (mkF m 41 #[vr a1, vr aS, vr b3, vi 0] [(.ref a1), (.int 0), (.ref b3)])) rfl rfl (hb hby d7_41)
  refine own_st st6 ?_
  show gs T6 m 44 #[vr a1, vr aS, vr b3, vi 0] [(.int 2), (.int 0), (.ref b3)]
  refine own_st (fun _ kS => XS.imul X6.here hx rfl (hb hby d7_44) rfl kS) ?_
  refine oaloadN X6 hx hby d7_45 rfl rfl ?_
  obtain ⟨T7, X7, e7, st7⟩ := getF X6 hx hZ hown (host := "") (Or.inl (own_w hw 49 rfl)) Via.refl e6 (Fld.ext O3.2 Fw) (g := (mkF m 46 #[vr a1, vr aS, vr b3, vi 0] [(.ref a1), (.int 0), (.ref b3)])) rfl rfl (hb hby d7_46)
  refine own_st st7 ?_
  show gs T7 m 49 #[vr a1, vr aS, vr b3, vi 0] [(.int 2), (.int 0), (.ref b3)]
  refine own_st (fun _ kS => XS.iadd X7.here hx rfl (hb hby d7_49) rfl kS) ?_
  refine oiconst X7 hx hby d7_50 ?_
  refine own_st (fun _ kS => XS.isub X7.here hx rfl (hb hby d7_51) rfl kS) ?_
  refine oaloadN X7 hx hby d7_52 rfl rfl ?_
  refine oiloadN X7 hx hby d7_53 rfl ?_
  refine oV 2 X7 hx hZ hby hml hown (own_w hw 53 rfl) (own_w hw 54 rfl) (own_w hw 56 rfl) (own_w hw 55 rfl) (rm_chAt_3_0 l Z a0 hw [] aS tA kA y0 y1 y2 zCS fm h3 n0 (Nat.le_trans Z0 E3.1) O3 (Exa.ext E3 E_0) (Fld.ext E3 F0v) (Fld.ext E3 F0c) (Arv.ext R_A E3) S_CS P_CS S_SF P_SF) (own_w hw 57 rfl) (own_w hw 7 rfl) e7 (Exa.ext E3 E_0) (by decide) own_pd10 d7_54 rfl rfl rfl (fun T8 L8 v8 X8 hQ8 => ?_)
  obtain ⟨rfl, Nq8, eq8⟩ := hQ8
  have N8 := Fr.app N4 Nq8
  show gs T8 m 57 #[vr a1, vr aS, vr b3, vi 0] [(.int (own_lat y0)), (.int 1), (.ref b3)]
  refine own_st (fun _ kS => XT.i2b X8.here hx rfl (hb hby d7_57) rfl kS) ?_
  show gs T8 m 58 #[vr a1, vr aS, vr b3, vi 0] [(.int ((own_lat y0).toInt8.toInt32)), (.int 1), (.ref b3)]
  obtain ⟨cl9, Ar9, qa9, qs9, qn9, qh9, qg9⟩ := id R3
  obtain ⟨T9, h9, X9, e9, W9, st9⟩ := stB X8 hx hZ eq8 Ar9 (j := (1 : Int32)) (inb_of qs9 ⟨by decide, by decide⟩) (g := (mkF m 58 #[vr a1, vr aS, vr b3, vi 0] [(.int ((own_lat y0).toInt8.toInt32)), (.int 1), (.ref b3)])) rfl rfl (hb hby d7_58)
  have N9 := Fr.snoc X9 N8 ge_b3
  have K9 := K3.wr W9 (Or.inr sz_b3)
  have O9 := O3.wr W9 ge_b3
  have R9 : Arv Z h9 b3 k3 .byte (6 : Int32) [(.int 0), (.int (nar .byte ((own_lat y0).toInt8.toInt32))), (.int 0), (.int 0), (.int 0), (.int 0)] (.int 0) := Arv.set Ar9 qa9 qs9 qn9 qh9 qg9 (fits_nar_byte _) W9 1 rfl (Nat.le_of_ble_eq_true rfl)
  refine own_st st9 ?_
  show gs T9 m 59 #[vr a1, vr aS, vr b3, vi 0] []
  refine own_st (fun _ kS => XS.iinc X9.here hx rfl (hb hby d7_59) rfl (l' := #[vr a1, vr aS, vr b3, vi 1]) rfl kS) ?_
  refine own_st (fun _ kS => XS.goto X9.here hx rfl (pc0 := 62) (pc' := 14) rfl (hb hby d7_62) (by decide) (by decide) kS) ?_
  refine oiloadN X9 hx hby d7_14 rfl ?_
  refine oaloadN X9 hx hby d7_15 rfl rfl ?_
  refine oV 1 X9 hx hZ hby hml hown (own_w hw 39 rfl) (own_w hw 40 rfl) (own_w hw 42 rfl) (own_w hw 41 rfl) (rm_sLen_3 l Z a0 hw [] aS tA kA y0 y1 y2 zCS h9 n0 (Nat.le_trans (Nat.le_trans Z0 E3.1) (Keep.of_wr W9).1) O9 (Exa.wr W9 (Exa.ext E3 E_0)) (Fld.other W9 (Fld.ext E3 F0v) (Or.inl ne_aS_b3)) (Fld.other W9 (Fld.ext E3 F0c) (Or.inl ne_aS_b3)) ((Arv.ext R_A E3).other W9 ne_tA_b3) S_CS P_CS) (own_w hw 43 rfl) (own_w hw 7 rfl) e9 (Exa.wr W9 (Exa.ext E3 E_0)) (by decide) own_pd9 d7_16 rfl rfl rfl (fun T10 L10 v10 X10 hQ10 => ?_)
  obtain ⟨rfl, Nq10, eq10⟩ := hQ10
  have N10 := Fr.app N9 Nq10
  show gs T10 m 19 #[vr a1, vr aS, vr b3, vi 1] [(.int 3), (.int 1)]
  refine own_st (fun _ kS => XS.icmpNo X10.here hx rfl (hb hby d7_19) rfl (tlt (by decide : (1 : Int32) < (3 : Int32))).2.1 kS) ?_
  show gs T10 m 22 #[vr a1, vr aS, vr b3, vi 1] []
  refine oaloadN X10 hx hby d7_22 rfl rfl ?_
  refine oaloadN X10 hx hby d7_23 rfl rfl ?_
  obtain ⟨T11, X11, e11, st11⟩ := getF X10 hx hZ hown (host := "") (Or.inl (own_w hw 51 rfl)) Via.refl eq10 (Fld.ext O9.2 Fl) (g := (mkF m 24 #[vr a1, vr aS, vr b3, vi 1] [(.ref a1), (.ref b3)])) rfl rfl (hb hby d7_24)
  refine own_st st11 ?_
  show gs T11 m 27 #[vr a1, vr aS, vr b3, vi 1] [(.int 0), (.ref b3)]
  refine own_st (fun _ kS => XS.ifYes X11.here hx rfl (pc0 := 27) (pc' := 39) rfl (hb hby d7_27) rfl ((if0 _ _).trans (teq (by decide : (0 : Int32) = (0 : Int32))).1) (by decide) (by decide) kS) ?_
  show gs T11 m 39 #[vr a1, vr aS, vr b3, vi 1] [(.ref b3)]
  refine oiloadN X11 hx hby d7_39 rfl ?_
  refine oaloadN X11 hx hby d7_40 rfl rfl ?_
  obtain ⟨T12, X12, e12, st12⟩ := getF X11 hx hZ hown (host := "") (Or.inl (own_w hw 49 rfl)) Via.refl e11 (Fld.ext O9.2 Fw) (g := (mkF m 41 #[vr a1, vr aS, vr b3, vi 1] [(.ref a1), (.int 1), (.ref b3)])) rfl rfl (hb hby d7_41)
  refine own_st st12 ?_
  show gs T12 m 44 #[vr a1, vr aS, vr b3, vi 1] [(.int 2), (.int 1), (.ref b3)]
  refine own_st (fun _ kS => XS.imul X12.here hx rfl (hb hby d7_44) rfl kS) ?_
  refine oaloadN X12 hx hby d7_45 rfl rfl ?_
  obtain ⟨T13, X13, e13, st13⟩ := getF X12 hx hZ hown (host := "") (Or.inl (own_w hw 49 rfl)) Via.refl e12 (Fld.ext O9.2 Fw) (g := (mkF m 46 #[vr a1, vr aS, vr b3, vi 1] [(.ref a1), (.int 2), (.ref b3)])) rfl rfl (hb hby d7_46)
  refine own_st st13 ?_
  show gs T13 m 49 #[vr a1, vr aS, vr b3, vi 1] [(.int 2), (.int 2), (.ref b3)]
  refine own_st (fun _ kS => XS.iadd X13.here hx rfl (hb hby d7_49) rfl kS) ?_
  refine oiconst X13 hx hby d7_50 ?_
  refine own_st (fun _ kS => XS.isub X13.here hx rfl (hb hby d7_51) rfl kS) ?_
  refine oaloadN X13 hx hby d7_52 rfl rfl ?_
  refine oiloadN X13 hx hby d7_53 rfl ?_
  refine oV 2 X13 hx hZ hby hml hown (own_w hw 53 rfl) (own_w hw 54 rfl) (own_w hw 56 rfl) (own_w hw 55 rfl) (rm_chAt_3_1 l Z a0 hw [] aS tA kA y0 y1 y2 zCS fm h9 n0 (Nat.le_trans (Nat.le_trans Z0 E3.1) (Keep.of_wr W9).1) O9 (Exa.wr W9 (Exa.ext E3 E_0)) (Fld.other W9 (Fld.ext E3 F0v) (Or.inl ne_aS_b3)) (Fld.other W9 (Fld.ext E3 F0c) (Or.inl ne_aS_b3)) ((Arv.ext R_A E3).other W9 ne_tA_b3) S_CS P_CS S_SF P_SF) (own_w hw 57 rfl) (own_w hw 7 rfl) e13 (Exa.wr W9 (Exa.ext E3 E_0)) (by decide) own_pd10 d7_54 rfl rfl rfl (fun T14 L14 v14 X14 hQ14 => ?_)
  obtain ⟨rfl, Nq14, eq14⟩ := hQ14
  have N14 := Fr.app N10 Nq14
  show gs T14 m 57 #[vr a1, vr aS, vr b3, vi 1] [(.int (own_lat y1)), (.int 3), (.ref b3)]
  refine own_st (fun _ kS => XT.i2b X14.here hx rfl (hb hby d7_57) rfl kS) ?_
  show gs T14 m 58 #[vr a1, vr aS, vr b3, vi 1] [(.int ((own_lat y1).toInt8.toInt32)), (.int 3), (.ref b3)]
  obtain ⟨cl15, Ar15, qa15, qs15, qn15, qh15, qg15⟩ := id R9
  obtain ⟨T15, h15, X15, e15, W15, st15⟩ := stB X14 hx hZ eq14 Ar15 (j := (3 : Int32)) (inb_of qs15 ⟨by decide, by decide⟩) (g := (mkF m 58 #[vr a1, vr aS, vr b3, vi 1] [(.int ((own_lat y1).toInt8.toInt32)), (.int 3), (.ref b3)])) rfl rfl (hb hby d7_58)
  have N15 := Fr.snoc X15 N14 ge_b3
  have K15 := K9.wr W15 (Or.inr sz_b3)
  have O15 := O9.wr W15 ge_b3
  have R15 : Arv Z h15 b3 k3 .byte (6 : Int32) [(.int 0), (.int (nar .byte ((own_lat y0).toInt8.toInt32))), (.int 0), (.int (nar .byte ((own_lat y1).toInt8.toInt32))), (.int 0), (.int 0)] (.int 0) := Arv.set Ar15 qa15 qs15 qn15 qh15 qg15 (fits_nar_byte _) W15 3 rfl (Nat.le_of_ble_eq_true rfl)
  refine own_st st15 ?_
  show gs T15 m 59 #[vr a1, vr aS, vr b3, vi 1] []
  refine own_st (fun _ kS => XS.iinc X15.here hx rfl (hb hby d7_59) rfl (l' := #[vr a1, vr aS, vr b3, vi 2]) rfl kS) ?_
  refine own_st (fun _ kS => XS.goto X15.here hx rfl (pc0 := 62) (pc' := 14) rfl (hb hby d7_62) (by decide) (by decide) kS) ?_
  refine oiloadN X15 hx hby d7_14 rfl ?_
  refine oaloadN X15 hx hby d7_15 rfl rfl ?_
  refine oV 1 X15 hx hZ hby hml hown (own_w hw 39 rfl) (own_w hw 40 rfl) (own_w hw 42 rfl) (own_w hw 41 rfl) (rm_sLen_3 l Z a0 hw [] aS tA kA y0 y1 y2 zCS h15 n0 (Nat.le_trans (Nat.le_trans (Nat.le_trans Z0 E3.1) (Keep.of_wr W9).1) (Keep.of_wr W15).1) O15 (Exa.wr W15 (Exa.wr W9 (Exa.ext E3 E_0))) (Fld.other W15 (Fld.other W9 (Fld.ext E3 F0v) (Or.inl ne_aS_b3)) (Or.inl ne_aS_b3)) (Fld.other W15 (Fld.other W9 (Fld.ext E3 F0c) (Or.inl ne_aS_b3)) (Or.inl ne_aS_b3)) (((Arv.ext R_A E3).other W9 ne_tA_b3).other W15 ne_tA_b3) S_CS P_CS) (own_w hw 43 rfl) (own_w hw 7 rfl) e15 (Exa.wr W15 (Exa.wr W9 (Exa.ext E3 E_0))) (by decide) own_pd9 d7_16 rfl rfl rfl (fun T16 L16 v16 X16 hQ16 => ?_)
  obtain ⟨rfl, Nq16, eq16⟩ := hQ16
  have N16 := Fr.app N15 Nq16
  show gs T16 m 19 #[vr a1, vr aS, vr b3, vi 2] [(.int 3), (.int 2)]
  refine own_st (fun _ kS => XS.icmpNo X16.here hx rfl (hb hby d7_19) rfl (tlt (by decide : (2 : Int32) < (3 : Int32))).2.1 kS) ?_
  show gs T16 m 22 #[vr a1, vr aS, vr b3, vi 2] []
  refine oaloadN X16 hx hby d7_22 rfl rfl ?_
  refine oaloadN X16 hx hby d7_23 rfl rfl ?_
  obtain ⟨T17, X17, e17, st17⟩ := getF X16 hx hZ hown (host := "") (Or.inl (own_w hw 51 rfl)) Via.refl eq16 (Fld.ext O15.2 Fl) (g := (mkF m 24 #[vr a1, vr aS, vr b3, vi 2] [(.ref a1), (.ref b3)])) rfl rfl (hb hby d7_24)
  refine own_st st17 ?_
  show gs T17 m 27 #[vr a1, vr aS, vr b3, vi 2] [(.int 0), (.ref b3)]
  refine own_st (fun _ kS => XS.ifYes X17.here hx rfl (pc0 := 27) (pc' := 39) rfl (hb hby d7_27) rfl ((if0 _ _).trans (teq (by decide : (0 : Int32) = (0 : Int32))).1) (by decide) (by decide) kS) ?_
  show gs T17 m 39 #[vr a1, vr aS, vr b3, vi 2] [(.ref b3)]
  refine oiloadN X17 hx hby d7_39 rfl ?_
  refine oaloadN X17 hx hby d7_40 rfl rfl ?_
  obtain ⟨T18, X18, e18, st18⟩ := getF X17 hx hZ hown (host := "") (Or.inl (own_w hw 49 rfl)) Via.refl e17 (Fld.ext O15.2 Fw) (g := (mkF m 41 #[vr a1, vr aS, vr b3, vi 2] [(.ref a1), (.int 2), (.ref b3)])) rfl rfl (hb hby d7_41)
  refine own_st st18 ?_
  show gs T18 m 44 #[vr a1, vr aS, vr b3, vi 2] [(.int 2), (.int 2), (.ref b3)]
  refine own_st (fun _ kS => XS.imul X18.here hx rfl (hb hby d7_44) rfl kS) ?_
  refine oaloadN X18 hx hby d7_45 rfl rfl ?_
  obtain ⟨T19, X19, e19, st19⟩ := getF X18 hx hZ hown (host := "") (Or.inl (own_w hw 49 rfl)) Via.refl e18 (Fld.ext O15.2 Fw) (g := (mkF m 46 #[vr a1, vr aS, vr b3, vi 2] [(.ref a1), (.int 4), (.ref b3)])) rfl rfl (hb hby d7_46)
  refine own_st st19 ?_
  show gs T19 m 49 #[vr a1, vr aS, vr b3, vi 2] [(.int 2), (.int 4), (.ref b3)]
  refine own_st (fun _ kS => XS.iadd X19.here hx rfl (hb hby d7_49) rfl kS) ?_
  refine oiconst X19 hx hby d7_50 ?_
  refine own_st (fun _ kS => XS.isub X19.here hx rfl (hb hby d7_51) rfl kS) ?_
  refine oaloadN X19 hx hby d7_52 rfl rfl ?_
  refine oiloadN X19 hx hby d7_53 rfl ?_
  refine oV 2 X19 hx hZ hby hml hown (own_w hw 53 rfl) (own_w hw 54 rfl) (own_w hw 56 rfl) (own_w hw 55 rfl) (rm_chAt_3_2 l Z a0 hw [] aS tA kA y0 y1 y2 zCS fm h15 n0 (Nat.le_trans (Nat.le_trans (Nat.le_trans Z0 E3.1) (Keep.of_wr W9).1) (Keep.of_wr W15).1) O15 (Exa.wr W15 (Exa.wr W9 (Exa.ext E3 E_0))) (Fld.other W15 (Fld.other W9 (Fld.ext E3 F0v) (Or.inl ne_aS_b3)) (Or.inl ne_aS_b3)) (Fld.other W15 (Fld.other W9 (Fld.ext E3 F0c) (Or.inl ne_aS_b3)) (Or.inl ne_aS_b3)) (((Arv.ext R_A E3).other W9 ne_tA_b3).other W15 ne_tA_b3) S_CS P_CS S_SF P_SF) (own_w hw 57 rfl) (own_w hw 7 rfl) e19 (Exa.wr W15 (Exa.wr W9 (Exa.ext E3 E_0))) (by decide) own_pd10 d7_54 rfl rfl rfl (fun T20 L20 v20 X20 hQ20 => ?_)
  obtain ⟨rfl, Nq20, eq20⟩ := hQ20
  have N20 := Fr.app N16 Nq20
  show gs T20 m 57 #[vr a1, vr aS, vr b3, vi 2] [(.int (own_lat y2)), (.int 5), (.ref b3)]
  refine own_st (fun _ kS => XT.i2b X20.here hx rfl (hb hby d7_57) rfl kS) ?_
  show gs T20 m 58 #[vr a1, vr aS, vr b3, vi 2] [(.int ((own_lat y2).toInt8.toInt32)), (.int 5), (.ref b3)]
  obtain ⟨cl21, Ar21, qa21, qs21, qn21, qh21, qg21⟩ := id R15
  obtain ⟨T21, h21, X21, e21, W21, st21⟩ := stB X20 hx hZ eq20 Ar21 (j := (5 : Int32)) (inb_of qs21 ⟨by decide, by decide⟩) (g := (mkF m 58 #[vr a1, vr aS, vr b3, vi 2] [(.int ((own_lat y2).toInt8.toInt32)), (.int 5), (.ref b3)])) rfl rfl (hb hby d7_58)
  have N21 := Fr.snoc X21 N20 ge_b3
  have K21 := K15.wr W21 (Or.inr sz_b3)
  have O21 := O15.wr W21 ge_b3
  have R21 : Arv Z h21 b3 k3 .byte (6 : Int32) [(.int 0), (.int (nar .byte ((own_lat y0).toInt8.toInt32))), (.int 0), (.int (nar .byte ((own_lat y1).toInt8.toInt32))), (.int 0), (.int (nar .byte ((own_lat y2).toInt8.toInt32)))] (.int 0) := Arv.set Ar21 qa21 qs21 qn21 qh21 qg21 (fits_nar_byte _) W21 5 rfl (Nat.le_of_ble_eq_true rfl)
  refine own_st st21 ?_
  show gs T21 m 59 #[vr a1, vr aS, vr b3, vi 2] []
  refine own_st (fun _ kS => XS.iinc X21.here hx rfl (hb hby d7_59) rfl (l' := #[vr a1, vr aS, vr b3, vi 3]) rfl kS) ?_
  refine own_st (fun _ kS => XS.goto X21.here hx rfl (pc0 := 62) (pc' := 14) rfl (hb hby d7_62) (by decide) (by decide) kS) ?_
  refine oiloadN X21 hx hby d7_14 rfl ?_
  refine oaloadN X21 hx hby d7_15 rfl rfl ?_
  refine oV 1 X21 hx hZ hby hml hown (own_w hw 39 rfl) (own_w hw 40 rfl) (own_w hw 42 rfl) (own_w hw 41 rfl) (rm_sLen_3 l Z a0 hw [] aS tA kA y0 y1 y2 zCS h21 n0 (Nat.le_trans (Nat.le_trans (Nat.le_trans (Nat.le_trans Z0 E3.1) (Keep.of_wr W9).1) (Keep.of_wr W15).1) (Keep.of_wr W21).1) O21 (Exa.wr W21 (Exa.wr W15 (Exa.wr W9 (Exa.ext E3 E_0)))) (Fld.other W21 (Fld.other W15 (Fld.other W9 (Fld.ext E3 F0v) (Or.inl ne_aS_b3)) (Or.inl ne_aS_b3)) (Or.inl ne_aS_b3)) (Fld.other W21 (Fld.other W15 (Fld.other W9 (Fld.ext E3 F0c) (Or.inl ne_aS_b3)) (Or.inl ne_aS_b3)) (Or.inl ne_aS_b3)) ((((Arv.ext R_A E3).other W9 ne_tA_b3).other W15 ne_tA_b3).other W21 ne_tA_b3) S_CS P_CS) (own_w hw 43 rfl) (own_w hw 7 rfl) e21 (Exa.wr W21 (Exa.wr W15 (Exa.wr W9 (Exa.ext E3 E_0)))) (by decide) own_pd9 d7_16 rfl rfl rfl (fun T22 L22 v22 X22 hQ22 => ?_)
  obtain ⟨rfl, Nq22, eq22⟩ := hQ22
  have N22 := Fr.app N21 Nq22
  show gs T22 m 19 #[vr a1, vr aS, vr b3, vi 3] [(.int 3), (.int 3)]
  refine own_st (fun _ kS => XS.icmpYes X22.here hx rfl (pc0 := 19) (pc' := 65) rfl (hb hby d7_19) rfl (flt (by decide : ¬ ((3 : Int32) < (3 : Int32)))).2.1 (by decide) (by decide) kS) ?_
  show gs T22 m 65 #[vr a1, vr aS, vr b3, vi 3] []
  refine oaloadN X22 hx hby d7_65 rfl rfl ?_
  exact own_retA X22 hx hlk hret rfl rfl (hb hby d7_66) (by decide) (by decide) (by rw [eq22]; exact ⟨b3, k3, ⟨rfl, N22, K21, sz_b3, R21⟩⟩)
theorem ef_enc_3_2_1 (m : MethodId) (x0 : Addr) (x1 : Addr) : entryFrame m #[(.ref x0), (.ref x1)] 4 = mkF m 0 #[.val (.ref x0), .val (.ref x1), .unset, .unset] [] := by first | (simp [entryFrame, mkF, argsToLocals, Value.category]; done) | rfl
def Q_enc_3_2_1 (Z : State) (a1 : Addr) (aS : Addr) (tA : Addr) (kA : ClassId) (y0 : Int32) (y1 : Int32) (y2 : Int32) (zCS : Int32) (fm : Value) (h0 : Heap) (n0 : Nat) (v : Option Value) (h : Heap) (L : List Loc) : Prop := ∃ tN : Addr, ∃ kN : ClassId, v = some (.ref tN) ∧ Fr n0 L ∧ Keep h0 h [] ∧ h0.size ≤ tN ∧ Arv Z h tN kN .byte (6 : Int32) [(.int (nar .byte ((own_lat y0).toInt8.toInt32))), (.int 0), (.int (nar .byte ((own_lat y1).toInt8.toInt32))), (.int 0), (.int (nar .byte ((own_lat y2).toInt8.toInt32))), (.int 0)] (.int 0)
theorem rm_enc_3_2_1 (l : Launch) (Z : State) (a0 : Array Value) (hw : HW a0 Z) (ws : List Jvm.Cond) (a1 : Addr) (aS : Addr) (tA : Addr) (kA : ClassId) (y0 : Int32) (y1 : Int32) (y2 : Int32) (zCS : Int32) (fm : Value) (h0 : Heap) (n0 : Nat) (Z0 : n0 ≤ h0.size) (O0 : Old Z n0 h0) (Fw : fk10 Z Z.heap a1 (.int 2)) (Fl : fk11 Z Z.heap a1 (.int 1)) (E_0 : ek12 Z h0 aS) (F0v : fk9 Z h0 aS (.ref tA)) (F0c : fk8 Z h0 aS (.int 0)) (R_A : Arv Z h0 tA kA .byte (3 : Int32) [(.int y0), (.int y1), (.int y2)] (.int 0)) (S_CS : sk0 Z Z.heap (.int zCS)) (P_CS : ¬ zCS = 0) (S_SF : sk1 Z Z.heap fm) (P_SF : fm.isRef = true) :
    M12 l ws (rmk 4 1 6 55) Z #[(.ref a1), (.ref aS)] h0 (Q_enc_3_2_1 Z a1 aS tA kA y0 y1 y2 zCS fm h0 n0) := by
  refine own_go "com/example/provenir/provenir/TextEncoding" rfl (plainFor_of_name pn_7) (fun m => ef_enc_3_2_1 m a1 aS) (fun p e s m below meth c s₁ hx hby hml hown hnm hlk hret hZ X0 e0 => ?_)
  have N0 := Fr.nil n0
  have K0 := Keep.refl h0 []
  show gs s₁ m 0 #[vr a1, vr aS, .unset, .unset] []
  refine oaloadN X0 hx hby d7_0 rfl rfl ?_
  refine oV 0 X0 hx hZ hby hml hown (own_w hw 39 rfl) (own_w hw 40 rfl) (own_w hw 42 rfl) (own_w hw 41 rfl) (rm_sLen_3 l Z a0 hw [] aS tA kA y0 y1 y2 zCS h0 n0 Z0 O0 E_0 F0v F0c R_A S_CS P_CS) (own_w hw 43 rfl) (own_w hw 7 rfl) e0 E_0 (by decide) own_pd9 d7_1 rfl rfl rfl (fun T1 L1 v1 X1 hQ1 => ?_)
  obtain ⟨rfl, Nq1, eq1⟩ := hQ1
  have N1 := Fr.app N0 Nq1
  show gs T1 m 4 #[vr a1, vr aS, .unset, .unset] [(.int 3)]
  refine oaloadN X1 hx hby d7_4 rfl rfl ?_
  obtain ⟨T2, X2, e2, st2⟩ := getF X1 hx hZ hown (host := "") (Or.inl (own_w hw 49 rfl)) Via.refl eq1 (Fld.ext O0.2 Fw) (g := (mkF m 5 #[vr a1, vr aS, .unset, .unset] [(.ref a1), (.int 3)])) rfl rfl (hb hby d7_5)
  refine own_st st2 ?_
  show gs T2 m 8 #[vr a1, vr aS, .unset, .unset] [(.int 2), (.int 3)]
  refine own_st (fun _ kS => XS.imul X2.here hx rfl (hb hby d7_8) rfl kS) ?_
  show gs T2 m 9 #[vr a1, vr aS, .unset, .unset] [(.int 6)]
  obtain ⟨T3, h3, k3, X3, e3, E3, A3, st3⟩ := newP X2 hx hZ (own_w hw 23 rfl) e2 (g := (mkF m 9 #[vr a1, vr aS, .unset, .unset] [(.int 6)])) rfl (hb hby d7_9) rfl (by decide) (cap := 6) (by decide) (by decide) (by decide) (by decide)
  obtain ⟨b3, g3⟩ : ∃ z, z = h0.size := ⟨_, rfl⟩
  have ne_aS_b3 : aS ≠ b3 := Nat.ne_of_lt (Nat.lt_of_lt_of_eq E_0.lt g3.symm)
  have ne_tA_b3 : tA ≠ b3 := Nat.ne_of_lt (Nat.lt_of_lt_of_eq R_A.lt g3.symm)
  have ge_b3 : n0 ≤ b3 := Nat.le_trans Z0 (Nat.le_of_eq g3.symm)
  have sz_b3 : h0.size ≤ b3 := Nat.le_trans K0.1 (Nat.le_of_eq g3.symm)
  rw [← g3] at A3 st3
  have K3 := K0.ext E3
  have O3 := O0.ext E3
  have R3 : Arv Z h3 b3 k3 .byte (6 : Int32) [(.int 0), (.int 0), (.int 0), (.int 0), (.int 0), (.int 0)] (.int 0) := (Arv.new A3 (by decide)).pad (pad_rep [] (.int 0) 6)
  refine own_st st3 ?_
  show gs T3 m 11 #[vr a1, vr aS, .unset, .unset] [(.ref b3)]
  refine own_st (fun _ kS => XS.astoreN X3.here hx rfl (hb hby d7_11) rfl rfl (l' := #[vr a1, vr aS, vr b3, .unset]) rfl kS) ?_
  refine oiconst X3 hx hby d7_12 ?_
  refine own_st (fun _ kS => XS.istoreN X3.here hx rfl (hb hby d7_13) rfl (l' := #[vr a1, vr aS, vr b3, vi 0]) rfl kS) ?_
  refine oiloadN X3 hx hby d7_14 rfl ?_
  refine oaloadN X3 hx hby d7_15 rfl rfl ?_
  refine oV 1 X3 hx hZ hby hml hown (own_w hw 39 rfl) (own_w hw 40 rfl) (own_w hw 42 rfl) (own_w hw 41 rfl) (rm_sLen_3 l Z a0 hw [] aS tA kA y0 y1 y2 zCS h3 n0 (Nat.le_trans Z0 E3.1) O3 (Exa.ext E3 E_0) (Fld.ext E3 F0v) (Fld.ext E3 F0c) (Arv.ext R_A E3) S_CS P_CS) (own_w hw 43 rfl) (own_w hw 7 rfl) e3 (Exa.ext E3 E_0) (by decide) own_pd9 d7_16 rfl rfl rfl (fun T4 L4 v4 X4 hQ4 => ?_)
  obtain ⟨rfl, Nq4, eq4⟩ := hQ4
  have N4 := Fr.app N1 Nq4
  show gs T4 m 19 #[vr a1, vr aS, vr b3, vi 0] [(.int 3), (.int 0)]
  refine own_st (fun _ kS => XS.icmpNo X4.here hx rfl (hb hby d7_19) rfl (tlt (by decide : (0 : Int32) < (3 : Int32))).2.1 kS) ?_
  show gs T4 m 22 #[vr a1, vr aS, vr b3, vi 0] []
  refine oaloadN X4 hx hby d7_22 rfl rfl ?_
  refine oaloadN X4 hx hby d7_23 rfl rfl ?_
  obtain ⟨T5, X5, e5, st5⟩ := getF X4 hx hZ hown (host := "") (Or.inl (own_w hw 51 rfl)) Via.refl eq4 (Fld.ext O3.2 Fl) (g := (mkF m 24 #[vr a1, vr aS, vr b3, vi 0] [(.ref a1), (.ref b3)])) rfl rfl (hb hby d7_24)
  refine own_st st5 ?_
  show gs T5 m 27 #[vr a1, vr aS, vr b3, vi 0] [(.int 1), (.ref b3)]
  refine own_st (fun _ kS => XS.ifNo X5.here hx rfl (hb hby d7_27) rfl ((if0 _ _).trans (feq (by decide : ¬ ((1 : Int32) = (0 : Int32)))).1) kS) ?_
  show gs T5 m 30 #[vr a1, vr aS, vr b3, vi 0] [(.ref b3)]
  refine oiloadN X5 hx hby d7_30 rfl ?_
  refine oaloadN X5 hx hby d7_31 rfl rfl ?_
  obtain ⟨T6, X6, e6, st6⟩ := getF X5 hx hZ hown (host := "") (Or.inl (own_w hw 49 rfl)) Via.refl e5 (Fld.ext O3.2 Fw) (g := (mkF m 32 #[vr a1, vr aS, vr b3, vi 0] [(.ref a1), (.int 0), (.ref b3)])) rfl rfl (hb hby d7_32)
  refine own_st st6 ?_
  show gs T6 m 35 #[vr a1, vr aS, vr b3, vi 0] [(.int 2), (.int 0), (.ref b3)]
  refine own_st (fun _ kS => XS.imul X6.here hx rfl (hb hby d7_35) rfl kS) ?_
  refine own_st (fun _ kS => XS.goto X6.here hx rfl (pc0 := 36) (pc' := 52) rfl (hb hby d7_36) (by decide) (by decide) kS) ?_
  refine oaloadN X6 hx hby d7_52 rfl rfl ?_
  refine oiloadN X6 hx hby d7_53 rfl ?_
  refine oV 2 X6 hx hZ hby hml hown (own_w hw 53 rfl) (own_w hw 54 rfl) (own_w hw 56 rfl) (own_w hw 55 rfl) (rm_chAt_3_0 l Z a0 hw [] aS tA kA y0 y1 y2 zCS fm h3 n0 (Nat.le_trans Z0 E3.1) O3 (Exa.ext E3 E_0) (Fld.ext E3 F0v) (Fld.ext E3 F0c) (Arv.ext R_A E3) S_CS P_CS S_SF P_SF) (own_w hw 57 rfl) (own_w hw 7 rfl) e6 (Exa.ext E3 E_0) (by decide) own_pd10 d7_54 rfl rfl rfl (fun T7 L7 v7 X7 hQ7 => ?_)
  obtain ⟨rfl, Nq7, eq7⟩ := hQ7
  have N7 := Fr.app N4 Nq7
  show gs T7 m 57 #[vr a1, vr aS, vr b3, vi 0] [(.int (own_lat y0)), (.int 0), (.ref b3)]
  refine own_st (fun _ kS => XT.i2b X7.here hx rfl (hb hby d7_57) rfl kS) ?_
  show gs T7 m 58 #[vr a1, vr aS, vr b3, vi 0] [(.int ((own_lat y0).toInt8.toInt32)), (.int 0), (.ref b3)]
  obtain ⟨cl8, Ar8, qa8, qs8, qn8, qh8, qg8⟩ := id R3
  obtain ⟨T8, h8, X8, e8, W8, st8⟩ := stB X7 hx hZ eq7 Ar8 (j := (0 : Int32)) (inb_of qs8 ⟨by decide, by decide⟩) (g := (mkF m 58 #[vr a1, vr aS, vr b3, vi 0] [(.int ((own_lat y0).toInt8.toInt32)), (.int 0), (.ref b3)])) rfl rfl (hb hby d7_58)
  have N8 := Fr.snoc X8 N7 ge_b3
  have K8 := K3.wr W8 (Or.inr sz_b3)
  have O8 := O3.wr W8 ge_b3
  have R8 : Arv Z h8 b3 k3 .byte (6 : Int32) [(.int (nar .byte ((own_lat y0).toInt8.toInt32))), (.int 0), (.int 0), (.int 0), (.int 0), (.int 0)] (.int 0) := Arv.set Ar8 qa8 qs8 qn8 qh8 qg8 (fits_nar_byte _) W8 0 rfl (Nat.le_of_ble_eq_true rfl)
  refine own_st st8 ?_
  show gs T8 m 59 #[vr a1, vr aS, vr b3, vi 0] []
  refine own_st (fun _ kS => XS.iinc X8.here hx rfl (hb hby d7_59) rfl (l' := #[vr a1, vr aS, vr b3, vi 1]) rfl kS) ?_
  refine own_st (fun _ kS => XS.goto X8.here hx rfl (pc0 := 62) (pc' := 14) rfl (hb hby d7_62) (by decide) (by decide) kS) ?_
  refine oiloadN X8 hx hby d7_14 rfl ?_
  refine oaloadN X8 hx hby d7_15 rfl rfl ?_
  refine oV 1 X8 hx hZ hby hml hown (own_w hw 39 rfl) (own_w hw 40 rfl) (own_w hw 42 rfl) (own_w hw 41 rfl) (rm_sLen_3 l Z a0 hw [] aS tA kA y0 y1 y2 zCS h8 n0 (Nat.le_trans (Nat.le_trans Z0 E3.1) (Keep.of_wr W8).1) O8 (Exa.wr W8 (Exa.ext E3 E_0)) (Fld.other W8 (Fld.ext E3 F0v) (Or.inl ne_aS_b3)) (Fld.other W8 (Fld.ext E3 F0c) (Or.inl ne_aS_b3)) ((Arv.ext R_A E3).other W8 ne_tA_b3) S_CS P_CS) (own_w hw 43 rfl) (own_w hw 7 rfl) e8 (Exa.wr W8 (Exa.ext E3 E_0)) (by decide) own_pd9 d7_16 rfl rfl rfl (fun T9 L9 v9 X9 hQ9 => ?_)
  obtain ⟨rfl, Nq9, eq9⟩ := hQ9
  have N9 := Fr.app N8 Nq9
  show gs T9 m 19 #[vr a1, vr aS, vr b3, vi 1] [(.int 3), (.int 1)]
  refine own_st (fun _ kS => XS.icmpNo X9.here hx rfl (hb hby d7_19) rfl (tlt (by decide : (1 : Int32) < (3 : Int32))).2.1 kS) ?_
  show gs T9 m 22 #[vr a1, vr aS, vr b3, vi 1] []
  refine oaloadN X9 hx hby d7_22 rfl rfl ?_
  refine oaloadN X9 hx hby d7_23 rfl rfl ?_
  obtain ⟨T10, X10, e10, st10⟩ := getF X9 hx hZ hown (host := "") (Or.inl (own_w hw 51 rfl)) Via.refl eq9 (Fld.ext O8.2 Fl) (g := (mkF m 24 #[vr a1, vr aS, vr b3, vi 1] [(.ref a1), (.ref b3)])) rfl rfl (hb hby d7_24)
  refine own_st st10 ?_
  show gs T10 m 27 #[vr a1, vr aS, vr b3, vi 1] [(.int 1), (.ref b3)]
  refine own_st (fun _ kS => XS.ifNo X10.here hx rfl (hb hby d7_27) rfl ((if0 _ _).trans (feq (by decide : ¬ ((1 : Int32) = (0 : Int32)))).1) kS) ?_
  show gs T10 m 30 #[vr a1, vr aS, vr b3, vi 1] [(.ref b3)]
  refine oiloadN X10 hx hby d7_30 rfl ?_
  refine oaloadN X10 hx hby d7_31 rfl rfl ?_
  obtain ⟨T11, X11, e11, st11⟩ := getF X10 hx hZ hown (host := "") (Or.inl (own_w hw 49 rfl)) Via.refl e10 (Fld.ext O8.2 Fw) (g := (mkF m 32 #[vr a1, vr aS, vr b3, vi 1] [(.ref a1), (.int 1), (.ref b3)])) rfl rfl (hb hby d7_32)
  refine own_st st11 ?_
  show gs T11 m 35 #[vr a1, vr aS, vr b3, vi 1] [(.int 2), (.int 1), (.ref b3)]
  refine own_st (fun _ kS => XS.imul X11.here hx rfl (hb hby d7_35) rfl kS) ?_
  refine own_st (fun _ kS => XS.goto X11.here hx rfl (pc0 := 36) (pc' := 52) rfl (hb hby d7_36) (by decide) (by decide) kS) ?_
  refine oaloadN X11 hx hby d7_52 rfl rfl ?_
  refine oiloadN X11 hx hby d7_53 rfl ?_
  refine oV 2 X11 hx hZ hby hml hown (own_w hw 53 rfl) (own_w hw 54 rfl) (own_w hw 56 rfl) (own_w hw 55 rfl) (rm_chAt_3_1 l Z a0 hw [] aS tA kA y0 y1 y2 zCS fm h8 n0 (Nat.le_trans (Nat.le_trans Z0 E3.1) (Keep.of_wr W8).1) O8 (Exa.wr W8 (Exa.ext E3 E_0)) (Fld.other W8 (Fld.ext E3 F0v) (Or.inl ne_aS_b3)) (Fld.other W8 (Fld.ext E3 F0c) (Or.inl ne_aS_b3)) ((Arv.ext R_A E3).other W8 ne_tA_b3) S_CS P_CS S_SF P_SF) (own_w hw 57 rfl) (own_w hw 7 rfl) e11 (Exa.wr W8 (Exa.ext E3 E_0)) (by decide) own_pd10 d7_54 rfl rfl rfl (fun T12 L12 v12 X12 hQ12 => ?_)
  obtain ⟨rfl, Nq12, eq12⟩ := hQ12
  have N12 := Fr.app N9 Nq12
  show gs T12 m 57 #[vr a1, vr aS, vr b3, vi 1] [(.int (own_lat y1)), (.int 2), (.ref b3)]
  refine own_st (fun _ kS => XT.i2b X12.here hx rfl (hb hby d7_57) rfl kS) ?_
  show gs T12 m 58 #[vr a1, vr aS, vr b3, vi 1] [(.int ((own_lat y1).toInt8.toInt32)), (.int 2), (.ref b3)]
  obtain ⟨cl13, Ar13, qa13, qs13, qn13, qh13, qg13⟩ := id R8
  obtain ⟨T13, h13, X13, e13, W13, st13⟩ := stB X12 hx hZ eq12 Ar13 (j := (2 : Int32)) (inb_of qs13 ⟨by decide, by decide⟩) (g := (mkF m 58 #[vr a1, vr aS, vr b3, vi 1] [(.int ((own_lat y1).toInt8.toInt32)), (.int 2), (.ref b3)])) rfl rfl (hb hby d7_58)
  have N13 := Fr.snoc X13 N12 ge_b3
  have K13 := K8.wr W13 (Or.inr sz_b3)
  have O13 := O8.wr W13 ge_b3
  have R13 : Arv Z h13 b3 k3 .byte (6 : Int32) [(.int (nar .byte ((own_lat y0).toInt8.toInt32))), (.int 0), (.int (nar .byte ((own_lat y1).toInt8.toInt32))), (.int 0), (.int 0), (.int 0)] (.int 0) := Arv.set Ar13 qa13 qs13 qn13 qh13 qg13 (fits_nar_byte _) W13 2 rfl (Nat.le_of_ble_eq_true rfl)
  refine own_st st13 ?_
  show gs T13 m 59 #[vr a1, vr aS, vr b3, vi 1] []
  refine own_st (fun _ kS => XS.iinc X13.here hx rfl (hb hby d7_59) rfl (l' := #[vr a1, vr aS, vr b3, vi 2]) rfl kS) ?_
  refine own_st (fun _ kS => XS.goto X13.here hx rfl (pc0 := 62) (pc' := 14) rfl (hb hby d7_62) (by decide) (by decide) kS) ?_
  refine oiloadN X13 hx hby d7_14 rfl ?_
  refine oaloadN X13 hx hby d7_15 rfl rfl ?_
  refine oV 1 X13 hx hZ hby hml hown (own_w hw 39 rfl) (own_w hw 40 rfl) (own_w hw 42 rfl) (own_w hw 41 rfl) (rm_sLen_3 l Z a0 hw [] aS tA kA y0 y1 y2 zCS h13 n0 (Nat.le_trans (Nat.le_trans (Nat.le_trans Z0 E3.1) (Keep.of_wr W8).1) (Keep.of_wr W13).1) O13 (Exa.wr W13 (Exa.wr W8 (Exa.ext E3 E_0))) (Fld.other W13 (Fld.other W8 (Fld.ext E3 F0v) (Or.inl ne_aS_b3)) (Or.inl ne_aS_b3)) (Fld.other W13 (Fld.other W8 (Fld.ext E3 F0c) (Or.inl ne_aS_b3)) (Or.inl ne_aS_b3)) (((Arv.ext R_A E3).other W8 ne_tA_b3).other W13 ne_tA_b3) S_CS P_CS) (own_w hw 43 rfl) (own_w hw 7 rfl) e13 (Exa.wr W13 (Exa.wr W8 (Exa.ext E3 E_0))) (by decide) own_pd9 d7_16 rfl rfl rfl (fun T14 L14 v14 X14 hQ14 => ?_)
  obtain ⟨rfl, Nq14, eq14⟩ := hQ14
  have N14 := Fr.app N13 Nq14
  show gs T14 m 19 #[vr a1, vr aS, vr b3, vi 2] [(.int 3), (.int 2)]
  refine own_st (fun _ kS => XS.icmpNo X14.here hx rfl (hb hby d7_19) rfl (tlt (by decide : (2 : Int32) < (3 : Int32))).2.1 kS) ?_
  show gs T14 m 22 #[vr a1, vr aS, vr b3, vi 2] []
  refine oaloadN X14 hx hby d7_22 rfl rfl ?_
  refine oaloadN X14 hx hby d7_23 rfl rfl ?_
  obtain ⟨T15, X15, e15, st15⟩ := getF X14 hx hZ hown (host := "") (Or.inl (own_w hw 51 rfl)) Via.refl eq14 (Fld.ext O13.2 Fl) (g := (mkF m 24 #[vr a1, vr aS, vr b3, vi 2] [(.ref a1), (.ref b3)])) rfl rfl (hb hby d7_24)
  refine own_st st15 ?_
  show gs T15 m 27 #[vr a1, vr aS, vr b3, vi 2] [(.int 1), (.ref b3)]
  refine own_st (fun _ kS => XS.ifNo X15.here hx rfl (hb hby d7_27) rfl ((if0 _ _).trans (feq (by decide : ¬ ((1 : Int32) = (0 : Int32)))).1) kS) ?_
  show gs T15 m 30 #[vr a1, vr aS, vr b3, vi 2] [(.ref b3)]
  refine oiloadN X15 hx hby d7_30 rfl ?_
  refine oaloadN X15 hx hby d7_31 rfl rfl ?_
  obtain ⟨T16, X16, e16, st16⟩ := getF X15 hx hZ hown (host := "") (Or.inl (own_w hw 49 rfl)) Via.refl e15 (Fld.ext O13.2 Fw) (g := (mkF m 32 #[vr a1, vr aS, vr b3, vi 2] [(.ref a1), (.int 2), (.ref b3)])) rfl rfl (hb hby d7_32)
  refine own_st st16 ?_
  show gs T16 m 35 #[vr a1, vr aS, vr b3, vi 2] [(.int 2), (.int 2), (.ref b3)]
  refine own_st (fun _ kS => XS.imul X16.here hx rfl (hb hby d7_35) rfl kS) ?_
  refine own_st (fun _ kS => XS.goto X16.here hx rfl (pc0 := 36) (pc' := 52) rfl (hb hby d7_36) (by decide) (by decide) kS) ?_
  refine oaloadN X16 hx hby d7_52 rfl rfl ?_
  refine oiloadN X16 hx hby d7_53 rfl ?_
  refine oV 2 X16 hx hZ hby hml hown (own_w hw 53 rfl) (own_w hw 54 rfl) (own_w hw 56 rfl) (own_w hw 55 rfl) (rm_chAt_3_2 l Z a0 hw [] aS tA kA y0 y1 y2 zCS fm h13 n0 (Nat.le_trans (Nat.le_trans (Nat.le_trans Z0 E3.1) (Keep.of_wr W8).1) (Keep.of_wr W13).1) O13 (Exa.wr W13 (Exa.wr W8 (Exa.ext E3 E_0))) (Fld.other W13 (Fld.other W8 (Fld.ext E3 F0v) (Or.inl ne_aS_b3)) (Or.inl ne_aS_b3)) (Fld.other W13 (Fld.other W8 (Fld.ext E3 F0c) (Or.inl ne_aS_b3)) (Or.inl ne_aS_b3)) (((Arv.ext R_A E3).other W8 ne_tA_b3).other W13 ne_tA_b3) S_CS P_CS S_SF P_SF) (own_w hw 57 rfl) (own_w hw 7 rfl) e16 (Exa.wr W13 (Exa.wr W8 (Exa.ext E3 E_0))) (by decide) own_pd10 d7_54 rfl rfl rfl (fun T17 L17 v17 X17 hQ17 => ?_)
  obtain ⟨rfl, Nq17, eq17⟩ := hQ17
  have N17 := Fr.app N14 Nq17
  show gs T17 m 57 #[vr a1, vr aS, vr b3, vi 2] [(.int (own_lat y2)), (.int 4), (.ref b3)]
  refine own_st (fun _ kS => XT.i2b X17.here hx rfl (hb hby d7_57) rfl kS) ?_
  show gs T17 m 58 #[vr a1, vr aS, vr b3, vi 2] [(.int ((own_lat y2).toInt8.toInt32)), (.int 4), (.ref b3)]
  obtain ⟨cl18, Ar18, qa18, qs18, qn18, qh18, qg18⟩ := id R13
  obtain ⟨T18, h18, X18, e18, W18, st18⟩ := stB X17 hx hZ eq17 Ar18 (j := (4 : Int32)) (inb_of qs18 ⟨by decide, by decide⟩) (g := (mkF m 58 #[vr a1, vr aS, vr b3, vi 2] [(.int ((own_lat y2).toInt8.toInt32)), (.int 4), (.ref b3)])) rfl rfl (hb hby d7_58)
  have N18 := Fr.snoc X18 N17 ge_b3
  have K18 := K13.wr W18 (Or.inr sz_b3)
  have O18 := O13.wr W18 ge_b3
  have R18 : Arv Z h18 b3 k3 .byte (6 : Int32) [(.int (nar .byte ((own_lat y0).toInt8.toInt32))), (.int 0), (.int (nar .byte ((own_lat y1).toInt8.toInt32))), (.int 0), (.int (nar .byte ((own_lat y2).toInt8.toInt32))), (.int 0)] (.int 0) := Arv.set Ar18 qa18 qs18 qn18 qh18 qg18 (fits_nar_byte _) W18 4 rfl (Nat.le_of_ble_eq_true rfl)
  refine own_st st18 ?_
  show gs T18 m 59 #[vr a1, vr aS, vr b3, vi 2] []
  refine own_st (fun _ kS => XS.iinc X18.here hx rfl (hb hby d7_59) rfl (l' := #[vr a1, vr aS, vr b3, vi 3]) rfl kS) ?_
  refine own_st (fun _ kS => XS.goto X18.here hx rfl (pc0 := 62) (pc' := 14) rfl (hb hby d7_62) (by decide) (by decide) kS) ?_
  refine oiloadN X18 hx hby d7_14 rfl ?_
  refine oaloadN X18 hx hby d7_15 rfl rfl ?_
  refine oV 1 X18 hx hZ hby hml hown (own_w hw 39 rfl) (own_w hw 40 rfl) (own_w hw 42 rfl) (own_w hw 41 rfl) (rm_sLen_3 l Z a0 hw [] aS tA kA y0 y1 y2 zCS h18 n0 (Nat.le_trans (Nat.le_trans (Nat.le_trans (Nat.le_trans Z0 E3.1) (Keep.of_wr W8).1) (Keep.of_wr W13).1) (Keep.of_wr W18).1) O18 (Exa.wr W18 (Exa.wr W13 (Exa.wr W8 (Exa.ext E3 E_0)))) (Fld.other W18 (Fld.other W13 (Fld.other W8 (Fld.ext E3 F0v) (Or.inl ne_aS_b3)) (Or.inl ne_aS_b3)) (Or.inl ne_aS_b3)) (Fld.other W18 (Fld.other W13 (Fld.other W8 (Fld.ext E3 F0c) (Or.inl ne_aS_b3)) (Or.inl ne_aS_b3)) (Or.inl ne_aS_b3)) ((((Arv.ext R_A E3).other W8 ne_tA_b3).other W13 ne_tA_b3).other W18 ne_tA_b3) S_CS P_CS) (own_w hw 43 rfl) (own_w hw 7 rfl) e18 (Exa.wr W18 (Exa.wr W13 (Exa.wr W8 (Exa.ext E3 E_0)))) (by decide) own_pd9 d7_16 rfl rfl rfl (fun T19 L19 v19 X19 hQ19 => ?_)
  obtain ⟨rfl, Nq19, eq19⟩ := hQ19
  have N19 := Fr.app N18 Nq19
  show gs T19 m 19 #[vr a1, vr aS, vr b3, vi 3] [(.int 3), (.int 3)]
  refine own_st (fun _ kS => XS.icmpYes X19.here hx rfl (pc0 := 19) (pc' := 65) rfl (hb hby d7_19) rfl (flt (by decide : ¬ ((3 : Int32) < (3 : Int32)))).2.1 (by decide) (by decide) kS) ?_
  show gs T19 m 65 #[vr a1, vr aS, vr b3, vi 3] []
  refine oaloadN X19 hx hby d7_65 rfl rfl ?_
  exact own_retA X19 hx hlk hret rfl rfl (hb hby d7_66) (by decide) (by decide) (by rw [eq19]; exact ⟨b3, k3, ⟨rfl, N19, K18, sz_b3, R18⟩⟩)
theorem ef_enc_4_1_0 (m : MethodId) (x0 : Addr) (x1 : Addr) : entryFrame m #[(.ref x0), (.ref x1)] 4 = mkF m 0 #[.val (.ref x0), .val (.ref x1), .unset, .unset] [] := by first | (simp [entryFrame, mkF, argsToLocals, Value.category]; done) | rfl
def Q_enc_4_1_0 (Z : State) (a1 : Addr) (aS : Addr) (tA : Addr) (kA : ClassId) (y0 : Int32) (y1 : Int32) (y2 : Int32) (y3 : Int32) (zCS : Int32) (fm : Value) (h0 : Heap) (n0 : Nat) (v : Option Value) (h : Heap) (L : List Loc) : Prop := ∃ tN : Addr, ∃ kN : ClassId, v = some (.ref tN) ∧ Fr n0 L ∧ Keep h0 h [] ∧ h0.size ≤ tN ∧ Arv Z h tN kN .byte (4 : Int32) [(.int (nar .byte ((own_lat y0).toInt8.toInt32))), (.int (nar .byte ((own_lat y1).toInt8.toInt32))), (.int (nar .byte ((own_lat y2).toInt8.toInt32))), (.int (nar .byte ((own_lat y3).toInt8.toInt32)))] (.int 0)
theorem rm_enc_4_1_0 (l : Launch) (Z : State) (a0 : Array Value) (hw : HW a0 Z) (ws : List Jvm.Cond) (a1 : Addr) (aS : Addr) (tA : Addr) (kA : ClassId) (y0 : Int32) (y1 : Int32) (y2 : Int32) (y3 : Int32) (zCS : Int32) (fm : Value) (h0 : Heap) (n0 : Nat) (Z0 : n0 ≤ h0.size) (O0 : Old Z n0 h0) (Fw : fk10 Z Z.heap a1 (.int 1)) (Fl : fk11 Z Z.heap a1 (.int 0)) (E_0 : ek12 Z h0 aS) (F0v : fk9 Z h0 aS (.ref tA)) (F0c : fk8 Z h0 aS (.int 0)) (R_A : Arv Z h0 tA kA .byte (4 : Int32) [(.int y0), (.int y1), (.int y2), (.int y3)] (.int 0)) (S_CS : sk0 Z Z.heap (.int zCS)) (P_CS : ¬ zCS = 0) (S_SF : sk1 Z Z.heap fm) (P_SF : fm.isRef = true) :
    M12 l ws (rmk 4 1 4 55) Z #[(.ref a1), (.ref aS)] h0 (Q_enc_4_1_0 Z a1 aS tA kA y0 y1 y2 y3 zCS fm h0 n0) := by
  refine own_go "com/example/provenir/provenir/TextEncoding" rfl (plainFor_of_name pn_7) (fun m => ef_enc_4_1_0 m a1 aS) (fun p e s m below meth c s₁ hx hby hml hown hnm hlk hret hZ X0 e0 => ?_)
  have N0 := Fr.nil n0
  have K0 := Keep.refl h0 []
  show gs s₁ m 0 #[vr a1, vr aS, .unset, .unset] []
  refine oaloadN X0 hx hby d7_0 rfl rfl ?_
  refine oV 0 X0 hx hZ hby hml hown (own_w hw 39 rfl) (own_w hw 40 rfl) (own_w hw 42 rfl) (own_w hw 41 rfl) (rm_sLen_4 l Z a0 hw [] aS tA kA y0 y1 y2 y3 zCS h0 n0 Z0 O0 E_0 F0v F0c R_A S_CS P_CS) (own_w hw 43 rfl) (own_w hw 7 rfl) e0 E_0 (by decide) own_pd9 d7_1 rfl rfl rfl (fun T1 L1 v1 X1 hQ1 => ?_)
  obtain ⟨rfl, Nq1, eq1⟩ := hQ1
  have N1 := Fr.app N0 Nq1
  show gs T1 m 4 #[vr a1, vr aS, .unset, .unset] [(.int 4)]
  refine oaloadN X1 hx hby d7_4 rfl rfl ?_
  obtain ⟨T2, X2, e2, st2⟩ := getF X1 hx hZ hown (host := "") (Or.inl (own_w hw 49 rfl)) Via.refl eq1 (Fld.ext O0.2 Fw) (g := (mkF m 5 #[vr a1, vr aS, .unset, .unset] [(.ref a1), (.int 4)])) rfl rfl (hb hby d7_5)
  refine own_st st2 ?_
  show gs T2 m 8 #[vr a1, vr aS, .unset, .unset] [(.int 1), (.int 4)]
  refine own_st (fun _ kS => XS.imul X2.here hx rfl (hb hby d7_8) rfl kS) ?_
  show gs T2 m 9 #[vr a1, vr aS, .unset, .unset] [(.int 4)]
  obtain ⟨T3, h3, k3, X3, e3, E3, A3, st3⟩ := newP X2 hx hZ (own_w hw 23 rfl) e2 (g := (mkF m 9 #[vr a1, vr aS, .unset, .unset] [(.int 4)])) rfl (hb hby d7_9) rfl (by decide) (cap := 4) (by decide) (by decide) (by decide) (by decide)
  obtain ⟨b3, g3⟩ : ∃ z, z = h0.size := ⟨_, rfl⟩
  have ne_aS_b3 : aS ≠ b3 := Nat.ne_of_lt (Nat.lt_of_lt_of_eq E_0.lt g3.symm)
  have ne_tA_b3 : tA ≠ b3 := Nat.ne_of_lt (Nat.lt_of_lt_of_eq R_A.lt g3.symm)
  have ge_b3 : n0 ≤ b3 := Nat.le_trans Z0 (Nat.le_of_eq g3.symm)
  have sz_b3 : h0.size ≤ b3 := Nat.le_trans K0.1 (Nat.le_of_eq g3.symm)
  rw [← g3] at A3 st3
  have K3 := K0.ext E3
  have O3 := O0.ext E3
  have R3 : Arv Z h3 b3 k3 .byte (4 : Int32) [(.int 0), (.int 0), (.int 0), (.int 0)] (.int 0) := (Arv.new A3 (by decide)).pad (pad_rep [] (.int 0) 4)
  refine own_st st3 ?_
  show gs T3 m 11 #[vr a1, vr aS, .unset, .unset] [(.ref b3)]
  refine own_st (fun _ kS => XS.astoreN X3.here hx rfl (hb hby d7_11) rfl rfl (l' := #[vr a1, vr aS, vr b3, .unset]) rfl kS) ?_
  refine oiconst X3 hx hby d7_12 ?_
  refine own_st (fun _ kS => XS.istoreN X3.here hx rfl (hb hby d7_13) rfl (l' := #[vr a1, vr aS, vr b3, vi 0]) rfl kS) ?_
  refine oiloadN X3 hx hby d7_14 rfl ?_
  refine oaloadN X3 hx hby d7_15 rfl rfl ?_
  refine oV 1 X3 hx hZ hby hml hown (own_w hw 39 rfl) (own_w hw 40 rfl) (own_w hw 42 rfl) (own_w hw 41 rfl) (rm_sLen_4 l Z a0 hw [] aS tA kA y0 y1 y2 y3 zCS h3 n0 (Nat.le_trans Z0 E3.1) O3 (Exa.ext E3 E_0) (Fld.ext E3 F0v) (Fld.ext E3 F0c) (Arv.ext R_A E3) S_CS P_CS) (own_w hw 43 rfl) (own_w hw 7 rfl) e3 (Exa.ext E3 E_0) (by decide) own_pd9 d7_16 rfl rfl rfl (fun T4 L4 v4 X4 hQ4 => ?_)
  obtain ⟨rfl, Nq4, eq4⟩ := hQ4
  have N4 := Fr.app N1 Nq4
  show gs T4 m 19 #[vr a1, vr aS, vr b3, vi 0] [(.int 4), (.int 0)]
  refine own_st (fun _ kS => XS.icmpNo X4.here hx rfl (hb hby d7_19) rfl (tlt (by decide : (0 : Int32) < (4 : Int32))).2.1 kS) ?_
  show gs T4 m 22 #[vr a1, vr aS, vr b3, vi 0] []
  refine oaloadN X4 hx hby d7_22 rfl rfl ?_
  refine oaloadN X4 hx hby d7_23 rfl rfl ?_
  obtain ⟨T5, X5, e5, st5⟩ := getF X4 hx hZ hown (host := "") (Or.inl (own_w hw 51 rfl)) Via.refl eq4 (Fld.ext O3.2 Fl) (g := (mkF m 24 #[vr a1, vr aS, vr b3, vi 0] [(.ref a1), (.ref b3)])) rfl rfl (hb hby d7_24)
  refine own_st st5 ?_
  show gs T5 m 27 #[vr a1, vr aS, vr b3, vi 0] [(.int 0), (.ref b3)]
  refine own_st (fun _ kS => XS.ifYes X5.here hx rfl (pc0 := 27) (pc' := 39) rfl (hb hby d7_27) rfl ((if0 _ _).trans (teq (by decide : (0 : Int32) = (0 : Int32))).1) (by decide) (by decide) kS) ?_
  show gs T5 m 39 #[vr a1, vr aS, vr b3, vi 0] [(.ref b3)]
  refine oiloadN X5 hx hby d7_39 rfl ?_
  refine oaloadN X5 hx hby d7_40 rfl rfl ?_
  obtain ⟨T6, X6, e6, st6⟩ := getF X5 hx hZ hown (host := "") (Or.inl (own_w hw 49 rfl)) Via.refl e5 (Fld.ext O3.2 Fw) (g := (mkF m 41 #[vr a1, vr aS, vr b3, vi 0] [(.ref a1), (.int 0), (.ref b3)])) rfl rfl (hb hby d7_41)
  refine own_st st6 ?_
  show gs T6 m 44 #[vr a1, vr aS, vr b3, vi 0] [(.int 1), (.int 0), (.ref b3)]
  refine own_st (fun _ kS => XS.imul X6.here hx rfl (hb hby d7_44) rfl kS) ?_
  refine oaloadN X6 hx hby d7_45 rfl rfl ?_
  obtain ⟨T7, X7, e7, st7⟩ := getF X6 hx hZ hown (host := "") (Or.inl (own_w hw 49 rfl)) Via.refl e6 (Fld.ext O3.2 Fw) (g := (mkF m 46 #[vr a1, vr aS, vr b3, vi 0] [(.ref a1), (.int 0), (.ref b3)])) rfl rfl (hb hby d7_46)
  refine own_st st7 ?_
  show gs T7 m 49 #[vr a1, vr aS, vr b3, vi 0] [(.int 1), (.int 0), (.ref b3)]
  refine own_st (fun _ kS => XS.iadd X7.here hx rfl (hb hby d7_49) rfl kS) ?_
  refine oiconst X7 hx hby d7_50 ?_
  refine own_st (fun _ kS => XS.isub X7.here hx rfl (hb hby d7_51) rfl kS) ?_
  refine oaloadN X7 hx hby d7_52 rfl rfl ?_
  refine oiloadN X7 hx hby d7_53 rfl ?_
  refine oV 2 X7 hx hZ hby hml hown (own_w hw 53 rfl) (own_w hw 54 rfl) (own_w hw 56 rfl) (own_w hw 55 rfl) (rm_chAt_4_0 l Z a0 hw [] aS tA kA y0 y1 y2 y3 zCS fm h3 n0 (Nat.le_trans Z0 E3.1) O3 (Exa.ext E3 E_0) (Fld.ext E3 F0v) (Fld.ext E3 F0c) (Arv.ext R_A E3) S_CS P_CS S_SF P_SF) (own_w hw 57 rfl) (own_w hw 7 rfl) e7 (Exa.ext E3 E_0) (by decide) own_pd10 d7_54 rfl rfl rfl (fun T8 L8 v8 X8 hQ8 => ?_)
  obtain ⟨rfl, Nq8, eq8⟩ := hQ8
  have N8 := Fr.app N4 Nq8
  show gs T8 m 57 #[vr a1, vr aS, vr b3, vi 0] [(.int (own_lat y0)), (.int 0), (.ref b3)]
  refine own_st (fun _ kS => XT.i2b X8.here hx rfl (hb hby d7_57) rfl kS) ?_
  show gs T8 m 58 #[vr a1, vr aS, vr b3, vi 0] [(.int ((own_lat y0).toInt8.toInt32)), (.int 0), (.ref b3)]
  obtain ⟨cl9, Ar9, qa9, qs9, qn9, qh9, qg9⟩ := id R3
  obtain ⟨T9, h9, X9, e9, W9, st9⟩ := stB X8 hx hZ eq8 Ar9 (j := (0 : Int32)) (inb_of qs9 ⟨by decide, by decide⟩) (g := (mkF m 58 #[vr a1, vr aS, vr b3, vi 0] [(.int ((own_lat y0).toInt8.toInt32)), (.int 0), (.ref b3)])) rfl rfl (hb hby d7_58)
  have N9 := Fr.snoc X9 N8 ge_b3
  have K9 := K3.wr W9 (Or.inr sz_b3)
  have O9 := O3.wr W9 ge_b3
  have R9 : Arv Z h9 b3 k3 .byte (4 : Int32) [(.int (nar .byte ((own_lat y0).toInt8.toInt32))), (.int 0), (.int 0), (.int 0)] (.int 0) := Arv.set Ar9 qa9 qs9 qn9 qh9 qg9 (fits_nar_byte _) W9 0 rfl (Nat.le_of_ble_eq_true rfl)
  refine own_st st9 ?_
  show gs T9 m 59 #[vr a1, vr aS, vr b3, vi 0] []
  refine own_st (fun _ kS => XS.iinc X9.here hx rfl (hb hby d7_59) rfl (l' := #[vr a1, vr aS, vr b3, vi 1]) rfl kS) ?_
  refine own_st (fun _ kS => XS.goto X9.here hx rfl (pc0 := 62) (pc' := 14) rfl (hb hby d7_62) (by decide) (by decide) kS) ?_
  refine oiloadN X9 hx hby d7_14 rfl ?_
  refine oaloadN X9 hx hby d7_15 rfl rfl ?_
  refine oV 1 X9 hx hZ hby hml hown (own_w hw 39 rfl) (own_w hw 40 rfl) (own_w hw 42 rfl) (own_w hw 41 rfl) (rm_sLen_4 l Z a0 hw [] aS tA kA y0 y1 y2 y3 zCS h9 n0 (Nat.le_trans (Nat.le_trans Z0 E3.1) (Keep.of_wr W9).1) O9 (Exa.wr W9 (Exa.ext E3 E_0)) (Fld.other W9 (Fld.ext E3 F0v) (Or.inl ne_aS_b3)) (Fld.other W9 (Fld.ext E3 F0c) (Or.inl ne_aS_b3)) ((Arv.ext R_A E3).other W9 ne_tA_b3) S_CS P_CS) (own_w hw 43 rfl) (own_w hw 7 rfl) e9 (Exa.wr W9 (Exa.ext E3 E_0)) (by decide) own_pd9 d7_16 rfl rfl rfl (fun T10 L10 v10 X10 hQ10 => ?_)
  obtain ⟨rfl, Nq10, eq10⟩ := hQ10
  have N10 := Fr.app N9 Nq10
  show gs T10 m 19 #[vr a1, vr aS, vr b3, vi 1] [(.int 4), (.int 1)]
  refine own_st (fun _ kS => XS.icmpNo X10.here hx rfl (hb hby d7_19) rfl (tlt (by decide : (1 : Int32) < (4 : Int32))).2.1 kS) ?_
  show gs T10 m 22 #[vr a1, vr aS, vr b3, vi 1] []
  refine oaloadN X10 hx hby d7_22 rfl rfl ?_
  refine oaloadN X10 hx hby d7_23 rfl rfl ?_
  obtain ⟨T11, X11, e11, st11⟩ := getF X10 hx hZ hown (host := "") (Or.inl (own_w hw 51 rfl)) Via.refl eq10 (Fld.ext O9.2 Fl) (g := (mkF m 24 #[vr a1, vr aS, vr b3, vi 1] [(.ref a1), (.ref b3)])) rfl rfl (hb hby d7_24)
  refine own_st st11 ?_
  show gs T11 m 27 #[vr a1, vr aS, vr b3, vi 1] [(.int 0), (.ref b3)]
  refine own_st (fun _ kS => XS.ifYes X11.here hx rfl (pc0 := 27) (pc' := 39) rfl (hb hby d7_27) rfl ((if0 _ _).trans (teq (by decide : (0 : Int32) = (0 : Int32))).1) (by decide) (by decide) kS) ?_
  show gs T11 m 39 #[vr a1, vr aS, vr b3, vi 1] [(.ref b3)]
  refine oiloadN X11 hx hby d7_39 rfl ?_
  refine oaloadN X11 hx hby d7_40 rfl rfl ?_
  obtain ⟨T12, X12, e12, st12⟩ := getF X11 hx hZ hown (host := "") (Or.inl (own_w hw 49 rfl)) Via.refl e11 (Fld.ext O9.2 Fw) (g := (mkF m 41 #[vr a1, vr aS, vr b3, vi 1] [(.ref a1), (.int 1), (.ref b3)])) rfl rfl (hb hby d7_41)
  refine own_st st12 ?_
  show gs T12 m 44 #[vr a1, vr aS, vr b3, vi 1] [(.int 1), (.int 1), (.ref b3)]
  refine own_st (fun _ kS => XS.imul X12.here hx rfl (hb hby d7_44) rfl kS) ?_
  refine oaloadN X12 hx hby d7_45 rfl rfl ?_
  obtain ⟨T13, X13, e13, st13⟩ := getF X12 hx hZ hown (host := "") (Or.inl (own_w hw 49 rfl)) Via.refl e12 (Fld.ext O9.2 Fw) (g := (mkF m 46 #[vr a1, vr aS, vr b3, vi 1] [(.ref a1), (.int 1), (.ref b3)])) rfl rfl (hb hby d7_46)
  refine own_st st13 ?_
  show gs T13 m 49 #[vr a1, vr aS, vr b3, vi 1] [(.int 1), (.int 1), (.ref b3)]
  refine own_st (fun _ kS => XS.iadd X13.here hx rfl (hb hby d7_49) rfl kS) ?_
  refine oiconst X13 hx hby d7_50 ?_
  refine own_st (fun _ kS => XS.isub X13.here hx rfl (hb hby d7_51) rfl kS) ?_
  refine oaloadN X13 hx hby d7_52 rfl rfl ?_
  refine oiloadN X13 hx hby d7_53 rfl ?_
  refine oV 2 X13 hx hZ hby hml hown (own_w hw 53 rfl) (own_w hw 54 rfl) (own_w hw 56 rfl) (own_w hw 55 rfl) (rm_chAt_4_1 l Z a0 hw [] aS tA kA y0 y1 y2 y3 zCS fm h9 n0 (Nat.le_trans (Nat.le_trans Z0 E3.1) (Keep.of_wr W9).1) O9 (Exa.wr W9 (Exa.ext E3 E_0)) (Fld.other W9 (Fld.ext E3 F0v) (Or.inl ne_aS_b3)) (Fld.other W9 (Fld.ext E3 F0c) (Or.inl ne_aS_b3)) ((Arv.ext R_A E3).other W9 ne_tA_b3) S_CS P_CS S_SF P_SF) (own_w hw 57 rfl) (own_w hw 7 rfl) e13 (Exa.wr W9 (Exa.ext E3 E_0)) (by decide) own_pd10 d7_54 rfl rfl rfl (fun T14 L14 v14 X14 hQ14 => ?_)
  obtain ⟨rfl, Nq14, eq14⟩ := hQ14
  have N14 := Fr.app N10 Nq14
  show gs T14 m 57 #[vr a1, vr aS, vr b3, vi 1] [(.int (own_lat y1)), (.int 1), (.ref b3)]
  refine own_st (fun _ kS => XT.i2b X14.here hx rfl (hb hby d7_57) rfl kS) ?_
  show gs T14 m 58 #[vr a1, vr aS, vr b3, vi 1] [(.int ((own_lat y1).toInt8.toInt32)), (.int 1), (.ref b3)]
  obtain ⟨cl15, Ar15, qa15, qs15, qn15, qh15, qg15⟩ := id R9
  obtain ⟨T15, h15, X15, e15, W15, st15⟩ := stB X14 hx hZ eq14 Ar15 (j := (1 : Int32)) (inb_of qs15 ⟨by decide, by decide⟩) (g := (mkF m 58 #[vr a1, vr aS, vr b3, vi 1] [(.int ((own_lat y1).toInt8.toInt32)), (.int 1), (.ref b3)])) rfl rfl (hb hby d7_58)
  have N15 := Fr.snoc X15 N14 ge_b3
  have K15 := K9.wr W15 (Or.inr sz_b3)
  have O15 := O9.wr W15 ge_b3
  have R15 : Arv Z h15 b3 k3 .byte (4 : Int32) [(.int (nar .byte ((own_lat y0).toInt8.toInt32))), (.int (nar .byte ((own_lat y1).toInt8.toInt32))), (.int 0), (.int 0)] (.int 0) := Arv.set Ar15 qa15 qs15 qn15 qh15 qg15 (fits_nar_byte _) W15 1 rfl (Nat.le_of_ble_eq_true rfl)
  refine own_st st15 ?_
  show gs T15 m 59 #[vr a1, vr aS, vr b3, vi 1] []
  refine own_st (fun _ kS => XS.iinc X15.here hx rfl (hb hby d7_59) rfl (l' := #[vr a1, vr aS, vr b3, vi 2]) rfl kS) ?_
  refine own_st (fun _ kS => XS.goto X15.here hx rfl (pc0 := 62) (pc' := 14) rfl (hb hby d7_62) (by decide) (by decide) kS) ?_
  refine oiloadN X15 hx hby d7_14 rfl ?_
  refine oaloadN X15 hx hby d7_15 rfl rfl ?_
  refine oV 1 X15 hx hZ hby hml hown (own_w hw 39 rfl) (own_w hw 40 rfl) (own_w hw 42 rfl) (own_w hw 41 rfl) (rm_sLen_4 l Z a0 hw [] aS tA kA y0 y1 y2 y3 zCS h15 n0 (Nat.le_trans (Nat.le_trans (Nat.le_trans Z0 E3.1) (Keep.of_wr W9).1) (Keep.of_wr W15).1) O15 (Exa.wr W15 (Exa.wr W9 (Exa.ext E3 E_0))) (Fld.other W15 (Fld.other W9 (Fld.ext E3 F0v) (Or.inl ne_aS_b3)) (Or.inl ne_aS_b3)) (Fld.other W15 (Fld.other W9 (Fld.ext E3 F0c) (Or.inl ne_aS_b3)) (Or.inl ne_aS_b3)) (((Arv.ext R_A E3).other W9 ne_tA_b3).other W15 ne_tA_b3) S_CS P_CS) (own_w hw 43 rfl) (own_w hw 7 rfl) e15 (Exa.wr W15 (Exa.wr W9 (Exa.ext E3 E_0))) (by decide) own_pd9 d7_16 rfl rfl rfl (fun T16 L16 v16 X16 hQ16 => ?_)
  obtain ⟨rfl, Nq16, eq16⟩ := hQ16
  have N16 := Fr.app N15 Nq16
  show gs T16 m 19 #[vr a1, vr aS, vr b3, vi 2] [(.int 4), (.int 2)]
  refine own_st (fun _ kS => XS.icmpNo X16.here hx rfl (hb hby d7_19) rfl (tlt (by decide : (2 : Int32) < (4 : Int32))).2.1 kS) ?_
  show gs T16 m 22 #[vr a1, vr aS, vr b3, vi 2] []
  refine oaloadN X16 hx hby d7_22 rfl rfl ?_
  refine oaloadN X16 hx hby d7_23 rfl rfl ?_
  obtain ⟨T17, X17, e17, st17⟩ := getF X16 hx hZ hown (host := "") (Or.inl (own_w hw 51 rfl)) Via.refl eq16 (Fld.ext O15.2 Fl) (g := (mkF m 24 #[vr a1, vr aS, vr b3, vi 2] [(.ref a1), (.ref b3)])) rfl rfl (hb hby d7_24)
  refine own_st st17 ?_
  show gs T17 m 27 #[vr a1, vr aS, vr b3, vi 2] [(.int 0), (.ref b3)]
  refine own_st (fun _ kS => XS.ifYes X17.here hx rfl (pc0 := 27) (pc' := 39) rfl (hb hby d7_27) rfl ((if0 _ _).trans (teq (by decide : (0 : Int32) = (0 : Int32))).1) (by decide) (by decide) kS) ?_
  show gs T17 m 39 #[vr a1, vr aS, vr b3, vi 2] [(.ref b3)]
  refine oiloadN X17 hx hby d7_39 rfl ?_
  refine oaloadN X17 hx hby d7_40 rfl rfl ?_
  obtain ⟨T18, X18, e18, st18⟩ := getF X17 hx hZ hown (host := "") (Or.inl (own_w hw 49 rfl)) Via.refl e17 (Fld.ext O15.2 Fw) (g := (mkF m 41 #[vr a1, vr aS, vr b3, vi 2] [(.ref a1), (.int 2), (.ref b3)])) rfl rfl (hb hby d7_41)
  refine own_st st18 ?_
  show gs T18 m 44 #[vr a1, vr aS, vr b3, vi 2] [(.int 1), (.int 2), (.ref b3)]
  refine own_st (fun _ kS => XS.imul X18.here hx rfl (hb hby d7_44) rfl kS) ?_
  refine oaloadN X18 hx hby d7_45 rfl rfl ?_
  obtain ⟨T19, X19, e19, st19⟩ := getF X18 hx hZ hown (host := "") (Or.inl (own_w hw 49 rfl)) Via.refl e18 (Fld.ext O15.2 Fw) (g := (mkF m 46 #[vr a1, vr aS, vr b3, vi 2] [(.ref a1), (.int 2), (.ref b3)])) rfl rfl (hb hby d7_46)
  refine own_st st19 ?_
  show gs T19 m 49 #[vr a1, vr aS, vr b3, vi 2] [(.int 1), (.int 2), (.ref b3)]
  refine own_st (fun _ kS => XS.iadd X19.here hx rfl (hb hby d7_49) rfl kS) ?_
  refine oiconst X19 hx hby d7_50 ?_
  refine own_st (fun _ kS => XS.isub X19.here hx rfl (hb hby d7_51) rfl kS) ?_
  refine oaloadN X19 hx hby d7_52 rfl rfl ?_
  refine oiloadN X19 hx hby d7_53 rfl ?_
  refine oV 2 X19 hx hZ hby hml hown (own_w hw 53 rfl) (own_w hw 54 rfl) (own_w hw 56 rfl) (own_w hw 55 rfl) (rm_chAt_4_2 l Z a0 hw [] aS tA kA y0 y1 y2 y3 zCS fm h15 n0 (Nat.le_trans (Nat.le_trans (Nat.le_trans Z0 E3.1) (Keep.of_wr W9).1) (Keep.of_wr W15).1) O15 (Exa.wr W15 (Exa.wr W9 (Exa.ext E3 E_0))) (Fld.other W15 (Fld.other W9 (Fld.ext E3 F0v) (Or.inl ne_aS_b3)) (Or.inl ne_aS_b3)) (Fld.other W15 (Fld.other W9 (Fld.ext E3 F0c) (Or.inl ne_aS_b3)) (Or.inl ne_aS_b3)) (((Arv.ext R_A E3).other W9 ne_tA_b3).other W15 ne_tA_b3) S_CS P_CS S_SF P_SF) (own_w hw 57 rfl) (own_w hw 7 rfl) e19 (Exa.wr W15 (Exa.wr W9 (Exa.ext E3 E_0))) (by decide) own_pd10 d7_54 rfl rfl rfl (fun T20 L20 v20 X20 hQ20 => ?_)
  obtain ⟨rfl, Nq20, eq20⟩ := hQ20
  have N20 := Fr.app N16 Nq20
  show gs T20 m 57 #[vr a1, vr aS, vr b3, vi 2] [(.int (own_lat y2)), (.int 2), (.ref b3)]
  refine own_st (fun _ kS => XT.i2b X20.here hx rfl (hb hby d7_57) rfl kS) ?_
  show gs T20 m 58 #[vr a1, vr aS, vr b3, vi 2] [(.int ((own_lat y2).toInt8.toInt32)), (.int 2), (.ref b3)]
  obtain ⟨cl21, Ar21, qa21, qs21, qn21, qh21, qg21⟩ := id R15
  obtain ⟨T21, h21, X21, e21, W21, st21⟩ := stB X20 hx hZ eq20 Ar21 (j := (2 : Int32)) (inb_of qs21 ⟨by decide, by decide⟩) (g := (mkF m 58 #[vr a1, vr aS, vr b3, vi 2] [(.int ((own_lat y2).toInt8.toInt32)), (.int 2), (.ref b3)])) rfl rfl (hb hby d7_58)
  have N21 := Fr.snoc X21 N20 ge_b3
  have K21 := K15.wr W21 (Or.inr sz_b3)
  have O21 := O15.wr W21 ge_b3
  have R21 : Arv Z h21 b3 k3 .byte (4 : Int32) [(.int (nar .byte ((own_lat y0).toInt8.toInt32))), (.int (nar .byte ((own_lat y1).toInt8.toInt32))), (.int (nar .byte ((own_lat y2).toInt8.toInt32))), (.int 0)] (.int 0) := Arv.set Ar21 qa21 qs21 qn21 qh21 qg21 (fits_nar_byte _) W21 2 rfl (Nat.le_of_ble_eq_true rfl)
  refine own_st st21 ?_
  show gs T21 m 59 #[vr a1, vr aS, vr b3, vi 2] []
  refine own_st (fun _ kS => XS.iinc X21.here hx rfl (hb hby d7_59) rfl (l' := #[vr a1, vr aS, vr b3, vi 3]) rfl kS) ?_
  refine own_st (fun _ kS => XS.goto X21.here hx rfl (pc0 := 62) (pc' := 14) rfl (hb hby d7_62) (by decide) (by decide) kS) ?_
  refine oiloadN X21 hx hby d7_14 rfl ?_
  refine oaloadN X21 hx hby d7_15 rfl rfl ?_
  refine oV 1 X21 hx hZ hby hml hown (own_w hw 39 rfl) (own_w hw 40 rfl) (own_w hw 42 rfl) (own_w hw 41 rfl) (rm_sLen_4 l Z a0 hw [] aS tA kA y0 y1 y2 y3 zCS h21 n0 (Nat.le_trans (Nat.le_trans (Nat.le_trans (Nat.le_trans Z0 E3.1) (Keep.of_wr W9).1) (Keep.of_wr W15).1) (Keep.of_wr W21).1) O21 (Exa.wr W21 (Exa.wr W15 (Exa.wr W9 (Exa.ext E3 E_0)))) (Fld.other W21 (Fld.other W15 (Fld.other W9 (Fld.ext E3 F0v) (Or.inl ne_aS_b3)) (Or.inl ne_aS_b3)) (Or.inl ne_aS_b3)) (Fld.other W21 (Fld.other W15 (Fld.other W9 (Fld.ext E3 F0c) (Or.inl ne_aS_b3)) (Or.inl ne_aS_b3)) (Or.inl ne_aS_b3)) ((((Arv.ext R_A E3).other W9 ne_tA_b3).other W15 ne_tA_b3).other W21 ne_tA_b3) S_CS P_CS) (own_w hw 43 rfl) (own_w hw 7 rfl) e21 (Exa.wr W21 (Exa.wr W15 (Exa.wr W9 (Exa.ext E3 E_0)))) (by decide) own_pd9 d7_16 rfl rfl rfl (fun T22 L22 v22 X22 hQ22 => ?_)
  obtain ⟨rfl, Nq22, eq22⟩ := hQ22
  have N22 := Fr.app N21 Nq22
  show gs T22 m 19 #[vr a1, vr aS, vr b3, vi 3] [(.int 4), (.int 3)]
  refine own_st (fun _ kS => XS.icmpNo X22.here hx rfl (hb hby d7_19) rfl (tlt (by decide : (3 : Int32) < (4 : Int32))).2.1 kS) ?_
  show gs T22 m 22 #[vr a1, vr aS, vr b3, vi 3] []
  refine oaloadN X22 hx hby d7_22 rfl rfl ?_
  refine oaloadN X22 hx hby d7_23 rfl rfl ?_
  obtain ⟨T23, X23, e23, st23⟩ := getF X22 hx hZ hown (host := "") (Or.inl (own_w hw 51 rfl)) Via.refl eq22 (Fld.ext O21.2 Fl) (g := (mkF m 24 #[vr a1, vr aS, vr b3, vi 3] [(.ref a1), (.ref b3)])) rfl rfl (hb hby d7_24)
  refine own_st st23 ?_
  show gs T23 m 27 #[vr a1, vr aS, vr b3, vi 3] [(.int 0), (.ref b3)]
  refine own_st (fun _ kS => XS.ifYes X23.here hx rfl (pc0 := 27) (pc' := 39) rfl (hb hby d7_27) rfl ((if0 _ _).trans (teq (by decide : (0 : Int32) = (0 : Int32))).1) (by decide) (by decide) kS) ?_
  show gs T23 m 39 #[vr a1, vr aS, vr b3, vi 3] [(.ref b3)]
  refine oiloadN X23 hx hby d7_39 rfl ?_
  refine oaloadN X23 hx hby d7_40 rfl rfl ?_
  obtain ⟨T24, X24, e24, st24⟩ := getF X23 hx hZ hown (host := "") (Or.inl (own_w hw 49 rfl)) Via.refl e23 (Fld.ext O21.2 Fw) (g := (mkF m 41 #[vr a1, vr aS, vr b3, vi 3] [(.ref a1), (.int 3), (.ref b3)])) rfl rfl (hb hby d7_41)
  refine own_st st24 ?_
  show gs T24 m 44 #[vr a1, vr aS, vr b3, vi 3] [(.int 1), (.int 3), (.ref b3)]
  refine own_st (fun _ kS => XS.imul X24.here hx rfl (hb hby d7_44) rfl kS) ?_
  refine oaloadN X24 hx hby d7_45 rfl rfl ?_
  obtain ⟨T25, X25, e25, st25⟩ := getF X24 hx hZ hown (host := "") (Or.inl (own_w hw 49 rfl)) Via.refl e24 (Fld.ext O21.2 Fw) (g := (mkF m 46 #[vr a1, vr aS, vr b3, vi 3] [(.ref a1), (.int 3), (.ref b3)])) rfl rfl (hb hby d7_46)
  refine own_st st25 ?_
  show gs T25 m 49 #[vr a1, vr aS, vr b3, vi 3] [(.int 1), (.int 3), (.ref b3)]
  refine own_st (fun _ kS => XS.iadd X25.here hx rfl (hb hby d7_49) rfl kS) ?_
  refine oiconst X25 hx hby d7_50 ?_
  refine own_st (fun _ kS => XS.isub X25.here hx rfl (hb hby d7_51) rfl kS) ?_
  refine oaloadN X25 hx hby d7_52 rfl rfl ?_
  refine oiloadN X25 hx hby d7_53 rfl ?_
  refine oV 2 X25 hx hZ hby hml hown (own_w hw 53 rfl) (own_w hw 54 rfl) (own_w hw 56 rfl) (own_w hw 55 rfl) (rm_chAt_4_3 l Z a0 hw [] aS tA kA y0 y1 y2 y3 zCS fm h21 n0 (Nat.le_trans (Nat.le_trans (Nat.le_trans (Nat.le_trans Z0 E3.1) (Keep.of_wr W9).1) (Keep.of_wr W15).1) (Keep.of_wr W21).1) O21 (Exa.wr W21 (Exa.wr W15 (Exa.wr W9 (Exa.ext E3 E_0)))) (Fld.other W21 (Fld.other W15 (Fld.other W9 (Fld.ext E3 F0v) (Or.inl ne_aS_b3)) (Or.inl ne_aS_b3)) (Or.inl ne_aS_b3)) (Fld.other W21 (Fld.other W15 (Fld.other W9 (Fld.ext E3 F0c) (Or.inl ne_aS_b3)) (Or.inl ne_aS_b3)) (Or.inl ne_aS_b3)) ((((Arv.ext R_A E3).other W9 ne_tA_b3).other W15 ne_tA_b3).other W21 ne_tA_b3) S_CS P_CS S_SF P_SF) (own_w hw 57 rfl) (own_w hw 7 rfl) e25 (Exa.wr W21 (Exa.wr W15 (Exa.wr W9 (Exa.ext E3 E_0)))) (by decide) own_pd10 d7_54 rfl rfl rfl (fun T26 L26 v26 X26 hQ26 => ?_)
  obtain ⟨rfl, Nq26, eq26⟩ := hQ26
  have N26 := Fr.app N22 Nq26
  show gs T26 m 57 #[vr a1, vr aS, vr b3, vi 3] [(.int (own_lat y3)), (.int 3), (.ref b3)]
  refine own_st (fun _ kS => XT.i2b X26.here hx rfl (hb hby d7_57) rfl kS) ?_
  show gs T26 m 58 #[vr a1, vr aS, vr b3, vi 3] [(.int ((own_lat y3).toInt8.toInt32)), (.int 3), (.ref b3)]
  obtain ⟨cl27, Ar27, qa27, qs27, qn27, qh27, qg27⟩ := id R21
  obtain ⟨T27, h27, X27, e27, W27, st27⟩ := stB X26 hx hZ eq26 Ar27 (j := (3 : Int32)) (inb_of qs27 ⟨by decide, by decide⟩) (g := (mkF m 58 #[vr a1, vr aS, vr b3, vi 3] [(.int ((own_lat y3).toInt8.toInt32)), (.int 3), (.ref b3)])) rfl rfl (hb hby d7_58)
  have N27 := Fr.snoc X27 N26 ge_b3
  have K27 := K21.wr W27 (Or.inr sz_b3)
  have O27 := O21.wr W27 ge_b3
  have R27 : Arv Z h27 b3 k3 .byte (4 : Int32) [(.int (nar .byte ((own_lat y0).toInt8.toInt32))), (.int (nar .byte ((own_lat y1).toInt8.toInt32))), (.int (nar .byte ((own_lat y2).toInt8.toInt32))), (.int (nar .byte ((own_lat y3).toInt8.toInt32)))] (.int 0) := Arv.set Ar27 qa27 qs27 qn27 qh27 qg27 (fits_nar_byte _) W27 3 rfl (Nat.le_of_ble_eq_true rfl)
  refine own_st st27 ?_
  show gs T27 m 59 #[vr a1, vr aS, vr b3, vi 3] []
  refine own_st (fun _ kS => XS.iinc X27.here hx rfl (hb hby d7_59) rfl (l' := #[vr a1, vr aS, vr b3, vi 4]) rfl kS) ?_
  refine own_st (fun _ kS => XS.goto X27.here hx rfl (pc0 := 62) (pc' := 14) rfl (hb hby d7_62) (by decide) (by decide) kS) ?_
  refine oiloadN X27 hx hby d7_14 rfl ?_
  refine oaloadN X27 hx hby d7_15 rfl rfl ?_
  refine oV 1 X27 hx hZ hby hml hown (own_w hw 39 rfl) (own_w hw 40 rfl) (own_w hw 42 rfl) (own_w hw 41 rfl) (rm_sLen_4 l Z a0 hw [] aS tA kA y0 y1 y2 y3 zCS h27 n0 (Nat.le_trans (Nat.le_trans (Nat.le_trans (Nat.le_trans (Nat.le_trans Z0 E3.1) (Keep.of_wr W9).1) (Keep.of_wr W15).1) (Keep.of_wr W21).1) (Keep.of_wr W27).1) O27 (Exa.wr W27 (Exa.wr W21 (Exa.wr W15 (Exa.wr W9 (Exa.ext E3 E_0))))) (Fld.other W27 (Fld.other W21 (Fld.other W15 (Fld.other W9 (Fld.ext E3 F0v) (Or.inl ne_aS_b3)) (Or.inl ne_aS_b3)) (Or.inl ne_aS_b3)) (Or.inl ne_aS_b3)) (Fld.other W27 (Fld.other W21 (Fld.other W15 (Fld.other W9 (Fld.ext E3 F0c) (Or.inl ne_aS_b3)) (Or.inl ne_aS_b3)) (Or.inl ne_aS_b3)) (Or.inl ne_aS_b3)) (((((Arv.ext R_A E3).other W9 ne_tA_b3).other W15 ne_tA_b3).other W21 ne_tA_b3).other W27 ne_tA_b3) S_CS P_CS) (own_w hw 43 rfl) (own_w hw 7 rfl) e27 (Exa.wr W27 (Exa.wr W21 (Exa.wr W15 (Exa.wr W9 (Exa.ext E3 E_0))))) (by decide) own_pd9 d7_16 rfl rfl rfl (fun T28 L28 v28 X28 hQ28 => ?_)
  obtain ⟨rfl, Nq28, eq28⟩ := hQ28
  have N28 := Fr.app N27 Nq28
  show gs T28 m 19 #[vr a1, vr aS, vr b3, vi 4] [(.int 4), (.int 4)]
  refine own_st (fun _ kS => XS.icmpYes X28.here hx rfl (pc0 := 19) (pc' := 65) rfl (hb hby d7_19) rfl (flt (by decide : ¬ ((4 : Int32) < (4 : Int32)))).2.1 (by decide) (by decide) kS) ?_
  show gs T28 m 65 #[vr a1, vr aS, vr b3, vi 4] []
  refine oaloadN X28 hx hby d7_65 rfl rfl ?_
  exact own_retA X28 hx hlk hret rfl rfl (hb hby d7_66) (by decide) (by decide) (by rw [eq28]; exact ⟨b3, k3, ⟨rfl, N28, K27, sz_b3, R27⟩⟩)
theorem ef_enc_4_4_0 (m : MethodId) (x0 : Addr) (x1 : Addr) : entryFrame m #[(.ref x0), (.ref x1)] 4 = mkF m 0 #[.val (.ref x0), .val (.ref x1), .unset, .unset] [] := by first | (simp [entryFrame, mkF, argsToLocals, Value.category]; done) | rfl
def Q_enc_4_4_0 (Z : State) (a1 : Addr) (aS : Addr) (tA : Addr) (kA : ClassId) (y0 : Int32) (y1 : Int32) (y2 : Int32) (y3 : Int32) (zCS : Int32) (fm : Value) (h0 : Heap) (n0 : Nat) (v : Option Value) (h : Heap) (L : List Loc) : Prop := ∃ tN : Addr, ∃ kN : ClassId, v = some (.ref tN) ∧ Fr n0 L ∧ Keep h0 h [] ∧ h0.size ≤ tN ∧ Arv Z h tN kN .byte (16 : Int32) [(.int 0), (.int 0), (.int 0), (.int (nar .byte ((own_lat y0).toInt8.toInt32))), (.int 0), (.int 0), (.int 0), (.int (nar .byte ((own_lat y1).toInt8.toInt32))), (.int 0), (.int 0), (.int 0), (.int (nar .byte ((own_lat y2).toInt8.toInt32))), (.int 0), (.int 0), (.int 0), (.int (nar .byte ((own_lat y3).toInt8.toInt32)))] (.int 0)
theorem rm_enc_4_4_0 (l : Launch) (Z : State) (a0 : Array Value) (hw : HW a0 Z) (ws : List Jvm.Cond) (a1 : Addr) (aS : Addr) (tA : Addr) (kA : ClassId) (y0 : Int32) (y1 : Int32) (y2 : Int32) (y3 : Int32) (zCS : Int32) (fm : Value) (h0 : Heap) (n0 : Nat) (Z0 : n0 ≤ h0.size) (O0 : Old Z n0 h0) (Fw : fk10 Z Z.heap a1 (.int 4)) (Fl : fk11 Z Z.heap a1 (.int 0)) (E_0 : ek12 Z h0 aS) (F0v : fk9 Z h0 aS (.ref tA)) (F0c : fk8 Z h0 aS (.int 0)) (R_A : Arv Z h0 tA kA .byte (4 : Int32) [(.int y0), (.int y1), (.int y2), (.int y3)] (.int 0)) (S_CS : sk0 Z Z.heap (.int zCS)) (P_CS : ¬ zCS = 0) (S_SF : sk1 Z Z.heap fm) (P_SF : fm.isRef = true) :
    M12 l ws (rmk 4 1 16 55) Z #[(.ref a1), (.ref aS)] h0 (Q_enc_4_4_0 Z a1 aS tA kA y0 y1 y2 y3 zCS fm h0 n0) := by
  refine own_go "com/example/provenir/provenir/TextEncoding" rfl (plainFor_of_name pn_7) (fun m => ef_enc_4_4_0 m a1 aS) (fun p e s m below meth c s₁ hx hby hml hown hnm hlk hret hZ X0 e0 => ?_)
  have N0 := Fr.nil n0
  have K0 := Keep.refl h0 []
  show gs s₁ m 0 #[vr a1, vr aS, .unset, .unset] []
  refine oaloadN X0 hx hby d7_0 rfl rfl ?_
  refine oV 0 X0 hx hZ hby hml hown (own_w hw 39 rfl) (own_w hw 40 rfl) (own_w hw 42 rfl) (own_w hw 41 rfl) (rm_sLen_4 l Z a0 hw [] aS tA kA y0 y1 y2 y3 zCS h0 n0 Z0 O0 E_0 F0v F0c R_A S_CS P_CS) (own_w hw 43 rfl) (own_w hw 7 rfl) e0 E_0 (by decide) own_pd9 d7_1 rfl rfl rfl (fun T1 L1 v1 X1 hQ1 => ?_)
  obtain ⟨rfl, Nq1, eq1⟩ := hQ1
  have N1 := Fr.app N0 Nq1
  show gs T1 m 4 #[vr a1, vr aS, .unset, .unset] [(.int 4)]
  refine oaloadN X1 hx hby d7_4 rfl rfl ?_
  obtain ⟨T2, X2, e2, st2⟩ := getF X1 hx hZ hown (host := "") (Or.inl (own_w hw 49 rfl)) Via.refl eq1 (Fld.ext O0.2 Fw) (g := (mkF m 5 #[vr a1, vr aS, .unset, .unset] [(.ref a1), (.int 4)])) rfl rfl (hb hby d7_5)
  refine own_st st2 ?_
  show gs T2 m 8 #[vr a1, vr aS, .unset, .unset] [(.int 4), (.int 4)]
  refine own_st (fun _ kS => XS.imul X2.here hx rfl (hb hby d7_8) rfl kS) ?_
  show gs T2 m 9 #[vr a1, vr aS, .unset, .unset] [(.int 16)]
  obtain ⟨T3, h3, k3, X3, e3, E3, A3, st3⟩ := newP X2 hx hZ (own_w hw 23 rfl) e2 (g := (mkF m 9 #[vr a1, vr aS, .unset, .unset] [(.int 16)])) rfl (hb hby d7_9) rfl (by decide) (cap := 16) (by decide) (by decide) (by decide) (by decide)
  obtain ⟨b3, g3⟩ : ∃ z, z = h0.size := ⟨_, rfl⟩
  have ne_aS_b3 : aS ≠ b3 := Nat.ne_of_lt (Nat.lt_of_lt_of_eq E_0.lt g3.symm)
  have ne_tA_b3 : tA ≠ b3 := Nat.ne_of_lt (Nat.lt_of_lt_of_eq R_A.lt g3.symm)
  have ge_b3 : n0 ≤ b3 := Nat.le_trans Z0 (Nat.le_of_eq g3.symm)
  have sz_b3 : h0.size ≤ b3 := Nat.le_trans K0.1 (Nat.le_of_eq g3.symm)
  rw [← g3] at A3 st3
  have K3 := K0.ext E3
  have O3 := O0.ext E3
  have R3 : Arv Z h3 b3 k3 .byte (16 : Int32) [(.int 0), (.int 0), (.int 0), (.int 0), (.int 0), (.int 0), (.int 0), (.int 0), (.int 0), (.int 0), (.int 0), (.int 0), (.int 0), (.int 0), (.int 0), (.int 0)] (.int 0) := (Arv.new A3 (by decide)).pad (pad_rep [] (.int 0) 16)
  refine own_st st3 ?_
  show gs T3 m 11 #[vr a1, vr aS, .unset, .unset] [(.ref b3)]
  refine own_st (fun _ kS => XS.astoreN X3.here hx rfl (hb hby d7_11) rfl rfl (l' := #[vr a1, vr aS, vr b3, .unset]) rfl kS) ?_
  refine oiconst X3 hx hby d7_12 ?_
  refine own_st (fun _ kS => XS.istoreN X3.here hx rfl (hb hby d7_13) rfl (l' := #[vr a1, vr aS, vr b3, vi 0]) rfl kS) ?_
  refine oiloadN X3 hx hby d7_14 rfl ?_
  refine oaloadN X3 hx hby d7_15 rfl rfl ?_
  refine oV 1 X3 hx hZ hby hml hown (own_w hw 39 rfl) (own_w hw 40 rfl) (own_w hw 42 rfl) (own_w hw 41 rfl) (rm_sLen_4 l Z a0 hw [] aS tA kA y0 y1 y2 y3 zCS h3 n0 (Nat.le_trans Z0 E3.1) O3 (Exa.ext E3 E_0) (Fld.ext E3 F0v) (Fld.ext E3 F0c) (Arv.ext R_A E3) S_CS P_CS) (own_w hw 43 rfl) (own_w hw 7 rfl) e3 (Exa.ext E3 E_0) (by decide) own_pd9 d7_16 rfl rfl rfl (fun T4 L4 v4 X4 hQ4 => ?_)
  obtain ⟨rfl, Nq4, eq4⟩ := hQ4
  have N4 := Fr.app N1 Nq4
  show gs T4 m 19 #[vr a1, vr aS, vr b3, vi 0] [(.int 4), (.int 0)]
  refine own_st (fun _ kS => XS.icmpNo X4.here hx rfl (hb hby d7_19) rfl (tlt (by decide : (0 : Int32) < (4 : Int32))).2.1 kS) ?_
  show gs T4 m 22 #[vr a1, vr aS, vr b3, vi 0] []
  refine oaloadN X4 hx hby d7_22 rfl rfl ?_
  refine oaloadN X4 hx hby d7_23 rfl rfl ?_
  obtain ⟨T5, X5, e5, st5⟩ := getF X4 hx hZ hown (host := "") (Or.inl (own_w hw 51 rfl)) Via.refl eq4 (Fld.ext O3.2 Fl) (g := (mkF m 24 #[vr a1, vr aS, vr b3, vi 0] [(.ref a1), (.ref b3)])) rfl rfl (hb hby d7_24)
  refine own_st st5 ?_
  show gs T5 m 27 #[vr a1, vr aS, vr b3, vi 0] [(.int 0), (.ref b3)]
  refine own_st (fun _ kS => XS.ifYes X5.here hx rfl (pc0 := 27) (pc' := 39) rfl (hb hby d7_27) rfl ((if0 _ _).trans (teq (by decide : (0 : Int32) = (0 : Int32))).1) (by decide) (by decide) kS) ?_
  show gs T5 m 39 #[vr a1, vr aS, vr b3, vi 0] [(.ref b3)]
  refine oiloadN X5 hx hby d7_39 rfl ?_
  refine oaloadN X5 hx hby d7_40 rfl rfl ?_
  obtain ⟨T6, X6, e6, st6⟩ := getF X5 hx hZ hown (host := "") (Or.inl (own_w hw 49 rfl)) Via.refl e5 (Fld.ext O3.2 Fw) (g := (mkF m 41 #[vr a1, vr aS, vr b3, vi 0] [(.ref a1), (.int 0), (.ref b3)])) rfl rfl (hb hby d7_41)
  refine own_st st6 ?_
  show gs T6 m 44 #[vr a1, vr aS, vr b3, vi 0] [(.int 4), (.int 0), (.ref b3)]
  refine own_st (fun _ kS => XS.imul X6.here hx rfl (hb hby d7_44) rfl kS) ?_
  refine oaloadN X6 hx hby d7_45 rfl rfl ?_
  obtain ⟨T7, X7, e7, st7⟩ := getF X6 hx hZ hown (host := "") (Or.inl (own_w hw 49 rfl)) Via.refl e6 (Fld.ext O3.2 Fw) (g := (mkF m 46 #[vr a1, vr aS, vr b3, vi 0] [(.ref a1), (.int 0), (.ref b3)])) rfl rfl (hb hby d7_46)
  refine own_st st7 ?_
  show gs T7 m 49 #[vr a1, vr aS, vr b3, vi 0] [(.int 4), (.int 0), (.ref b3)]
  refine own_st (fun _ kS => XS.iadd X7.here hx rfl (hb hby d7_49) rfl kS) ?_
  refine oiconst X7 hx hby d7_50 ?_
  refine own_st (fun _ kS => XS.isub X7.here hx rfl (hb hby d7_51) rfl kS) ?_
  refine oaloadN X7 hx hby d7_52 rfl rfl ?_
  refine oiloadN X7 hx hby d7_53 rfl ?_
  refine oV 2 X7 hx hZ hby hml hown (own_w hw 53 rfl) (own_w hw 54 rfl) (own_w hw 56 rfl) (own_w hw 55 rfl) (rm_chAt_4_0 l Z a0 hw [] aS tA kA y0 y1 y2 y3 zCS fm h3 n0 (Nat.le_trans Z0 E3.1) O3 (Exa.ext E3 E_0) (Fld.ext E3 F0v) (Fld.ext E3 F0c) (Arv.ext R_A E3) S_CS P_CS S_SF P_SF) (own_w hw 57 rfl) (own_w hw 7 rfl) e7 (Exa.ext E3 E_0) (by decide) own_pd10 d7_54 rfl rfl rfl (fun T8 L8 v8 X8 hQ8 => ?_)
  obtain ⟨rfl, Nq8, eq8⟩ := hQ8
  have N8 := Fr.app N4 Nq8
  show gs T8 m 57 #[vr a1, vr aS, vr b3, vi 0] [(.int (own_lat y0)), (.int 3), (.ref b3)]
  refine own_st (fun _ kS => XT.i2b X8.here hx rfl (hb hby d7_57) rfl kS) ?_
  show gs T8 m 58 #[vr a1, vr aS, vr b3, vi 0] [(.int ((own_lat y0).toInt8.toInt32)), (.int 3), (.ref b3)]
  obtain ⟨cl9, Ar9, qa9, qs9, qn9, qh9, qg9⟩ := id R3
  obtain ⟨T9, h9, X9, e9, W9, st9⟩ := stB X8 hx hZ eq8 Ar9 (j := (3 : Int32)) (inb_of qs9 ⟨by decide, by decide⟩) (g := (mkF m 58 #[vr a1, vr aS, vr b3, vi 0] [(.int ((own_lat y0).toInt8.toInt32)), (.int 3), (.ref b3)])) rfl rfl (hb hby d7_58)
  have N9 := Fr.snoc X9 N8 ge_b3
  have K9 := K3.wr W9 (Or.inr sz_b3)
  have O9 := O3.wr W9 ge_b3
  have R9 : Arv Z h9 b3 k3 .byte (16 : Int32) [(.int 0), (.int 0), (.int 0), (.int (nar .byte ((own_lat y0).toInt8.toInt32))), (.int 0), (.int 0), (.int 0), (.int 0), (.int 0), (.int 0), (.int 0), (.int 0), (.int 0), (.int 0), (.int 0), (.int 0)] (.int 0) := Arv.set Ar9 qa9 qs9 qn9 qh9 qg9 (fits_nar_byte _) W9 3 rfl (Nat.le_of_ble_eq_true rfl)
  refine own_st st9 ?_
  show gs T9 m 59 #[vr a1, vr aS, vr b3, vi 0] []
  refine own_st (fun _ kS => XS.iinc X9.here hx rfl (hb hby d7_59) rfl (l' := #[vr a1, vr aS, vr b3, vi 1]) rfl kS) ?_
  refine own_st (fun _ kS => XS.goto X9.here hx rfl (pc0 := 62) (pc' := 14) rfl (hb hby d7_62) (by decide) (by decide) kS) ?_
  refine oiloadN X9 hx hby d7_14 rfl ?_
  refine oaloadN X9 hx hby d7_15 rfl rfl ?_
  refine oV 1 X9 hx hZ hby hml hown (own_w hw 39 rfl) (own_w hw 40 rfl) (own_w hw 42 rfl) (own_w hw 41 rfl) (rm_sLen_4 l Z a0 hw [] aS tA kA y0 y1 y2 y3 zCS h9 n0 (Nat.le_trans (Nat.le_trans Z0 E3.1) (Keep.of_wr W9).1) O9 (Exa.wr W9 (Exa.ext E3 E_0)) (Fld.other W9 (Fld.ext E3 F0v) (Or.inl ne_aS_b3)) (Fld.other W9 (Fld.ext E3 F0c) (Or.inl ne_aS_b3)) ((Arv.ext R_A E3).other W9 ne_tA_b3) S_CS P_CS) (own_w hw 43 rfl) (own_w hw 7 rfl) e9 (Exa.wr W9 (Exa.ext E3 E_0)) (by decide) own_pd9 d7_16 rfl rfl rfl (fun T10 L10 v10 X10 hQ10 => ?_)
  obtain ⟨rfl, Nq10, eq10⟩ := hQ10
  have N10 := Fr.app N9 Nq10
  show gs T10 m 19 #[vr a1, vr aS, vr b3, vi 1] [(.int 4), (.int 1)]
  refine own_st (fun _ kS => XS.icmpNo X10.here hx rfl (hb hby d7_19) rfl (tlt (by decide : (1 : Int32) < (4 : Int32))).2.1 kS) ?_
  show gs T10 m 22 #[vr a1, vr aS, vr b3, vi 1] []
  refine oaloadN X10 hx hby d7_22 rfl rfl ?_
  refine oaloadN X10 hx hby d7_23 rfl rfl ?_
  obtain ⟨T11, X11, e11, st11⟩ := getF X10 hx hZ hown (host := "") (Or.inl (own_w hw 51 rfl)) Via.refl eq10 (Fld.ext O9.2 Fl) (g := (mkF m 24 #[vr a1, vr aS, vr b3, vi 1] [(.ref a1), (.ref b3)])) rfl rfl (hb hby d7_24)
  refine own_st st11 ?_
  show gs T11 m 27 #[vr a1, vr aS, vr b3, vi 1] [(.int 0), (.ref b3)]
  refine own_st (fun _ kS => XS.ifYes X11.here hx rfl (pc0 := 27) (pc' := 39) rfl (hb hby d7_27) rfl ((if0 _ _).trans (teq (by decide : (0 : Int32) = (0 : Int32))).1) (by decide) (by decide) kS) ?_
  show gs T11 m 39 #[vr a1, vr aS, vr b3, vi 1] [(.ref b3)]
  refine oiloadN X11 hx hby d7_39 rfl ?_
  refine oaloadN X11 hx hby d7_40 rfl rfl ?_
  obtain ⟨T12, X12, e12, st12⟩ := getF X11 hx hZ hown (host := "") (Or.inl (own_w hw 49 rfl)) Via.refl e11 (Fld.ext O9.2 Fw) (g := (mkF m 41 #[vr a1, vr aS, vr b3, vi 1] [(.ref a1), (.int 1), (.ref b3)])) rfl rfl (hb hby d7_41)
  refine own_st st12 ?_
  show gs T12 m 44 #[vr a1, vr aS, vr b3, vi 1] [(.int 4), (.int 1), (.ref b3)]
  refine own_st (fun _ kS => XS.imul X12.here hx rfl (hb hby d7_44) rfl kS) ?_
  refine oaloadN X12 hx hby d7_45 rfl rfl ?_
  obtain ⟨T13, X13, e13, st13⟩ := getF X12 hx hZ hown (host := "") (Or.inl (own_w hw 49 rfl)) Via.refl e12 (Fld.ext O9.2 Fw) (g := (mkF m 46 #[vr a1, vr aS, vr b3, vi 1] [(.ref a1), (.int 4), (.ref b3)])) rfl rfl (hb hby d7_46)
  refine own_st st13 ?_
  show gs T13 m 49 #[vr a1, vr aS, vr b3, vi 1] [(.int 4), (.int 4), (.ref b3)]
  refine own_st (fun _ kS => XS.iadd X13.here hx rfl (hb hby d7_49) rfl kS) ?_
  refine oiconst X13 hx hby d7_50 ?_
  refine own_st (fun _ kS => XS.isub X13.here hx rfl (hb hby d7_51) rfl kS) ?_
  refine oaloadN X13 hx hby d7_52 rfl rfl ?_
  refine oiloadN X13 hx hby d7_53 rfl ?_
  refine oV 2 X13 hx hZ hby hml hown (own_w hw 53 rfl) (own_w hw 54 rfl) (own_w hw 56 rfl) (own_w hw 55 rfl) (rm_chAt_4_1 l Z a0 hw [] aS tA kA y0 y1 y2 y3 zCS fm h9 n0 (Nat.le_trans (Nat.le_trans Z0 E3.1) (Keep.of_wr W9).1) O9 (Exa.wr W9 (Exa.ext E3 E_0)) (Fld.other W9 (Fld.ext E3 F0v) (Or.inl ne_aS_b3)) (Fld.other W9 (Fld.ext E3 F0c) (Or.inl ne_aS_b3)) ((Arv.ext R_A E3).other W9 ne_tA_b3) S_CS P_CS S_SF P_SF) (own_w hw 57 rfl) (own_w hw 7 rfl) e13 (Exa.wr W9 (Exa.ext E3 E_0)) (by decide) own_pd10 d7_54 rfl rfl rfl (fun T14 L14 v14 X14 hQ14 => ?_)
  obtain ⟨rfl, Nq14, eq14⟩ := hQ14
  have N14 := Fr.app N10 Nq14
  show gs T14 m 57 #[vr a1, vr aS, vr b3, vi 1] [(.int (own_lat y1)), (.int 7), (.ref b3)]
  refine own_st (fun _ kS => XT.i2b X14.here hx rfl (hb hby d7_57) rfl kS) ?_
  show gs T14 m 58 #[vr a1, vr aS, vr b3, vi 1] [(.int ((own_lat y1).toInt8.toInt32)), (.int 7), (.ref b3)]
  obtain ⟨cl15, Ar15, qa15, qs15, qn15, qh15, qg15⟩ := id R9
  obtain ⟨T15, h15, X15, e15, W15, st15⟩ := stB X14 hx hZ eq14 Ar15 (j := (7 : Int32)) (inb_of qs15 ⟨by decide, by decide⟩) (g := (mkF m 58 #[vr a1, vr aS, vr b3, vi 1] [(.int ((own_lat y1).toInt8.toInt32)), (.int 7), (.ref b3)])) rfl rfl (hb hby d7_58)
  have N15 := Fr.snoc X15 N14 ge_b3
  have K15 := K9.wr W15 (Or.inr sz_b3)
  have O15 := O9.wr W15 ge_b3
  have R15 : Arv Z h15 b3 k3 .byte (16 : Int32) [(.int 0), (.int 0), (.int 0), (.int (nar .byte ((own_lat y0).toInt8.toInt32))), (.int 0), (.int 0), (.int 0), (.int (nar .byte ((own_lat y1).toInt8.toInt32))), (.int 0), (.int 0), (.int 0), (.int 0), (.int 0), (.int 0), (.int 0), (.int 0)] (.int 0) := Arv.set Ar15 qa15 qs15 qn15 qh15 qg15 (fits_nar_byte _) W15 7 rfl (Nat.le_of_ble_eq_true rfl)
  refine own_st st15 ?_
  show gs T15 m 59 #[vr a1, vr aS, vr b3, vi 1] []
  refine own_st (fun _ kS => XS.iinc X15.here hx rfl (hb hby d7_59) rfl (l' := #[vr a1, vr aS, vr b3, vi 2]) rfl kS) ?_
  refine own_st (fun _ kS => XS.goto X15.here hx rfl (pc0 := 62) (pc' := 14) rfl (hb hby d7_62) (by decide) (by decide) kS) ?_
  refine oiloadN X15 hx hby d7_14 rfl ?_
  refine oaloadN X15 hx hby d7_15 rfl rfl ?_
  refine oV 1 X15 hx hZ hby hml hown (own_w hw 39 rfl) (own_w hw 40 rfl) (own_w hw 42 rfl) (own_w hw 41 rfl) (rm_sLen_4 l Z a0 hw [] aS tA kA y0 y1 y2 y3 zCS h15 n0 (Nat.le_trans (Nat.le_trans (Nat.le_trans Z0 E3.1) (Keep.of_wr W9).1) (Keep.of_wr W15).1) O15 (Exa.wr W15 (Exa.wr W9 (Exa.ext E3 E_0))) (Fld.other W15 (Fld.other W9 (Fld.ext E3 F0v) (Or.inl ne_aS_b3)) (Or.inl ne_aS_b3)) (Fld.other W15 (Fld.other W9 (Fld.ext E3 F0c) (Or.inl ne_aS_b3)) (Or.inl ne_aS_b3)) (((Arv.ext R_A E3).other W9 ne_tA_b3).other W15 ne_tA_b3) S_CS P_CS) (own_w hw 43 rfl) (own_w hw 7 rfl) e15 (Exa.wr W15 (Exa.wr W9 (Exa.ext E3 E_0))) (by decide) own_pd9 d7_16 rfl rfl rfl (fun T16 L16 v16 X16 hQ16 => ?_)
  obtain ⟨rfl, Nq16, eq16⟩ := hQ16
  have N16 := Fr.app N15 Nq16
  show gs T16 m 19 #[vr a1, vr aS, vr b3, vi 2] [(.int 4), (.int 2)]
  refine own_st (fun _ kS => XS.icmpNo X16.here hx rfl (hb hby d7_19) rfl (tlt (by decide : (2 : Int32) < (4 : Int32))).2.1 kS) ?_
  show gs T16 m 22 #[vr a1, vr aS, vr b3, vi 2] []
  refine oaloadN X16 hx hby d7_22 rfl rfl ?_
  refine oaloadN X16 hx hby d7_23 rfl rfl ?_
  obtain ⟨T17, X17, e17, st17⟩ := getF X16 hx hZ hown (host := "") (Or.inl (own_w hw 51 rfl)) Via.refl eq16 (Fld.ext O15.2 Fl) (g := (mkF m 24 #[vr a1, vr aS, vr b3, vi 2] [(.ref a1), (.ref b3)])) rfl rfl (hb hby d7_24)
  refine own_st st17 ?_
  show gs T17 m 27 #[vr a1, vr aS, vr b3, vi 2] [(.int 0), (.ref b3)]
  refine own_st (fun _ kS => XS.ifYes X17.here hx rfl (pc0 := 27) (pc' := 39) rfl (hb hby d7_27) rfl ((if0 _ _).trans (teq (by decide : (0 : Int32) = (0 : Int32))).1) (by decide) (by decide) kS) ?_
  show gs T17 m 39 #[vr a1, vr aS, vr b3, vi 2] [(.ref b3)]
  refine oiloadN X17 hx hby d7_39 rfl ?_
  refine oaloadN X17 hx hby d7_40 rfl rfl ?_
  obtain ⟨T18, X18, e18, st18⟩ := getF X17 hx hZ hown (host := "") (Or.inl (own_w hw 49 rfl)) Via.refl e17 (Fld.ext O15.2 Fw) (g := (mkF m 41 #[vr a1, vr aS, vr b3, vi 2] [(.ref a1), (.int 2), (.ref b3)])) rfl rfl (hb hby d7_41)
  refine own_st st18 ?_
  show gs T18 m 44 #[vr a1, vr aS, vr b3, vi 2] [(.int 4), (.int 2), (.ref b3)]
  refine own_st (fun _ kS => XS.imul X18.here hx rfl (hb hby d7_44) rfl kS) ?_
  refine oaloadN X18 hx hby d7_45 rfl rfl ?_
  obtain ⟨T19, X19, e19, st19⟩ := getF X18 hx hZ hown (host := "") (Or.inl (own_w hw 49 rfl)) Via.refl e18 (Fld.ext O15.2 Fw) (g := (mkF m 46 #[vr a1, vr aS, vr b3, vi 2] [(.ref a1), (.int 8), (.ref b3)])) rfl rfl (hb hby d7_46)
  refine own_st st19 ?_
  show gs T19 m 49 #[vr a1, vr aS, vr b3, vi 2] [(.int 4), (.int 8), (.ref b3)]
  refine own_st (fun _ kS => XS.iadd X19.here hx rfl (hb hby d7_49) rfl kS) ?_
  refine oiconst X19 hx hby d7_50 ?_
  refine own_st (fun _ kS => XS.isub X19.here hx rfl (hb hby d7_51) rfl kS) ?_
  refine oaloadN X19 hx hby d7_52 rfl rfl ?_
  refine oiloadN X19 hx hby d7_53 rfl ?_
  refine oV 2 X19 hx hZ hby hml hown (own_w hw 53 rfl) (own_w hw 54 rfl) (own_w hw 56 rfl) (own_w hw 55 rfl) (rm_chAt_4_2 l Z a0 hw [] aS tA kA y0 y1 y2 y3 zCS fm h15 n0 (Nat.le_trans (Nat.le_trans (Nat.le_trans Z0 E3.1) (Keep.of_wr W9).1) (Keep.of_wr W15).1) O15 (Exa.wr W15 (Exa.wr W9 (Exa.ext E3 E_0))) (Fld.other W15 (Fld.other W9 (Fld.ext E3 F0v) (Or.inl ne_aS_b3)) (Or.inl ne_aS_b3)) (Fld.other W15 (Fld.other W9 (Fld.ext E3 F0c) (Or.inl ne_aS_b3)) (Or.inl ne_aS_b3)) (((Arv.ext R_A E3).other W9 ne_tA_b3).other W15 ne_tA_b3) S_CS P_CS S_SF P_SF) (own_w hw 57 rfl) (own_w hw 7 rfl) e19 (Exa.wr W15 (Exa.wr W9 (Exa.ext E3 E_0))) (by decide) own_pd10 d7_54 rfl rfl rfl (fun T20 L20 v20 X20 hQ20 => ?_)
  obtain ⟨rfl, Nq20, eq20⟩ := hQ20
  have N20 := Fr.app N16 Nq20
  show gs T20 m 57 #[vr a1, vr aS, vr b3, vi 2] [(.int (own_lat y2)), (.int 11), (.ref b3)]
  refine own_st (fun _ kS => XT.i2b X20.here hx rfl (hb hby d7_57) rfl kS) ?_
  show gs T20 m 58 #[vr a1, vr aS, vr b3, vi 2] [(.int ((own_lat y2).toInt8.toInt32)), (.int 11), (.ref b3)]
  obtain ⟨cl21, Ar21, qa21, qs21, qn21, qh21, qg21⟩ := id R15
  obtain ⟨T21, h21, X21, e21, W21, st21⟩ := stB X20 hx hZ eq20 Ar21 (j := (11 : Int32)) (inb_of qs21 ⟨by decide, by decide⟩) (g := (mkF m 58 #[vr a1, vr aS, vr b3, vi 2] [(.int ((own_lat y2).toInt8.toInt32)), (.int 11), (.ref b3)])) rfl rfl (hb hby d7_58)
  have N21 := Fr.snoc X21 N20 ge_b3
  have K21 := K15.wr W21 (Or.inr sz_b3)
  have O21 := O15.wr W21 ge_b3
  have R21 : Arv Z h21 b3 k3 .byte (16 : Int32) [(.int 0), (.int 0), (.int 0), (.int (nar .byte ((own_lat y0).toInt8.toInt32))), (.int 0), (.int 0), (.int 0), (.int (nar .byte ((own_lat y1).toInt8.toInt32))), (.int 0), (.int 0), (.int 0), (.int (nar .byte ((own_lat y2).toInt8.toInt32))), (.int 0), (.int 0), (.int 0), (.int 0)] (.int 0) := Arv.set Ar21 qa21 qs21 qn21 qh21 qg21 (fits_nar_byte _) W21 11 rfl (Nat.le_of_ble_eq_true rfl)
  refine own_st st21 ?_
  show gs T21 m 59 #[vr a1, vr aS, vr b3, vi 2] []
  refine own_st (fun _ kS => XS.iinc X21.here hx rfl (hb hby d7_59) rfl (l' := #[vr a1, vr aS, vr b3, vi 3]) rfl kS) ?_
  refine own_st (fun _ kS => XS.goto X21.here hx rfl (pc0 := 62) (pc' := 14) rfl (hb hby d7_62) (by decide) (by decide) kS) ?_
  refine oiloadN X21 hx hby d7_14 rfl ?_
  refine oaloadN X21 hx hby d7_15 rfl rfl ?_
  refine oV 1 X21 hx hZ hby hml hown (own_w hw 39 rfl) (own_w hw 40 rfl) (own_w hw 42 rfl) (own_w hw 41 rfl) (rm_sLen_4 l Z a0 hw [] aS tA kA y0 y1 y2 y3 zCS h21 n0 (Nat.le_trans (Nat.le_trans (Nat.le_trans (Nat.le_trans Z0 E3.1) (Keep.of_wr W9).1) (Keep.of_wr W15).1) (Keep.of_wr W21).1) O21 (Exa.wr W21 (Exa.wr W15 (Exa.wr W9 (Exa.ext E3 E_0)))) (Fld.other W21 (Fld.other W15 (Fld.other W9 (Fld.ext E3 F0v) (Or.inl ne_aS_b3)) (Or.inl ne_aS_b3)) (Or.inl ne_aS_b3)) (Fld.other W21 (Fld.other W15 (Fld.other W9 (Fld.ext E3 F0c) (Or.inl ne_aS_b3)) (Or.inl ne_aS_b3)) (Or.inl ne_aS_b3)) ((((Arv.ext R_A E3).other W9 ne_tA_b3).other W15 ne_tA_b3).other W21 ne_tA_b3) S_CS P_CS) (own_w hw 43 rfl) (own_w hw 7 rfl) e21 (Exa.wr W21 (Exa.wr W15 (Exa.wr W9 (Exa.ext E3 E_0)))) (by decide) own_pd9 d7_16 rfl rfl rfl (fun T22 L22 v22 X22 hQ22 => ?_)
  obtain ⟨rfl, Nq22, eq22⟩ := hQ22
  have N22 := Fr.app N21 Nq22
  show gs T22 m 19 #[vr a1, vr aS, vr b3, vi 3] [(.int 4), (.int 3)]
  refine own_st (fun _ kS => XS.icmpNo X22.here hx rfl (hb hby d7_19) rfl (tlt (by decide : (3 : Int32) < (4 : Int32))).2.1 kS) ?_
  show gs T22 m 22 #[vr a1, vr aS, vr b3, vi 3] []
  refine oaloadN X22 hx hby d7_22 rfl rfl ?_
  refine oaloadN X22 hx hby d7_23 rfl rfl ?_
  obtain ⟨T23, X23, e23, st23⟩ := getF X22 hx hZ hown (host := "") (Or.inl (own_w hw 51 rfl)) Via.refl eq22 (Fld.ext O21.2 Fl) (g := (mkF m 24 #[vr a1, vr aS, vr b3, vi 3] [(.ref a1), (.ref b3)])) rfl rfl (hb hby d7_24)
  refine own_st st23 ?_
  show gs T23 m 27 #[vr a1, vr aS, vr b3, vi 3] [(.int 0), (.ref b3)]
  refine own_st (fun _ kS => XS.ifYes X23.here hx rfl (pc0 := 27) (pc' := 39) rfl (hb hby d7_27) rfl ((if0 _ _).trans (teq (by decide : (0 : Int32) = (0 : Int32))).1) (by decide) (by decide) kS) ?_
  show gs T23 m 39 #[vr a1, vr aS, vr b3, vi 3] [(.ref b3)]
  refine oiloadN X23 hx hby d7_39 rfl ?_
  refine oaloadN X23 hx hby d7_40 rfl rfl ?_
  obtain ⟨T24, X24, e24, st24⟩ := getF X23 hx hZ hown (host := "") (Or.inl (own_w hw 49 rfl)) Via.refl e23 (Fld.ext O21.2 Fw) (g := (mkF m 41 #[vr a1, vr aS, vr b3, vi 3] [(.ref a1), (.int 3), (.ref b3)])) rfl rfl (hb hby d7_41)
  refine own_st st24 ?_
  show gs T24 m 44 #[vr a1, vr aS, vr b3, vi 3] [(.int 4), (.int 3), (.ref b3)]
  refine own_st (fun _ kS => XS.imul X24.here hx rfl (hb hby d7_44) rfl kS) ?_
  refine oaloadN X24 hx hby d7_45 rfl rfl ?_
  obtain ⟨T25, X25, e25, st25⟩ := getF X24 hx hZ hown (host := "") (Or.inl (own_w hw 49 rfl)) Via.refl e24 (Fld.ext O21.2 Fw) (g := (mkF m 46 #[vr a1, vr aS, vr b3, vi 3] [(.ref a1), (.int 12), (.ref b3)])) rfl rfl (hb hby d7_46)
  refine own_st st25 ?_
  show gs T25 m 49 #[vr a1, vr aS, vr b3, vi 3] [(.int 4), (.int 12), (.ref b3)]
  refine own_st (fun _ kS => XS.iadd X25.here hx rfl (hb hby d7_49) rfl kS) ?_
  refine oiconst X25 hx hby d7_50 ?_
  refine own_st (fun _ kS => XS.isub X25.here hx rfl (hb hby d7_51) rfl kS) ?_
  refine oaloadN X25 hx hby d7_52 rfl rfl ?_
  refine oiloadN X25 hx hby d7_53 rfl ?_
  refine oV 2 X25 hx hZ hby hml hown (own_w hw 53 rfl) (own_w hw 54 rfl) (own_w hw 56 rfl) (own_w hw 55 rfl) (rm_chAt_4_3 l Z a0 hw [] aS tA kA y0 y1 y2 y3 zCS fm h21 n0 (Nat.le_trans (Nat.le_trans (Nat.le_trans (Nat.le_trans Z0 E3.1) (Keep.of_wr W9).1) (Keep.of_wr W15).1) (Keep.of_wr W21).1) O21 (Exa.wr W21 (Exa.wr W15 (Exa.wr W9 (Exa.ext E3 E_0)))) (Fld.other W21 (Fld.other W15 (Fld.other W9 (Fld.ext E3 F0v) (Or.inl ne_aS_b3)) (Or.inl ne_aS_b3)) (Or.inl ne_aS_b3)) (Fld.other W21 (Fld.other W15 (Fld.other W9 (Fld.ext E3 F0c) (Or.inl ne_aS_b3)) (Or.inl ne_aS_b3)) (Or.inl ne_aS_b3)) ((((Arv.ext R_A E3).other W9 ne_tA_b3).other W15 ne_tA_b3).other W21 ne_tA_b3) S_CS P_CS S_SF P_SF) (own_w hw 57 rfl) (own_w hw 7 rfl) e25 (Exa.wr W21 (Exa.wr W15 (Exa.wr W9 (Exa.ext E3 E_0)))) (by decide) own_pd10 d7_54 rfl rfl rfl (fun T26 L26 v26 X26 hQ26 => ?_)
  obtain ⟨rfl, Nq26, eq26⟩ := hQ26
  have N26 := Fr.app N22 Nq26
  show gs T26 m 57 #[vr a1, vr aS, vr b3, vi 3] [(.int (own_lat y3)), (.int 15), (.ref b3)]
  refine own_st (fun _ kS => XT.i2b X26.here hx rfl (hb hby d7_57) rfl kS) ?_
  show gs T26 m 58 #[vr a1, vr aS, vr b3, vi 3] [(.int ((own_lat y3).toInt8.toInt32)), (.int 15), (.ref b3)]
  obtain ⟨cl27, Ar27, qa27, qs27, qn27, qh27, qg27⟩ := id R21
  obtain ⟨T27, h27, X27, e27, W27, st27⟩ := stB X26 hx hZ eq26 Ar27 (j := (15 : Int32)) (inb_of qs27 ⟨by decide, by decide⟩) (g := (mkF m 58 #[vr a1, vr aS, vr b3, vi 3] [(.int ((own_lat y3).toInt8.toInt32)), (.int 15), (.ref b3)])) rfl rfl (hb hby d7_58)
  have N27 := Fr.snoc X27 N26 ge_b3
  have K27 := K21.wr W27 (Or.inr sz_b3)
  have O27 := O21.wr W27 ge_b3
  have R27 : Arv Z h27 b3 k3 .byte (16 : Int32) [(.int 0), (.int 0), (.int 0), (.int (nar .byte ((own_lat y0).toInt8.toInt32))), (.int 0), (.int 0), (.int 0), (.int (nar .byte ((own_lat y1).toInt8.toInt32))), (.int 0), (.int 0), (.int 0), (.int (nar .byte ((own_lat y2).toInt8.toInt32))), (.int 0), (.int 0), (.int 0), (.int (nar .byte ((own_lat y3).toInt8.toInt32)))] (.int 0) := Arv.set Ar27 qa27 qs27 qn27 qh27 qg27 (fits_nar_byte _) W27 15 rfl (Nat.le_of_ble_eq_true rfl)
  refine own_st st27 ?_
  show gs T27 m 59 #[vr a1, vr aS, vr b3, vi 3] []
  refine own_st (fun _ kS => XS.iinc X27.here hx rfl (hb hby d7_59) rfl (l' := #[vr a1, vr aS, vr b3, vi 4]) rfl kS) ?_
  refine own_st (fun _ kS => XS.goto X27.here hx rfl (pc0 := 62) (pc' := 14) rfl (hb hby d7_62) (by decide) (by decide) kS) ?_
  refine oiloadN X27 hx hby d7_14 rfl ?_
  refine oaloadN X27 hx hby d7_15 rfl rfl ?_
  refine oV 1 X27 hx hZ hby hml hown (own_w hw 39 rfl) (own_w hw 40 rfl) (own_w hw 42 rfl) (own_w hw 41 rfl) (rm_sLen_4 l Z a0 hw [] aS tA kA y0 y1 y2 y3 zCS h27 n0 (Nat.le_trans (Nat.le_trans (Nat.le_trans (Nat.le_trans (Nat.le_trans Z0 E3.1) (Keep.of_wr W9).1) (Keep.of_wr W15).1) (Keep.of_wr W21).1) (Keep.of_wr W27).1) O27 (Exa.wr W27 (Exa.wr W21 (Exa.wr W15 (Exa.wr W9 (Exa.ext E3 E_0))))) (Fld.other W27 (Fld.other W21 (Fld.other W15 (Fld.other W9 (Fld.ext E3 F0v) (Or.inl ne_aS_b3)) (Or.inl ne_aS_b3)) (Or.inl ne_aS_b3)) (Or.inl ne_aS_b3)) (Fld.other W27 (Fld.other W21 (Fld.other W15 (Fld.other W9 (Fld.ext E3 F0c) (Or.inl ne_aS_b3)) (Or.inl ne_aS_b3)) (Or.inl ne_aS_b3)) (Or.inl ne_aS_b3)) (((((Arv.ext R_A E3).other W9 ne_tA_b3).other W15 ne_tA_b3).other W21 ne_tA_b3).other W27 ne_tA_b3) S_CS P_CS) (own_w hw 43 rfl) (own_w hw 7 rfl) e27 (Exa.wr W27 (Exa.wr W21 (Exa.wr W15 (Exa.wr W9 (Exa.ext E3 E_0))))) (by decide) own_pd9 d7_16 rfl rfl rfl (fun T28 L28 v28 X28 hQ28 => ?_)
  obtain ⟨rfl, Nq28, eq28⟩ := hQ28
  have N28 := Fr.app N27 Nq28
  show gs T28 m 19 #[vr a1, vr aS, vr b3, vi 4] [(.int 4), (.int 4)]
  refine own_st (fun _ kS => XS.icmpYes X28.here hx rfl (pc0 := 19) (pc' := 65) rfl (hb hby d7_19) rfl (flt (by decide : ¬ ((4 : Int32) < (4 : Int32)))).2.1 (by decide) (by decide) kS) ?_
  show gs T28 m 65 #[vr a1, vr aS, vr b3, vi 4] []
  refine oaloadN X28 hx hby d7_65 rfl rfl ?_
  exact own_retA X28 hx hlk hret rfl rfl (hb hby d7_66) (by decide) (by decide) (by rw [eq28]; exact ⟨b3, k3, ⟨rfl, N28, K27, sz_b3, R27⟩⟩)
theorem ef_enc_4_4_1 (m : MethodId) (x0 : Addr) (x1 : Addr) : entryFrame m #[(.ref x0), (.ref x1)] 4 = mkF m 0 #[.val (.ref x0), .val (.ref x1), .unset, .unset] [] := by first | (simp [entryFrame, mkF, argsToLocals, Value.category]; done) | rfl
def Q_enc_4_4_1 (Z : State) (a1 : Addr) (aS : Addr) (tA : Addr) (kA : ClassId) (y0 : Int32) (y1 : Int32) (y2 : Int32) (y3 : Int32) (zCS : Int32) (fm : Value) (h0 : Heap) (n0 : Nat) (v : Option Value) (h : Heap) (L : List Loc) : Prop := ∃ tN : Addr, ∃ kN : ClassId, v = some (.ref tN) ∧ Fr n0 L ∧ Keep h0 h [] ∧ h0.size ≤ tN ∧ Arv Z h tN kN .byte (16 : Int32) [(.int (nar .byte ((own_lat y0).toInt8.toInt32))), (.int 0), (.int 0), (.int 0), (.int (nar .byte ((own_lat y1).toInt8.toInt32))), (.int 0), (.int 0), (.int 0), (.int (nar .byte ((own_lat y2).toInt8.toInt32))), (.int 0), (.int 0), (.int 0), (.int (nar .byte ((own_lat y3).toInt8.toInt32))), (.int 0), (.int 0), (.int 0)] (.int 0)
theorem rm_enc_4_4_1 (l : Launch) (Z : State) (a0 : Array Value) (hw : HW a0 Z) (ws : List Jvm.Cond) (a1 : Addr) (aS : Addr) (tA : Addr) (kA : ClassId) (y0 : Int32) (y1 : Int32) (y2 : Int32) (y3 : Int32) (zCS : Int32) (fm : Value) (h0 : Heap) (n0 : Nat) (Z0 : n0 ≤ h0.size) (O0 : Old Z n0 h0) (Fw : fk10 Z Z.heap a1 (.int 4)) (Fl : fk11 Z Z.heap a1 (.int 1)) (E_0 : ek12 Z h0 aS) (F0v : fk9 Z h0 aS (.ref tA)) (F0c : fk8 Z h0 aS (.int 0)) (R_A : Arv Z h0 tA kA .byte (4 : Int32) [(.int y0), (.int y1), (.int y2), (.int y3)] (.int 0)) (S_CS : sk0 Z Z.heap (.int zCS)) (P_CS : ¬ zCS = 0) (S_SF : sk1 Z Z.heap fm) (P_SF : fm.isRef = true) :
    M12 l ws (rmk 4 1 16 55) Z #[(.ref a1), (.ref aS)] h0 (Q_enc_4_4_1 Z a1 aS tA kA y0 y1 y2 y3 zCS fm h0 n0) := by
  refine own_go "com/example/provenir/provenir/TextEncoding" rfl (plainFor_of_name pn_7) (fun m => ef_enc_4_4_1 m a1 aS) (fun p e s m below meth c s₁ hx hby hml hown hnm hlk hret hZ X0 e0 => ?_)
  have N0 := Fr.nil n0
  have K0 := Keep.refl h0 []
  show gs s₁ m 0 #[vr a1, vr aS, .unset, .unset] []
  refine oaloadN X0 hx hby d7_0 rfl rfl ?_
  refine oV 0 X0 hx hZ hby hml hown (own_w hw 39 rfl) (own_w hw 40 rfl) (own_w hw 42 rfl) (own_w hw 41 rfl) (rm_sLen_4 l Z a0 hw [] aS tA kA y0 y1 y2 y3 zCS h0 n0 Z0 O0 E_0 F0v F0c R_A S_CS P_CS) (own_w hw 43 rfl) (own_w hw 7 rfl) e0 E_0 (by decide) own_pd9 d7_1 rfl rfl rfl (fun T1 L1 v1 X1 hQ1 => ?_)
  obtain ⟨rfl, Nq1, eq1⟩ := hQ1
  have N1 := Fr.app N0 Nq1
  show gs T1 m 4 #[vr a1, vr aS, .unset, .unset] [(.int 4)]
  refine oaloadN X1 hx hby d7_4 rfl rfl ?_
  obtain ⟨T2, X2, e2, st2⟩ := getF X1 hx hZ hown (host := "") (Or.inl (own_w hw 49 rfl)) Via.refl eq1 (Fld.ext O0.2 Fw) (g := (mkF m 5 #[vr a1, vr aS, .unset, .unset] [(.ref a1), (.int 4)])) rfl rfl (hb hby d7_5)
  refine own_st st2 ?_
  show gs T2 m 8 #[vr a1, vr aS, .unset, .unset] [(.int 4), (.int 4)]
  refine own_st (fun _ kS => XS.imul X2.here hx rfl (hb hby d7_8) rfl kS) ?_
  show gs T2 m 9 #[vr a1, vr aS, .unset, .unset] [(.int 16)]
  obtain ⟨T3, h3, k3, X3, e3, E3, A3, st3⟩ := newP X2 hx hZ (own_w hw 23 rfl) e2 (g := (mkF m 9 #[vr a1, vr aS, .unset, .unset] [(.int 16)])) rfl (hb hby d7_9) rfl (by decide) (cap := 16) (by decide) (by decide) (by decide) (by decide)
  obtain ⟨b3, g3⟩ : ∃ z, z = h0.size := ⟨_, rfl⟩
  have ne_aS_b3 : aS ≠ b3 := Nat.ne_of_lt (Nat.lt_of_lt_of_eq E_0.lt g3.symm)
  have ne_tA_b3 : tA ≠ b3 := Nat.ne_of_lt (Nat.lt_of_lt_of_eq R_A.lt g3.symm)
  have ge_b3 : n0 ≤ b3 := Nat.le_trans Z0 (Nat.le_of_eq g3.symm)
  have sz_b3 : h0.size ≤ b3 := Nat.le_trans K0.1 (Nat.le_of_eq g3.symm)
  rw [← g3] at A3 st3
  have K3 := K0.ext E3
  have O3 := O0.ext E3
  have R3 : Arv Z h3 b3 k3 .byte (16 : Int32) [(.int 0), (.int 0), (.int 0), (.int 0), (.int 0), (.int 0), (.int 0), (.int 0), (.int 0), (.int 0), (.int 0), (.int 0), (.int 0), (.int 0), (.int 0), (.int 0)] (.int 0) := (Arv.new A3 (by decide)).pad (pad_rep [] (.int 0) 16)
  refine own_st st3 ?_
  show gs T3 m 11 #[vr a1, vr aS, .unset, .unset] [(.ref b3)]
  refine own_st (fun _ kS => XS.astoreN X3.here hx rfl (hb hby d7_11) rfl rfl (l' := #[vr a1, vr aS, vr b3, .unset]) rfl kS) ?_
  refine oiconst X3 hx hby d7_12 ?_
  refine own_st (fun _ kS => XS.istoreN X3.here hx rfl (hb hby d7_13) rfl (l' := #[vr a1, vr aS, vr b3, vi 0]) rfl kS) ?_
  refine oiloadN X3 hx hby d7_14 rfl ?_
  refine oaloadN X3 hx hby d7_15 rfl rfl ?_
  refine oV 1 X3 hx hZ hby hml hown (own_w hw 39 rfl) (own_w hw 40 rfl) (own_w hw 42 rfl) (own_w hw 41 rfl) (rm_sLen_4 l Z a0 hw [] aS tA kA y0 y1 y2 y3 zCS h3 n0 (Nat.le_trans Z0 E3.1) O3 (Exa.ext E3 E_0) (Fld.ext E3 F0v) (Fld.ext E3 F0c) (Arv.ext R_A E3) S_CS P_CS) (own_w hw 43 rfl) (own_w hw 7 rfl) e3 (Exa.ext E3 E_0) (by decide) own_pd9 d7_16 rfl rfl rfl (fun T4 L4 v4 X4 hQ4 => ?_)
  obtain ⟨rfl, Nq4, eq4⟩ := hQ4
  have N4 := Fr.app N1 Nq4
  show gs T4 m 19 #[vr a1, vr aS, vr b3, vi 0] [(.int 4), (.int 0)]
  refine own_st (fun _ kS => XS.icmpNo X4.here hx rfl (hb hby d7_19) rfl (tlt (by decide : (0 : Int32) < (4 : Int32))).2.1 kS) ?_
  show gs T4 m 22 #[vr a1, vr aS, vr b3, vi 0] []
  refine oaloadN X4 hx hby d7_22 rfl rfl ?_
  refine oaloadN X4 hx hby d7_23 rfl rfl ?_
  obtain ⟨T5, X5, e5, st5⟩ := getF X4 hx hZ hown (host := "") (Or.inl (own_w hw 51 rfl)) Via.refl eq4 (Fld.ext O3.2 Fl) (g := (mkF m 24 #[vr a1, vr aS, vr b3, vi 0] [(.ref a1), (.ref b3)])) rfl rfl (hb hby d7_24)
  refine own_st st5 ?_
  show gs T5 m 27 #[vr a1, vr aS, vr b3, vi 0] [(.int 1), (.ref b3)]
  refine own_st (fun _ kS => XS.ifNo X5.here hx rfl (hb hby d7_27) rfl ((if0 _ _).trans (feq (by decide : ¬ ((1 : Int32) = (0 : Int32)))).1) kS) ?_
  show gs T5 m 30 #[vr a1, vr aS, vr b3, vi 0] [(.ref b3)]
  refine oiloadN X5 hx hby d7_30 rfl ?_
  refine oaloadN X5 hx hby d7_31 rfl rfl ?_
  obtain ⟨T6, X6, e6, st6⟩ := getF X5 hx hZ hown (host := "") (Or.inl (own_w hw 49 rfl)) Via.refl e5 (Fld.ext O3.2 Fw) (g := (mkF m 32 #[vr a1, vr aS, vr b3, vi 0] [(.ref a1), (.int 0), (.ref b3)])) rfl rfl (hb hby d7_32)
  refine own_st st6 ?_
  show gs T6 m 35 #[vr a1, vr aS, vr b3, vi 0] [(.int 4), (.int 0), (.ref b3)]
  refine own_st (fun _ kS => XS.imul X6.here hx rfl (hb hby d7_35) rfl kS) ?_
  refine own_st (fun _ kS => XS.goto X6.here hx rfl (pc0 := 36) (pc' := 52) rfl (hb hby d7_36) (by decide) (by decide) kS) ?_
  refine oaloadN X6 hx hby d7_52 rfl rfl ?_
  refine oiloadN X6 hx hby d7_53 rfl ?_
  refine oV 2 X6 hx hZ hby hml hown (own_w hw 53 rfl) (own_w hw 54 rfl) (own_w hw 56 rfl) (own_w hw 55 rfl) (rm_chAt_4_0 l Z a0 hw [] aS tA kA y0 y1 y2 y3 zCS fm h3 n0 (Nat.le_trans Z0 E3.1) O3 (Exa.ext E3 E_0) (Fld.ext E3 F0v) (Fld.ext E3 F0c) (Arv.ext R_A E3) S_CS P_CS S_SF P_SF) (own_w hw 57 rfl) (own_w hw 7 rfl) e6 (Exa.ext E3 E_0) (by decide) own_pd10 d7_54 rfl rfl rfl (fun T7 L7 v7 X7 hQ7 => ?_)
  obtain ⟨rfl, Nq7, eq7⟩ := hQ7
  have N7 := Fr.app N4 Nq7
  show gs T7 m 57 #[vr a1, vr aS, vr b3, vi 0] [(.int (own_lat y0)), (.int 0), (.ref b3)]
  refine own_st (fun _ kS => XT.i2b X7.here hx rfl (hb hby d7_57) rfl kS) ?_
  show gs T7 m 58 #[vr a1, vr aS, vr b3, vi 0] [(.int ((own_lat y0).toInt8.toInt32)), (.int 0), (.ref b3)]
  obtain ⟨cl8, Ar8, qa8, qs8, qn8, qh8, qg8⟩ := id R3
  obtain ⟨T8, h8, X8, e8, W8, st8⟩ := stB X7 hx hZ eq7 Ar8 (j := (0 : Int32)) (inb_of qs8 ⟨by decide, by decide⟩) (g := (mkF m 58 #[vr a1, vr aS, vr b3, vi 0] [(.int ((own_lat y0).toInt8.toInt32)), (.int 0), (.ref b3)])) rfl rfl (hb hby d7_58)
  have N8 := Fr.snoc X8 N7 ge_b3
  have K8 := K3.wr W8 (Or.inr sz_b3)
  have O8 := O3.wr W8 ge_b3
  have R8 : Arv Z h8 b3 k3 .byte (16 : Int32) [(.int (nar .byte ((own_lat y0).toInt8.toInt32))), (.int 0), (.int 0), (.int 0), (.int 0), (.int 0), (.int 0), (.int 0), (.int 0), (.int 0), (.int 0), (.int 0), (.int 0), (.int 0), (.int 0), (.int 0)] (.int 0) := Arv.set Ar8 qa8 qs8 qn8 qh8 qg8 (fits_nar_byte _) W8 0 rfl (Nat.le_of_ble_eq_true rfl)
  refine own_st st8 ?_
  show gs T8 m 59 #[vr a1, vr aS, vr b3, vi 0] []
  refine own_st (fun _ kS => XS.iinc X8.here hx rfl (hb hby d7_59) rfl (l' := #[vr a1, vr aS, vr b3, vi 1]) rfl kS) ?_
  refine own_st (fun _ kS => XS.goto X8.here hx rfl (pc0 := 62) (pc' := 14) rfl (hb hby d7_62) (by decide) (by decide) kS) ?_
  refine oiloadN X8 hx hby d7_14 rfl ?_
  refine oaloadN X8 hx hby d7_15 rfl rfl ?_
  refine oV 1 X8 hx hZ hby hml hown (own_w hw 39 rfl) (own_w hw 40 rfl) (own_w hw 42 rfl) (own_w hw 41 rfl) (rm_sLen_4 l Z a0 hw [] aS tA kA y0 y1 y2 y3 zCS h8 n0 (Nat.le_trans (Nat.le_trans Z0 E3.1) (Keep.of_wr W8).1) O8 (Exa.wr W8 (Exa.ext E3 E_0)) (Fld.other W8 (Fld.ext E3 F0v) (Or.inl ne_aS_b3)) (Fld.other W8 (Fld.ext E3 F0c) (Or.inl ne_aS_b3)) ((Arv.ext R_A E3).other W8 ne_tA_b3) S_CS P_CS) (own_w hw 43 rfl) (own_w hw 7 rfl) e8 (Exa.wr W8 (Exa.ext E3 E_0)) (by decide) own_pd9 d7_16 rfl rfl rfl (fun T9 L9 v9 X9 hQ9 => ?_)
  obtain ⟨rfl, Nq9, eq9⟩ := hQ9
  have N9 := Fr.app N8 Nq9
  show gs T9 m 19 #[vr a1, vr aS, vr b3, vi 1] [(.int 4), (.int 1)]
  refine own_st (fun _ kS => XS.icmpNo X9.here hx rfl (hb hby d7_19) rfl (tlt (by decide : (1 : Int32) < (4 : Int32))).2.1 kS) ?_
  show gs T9 m 22 #[vr a1, vr aS, vr b3, vi 1] []
  refine oaloadN X9 hx hby d7_22 rfl rfl ?_
  refine oaloadN X9 hx hby d7_23 rfl rfl ?_
  obtain ⟨T10, X10, e10, st10⟩ := getF X9 hx hZ hown (host := "") (Or.inl (own_w hw 51 rfl)) Via.refl eq9 (Fld.ext O8.2 Fl) (g := (mkF m 24 #[vr a1, vr aS, vr b3, vi 1] [(.ref a1), (.ref b3)])) rfl rfl (hb hby d7_24)
  refine own_st st10 ?_
  show gs T10 m 27 #[vr a1, vr aS, vr b3, vi 1] [(.int 1), (.ref b3)]
  refine own_st (fun _ kS => XS.ifNo X10.here hx rfl (hb hby d7_27) rfl ((if0 _ _).trans (feq (by decide : ¬ ((1 : Int32) = (0 : Int32)))).1) kS) ?_
  show gs T10 m 30 #[vr a1, vr aS, vr b3, vi 1] [(.ref b3)]
  refine oiloadN X10 hx hby d7_30 rfl ?_
  refine oaloadN X10 hx hby d7_31 rfl rfl ?_
  obtain ⟨T11, X11, e11, st11⟩ := getF X10 hx hZ hown (host := "") (Or.inl (own_w hw 49 rfl)) Via.refl e10 (Fld.ext O8.2 Fw) (g := (mkF m 32 #[vr a1, vr aS, vr b3, vi 1] [(.ref a1), (.int 1), (.ref b3)])) rfl rfl (hb hby d7_32)
  refine own_st st11 ?_
  show gs T11 m 35 #[vr a1, vr aS, vr b3, vi 1] [(.int 4), (.int 1), (.ref b3)]
  refine own_st (fun _ kS => XS.imul X11.here hx rfl (hb hby d7_35) rfl kS) ?_
  refine own_st (fun _ kS => XS.goto X11.here hx rfl (pc0 := 36) (pc' := 52) rfl (hb hby d7_36) (by decide) (by decide) kS) ?_
  refine oaloadN X11 hx hby d7_52 rfl rfl ?_
  refine oiloadN X11 hx hby d7_53 rfl ?_
  refine oV 2 X11 hx hZ hby hml hown (own_w hw 53 rfl) (own_w hw 54 rfl) (own_w hw 56 rfl) (own_w hw 55 rfl) (rm_chAt_4_1 l Z a0 hw [] aS tA kA y0 y1 y2 y3 zCS fm h8 n0 (Nat.le_trans (Nat.le_trans Z0 E3.1) (Keep.of_wr W8).1) O8 (Exa.wr W8 (Exa.ext E3 E_0)) (Fld.other W8 (Fld.ext E3 F0v) (Or.inl ne_aS_b3)) (Fld.other W8 (Fld.ext E3 F0c) (Or.inl ne_aS_b3)) ((Arv.ext R_A E3).other W8 ne_tA_b3) S_CS P_CS S_SF P_SF) (own_w hw 57 rfl) (own_w hw 7 rfl) e11 (Exa.wr W8 (Exa.ext E3 E_0)) (by decide) own_pd10 d7_54 rfl rfl rfl (fun T12 L12 v12 X12 hQ12 => ?_)
  obtain ⟨rfl, Nq12, eq12⟩ := hQ12
  have N12 := Fr.app N9 Nq12
  show gs T12 m 57 #[vr a1, vr aS, vr b3, vi 1] [(.int (own_lat y1)), (.int 4), (.ref b3)]
  refine own_st (fun _ kS => XT.i2b X12.here hx rfl (hb hby d7_57) rfl kS) ?_
  show gs T12 m 58 #[vr a1, vr aS, vr b3, vi 1] [(.int ((own_lat y1).toInt8.toInt32)), (.int 4), (.ref b3)]
  obtain ⟨cl13, Ar13, qa13, qs13, qn13, qh13, qg13⟩ := id R8
  obtain ⟨T13, h13, X13, e13, W13, st13⟩ := stB X12 hx hZ eq12 Ar13 (j := (4 : Int32)) (inb_of qs13 ⟨by decide, by decide⟩) (g := (mkF m 58 #[vr a1, vr aS, vr b3, vi 1] [(.int ((own_lat y1).toInt8.toInt32)), (.int 4), (.ref b3)])) rfl rfl (hb hby d7_58)
  have N13 := Fr.snoc X13 N12 ge_b3
  have K13 := K8.wr W13 (Or.inr sz_b3)
  have O13 := O8.wr W13 ge_b3
  have R13 : Arv Z h13 b3 k3 .byte (16 : Int32) [(.int (nar .byte ((own_lat y0).toInt8.toInt32))), (.int 0), (.int 0), (.int 0), (.int (nar .byte ((own_lat y1).toInt8.toInt32))), (.int 0), (.int 0), (.int 0), (.int 0), (.int 0), (.int 0), (.int 0), (.int 0), (.int 0), (.int 0), (.int 0)] (.int 0) := Arv.set Ar13 qa13 qs13 qn13 qh13 qg13 (fits_nar_byte _) W13 4 rfl (Nat.le_of_ble_eq_true rfl)
  refine own_st st13 ?_
  show gs T13 m 59 #[vr a1, vr aS, vr b3, vi 1] []
  refine own_st (fun _ kS => XS.iinc X13.here hx rfl (hb hby d7_59) rfl (l' := #[vr a1, vr aS, vr b3, vi 2]) rfl kS) ?_
  refine own_st (fun _ kS => XS.goto X13.here hx rfl (pc0 := 62) (pc' := 14) rfl (hb hby d7_62) (by decide) (by decide) kS) ?_
  refine oiloadN X13 hx hby d7_14 rfl ?_
  refine oaloadN X13 hx hby d7_15 rfl rfl ?_
  refine oV 1 X13 hx hZ hby hml hown (own_w hw 39 rfl) (own_w hw 40 rfl) (own_w hw 42 rfl) (own_w hw 41 rfl) (rm_sLen_4 l Z a0 hw [] aS tA kA y0 y1 y2 y3 zCS h13 n0 (Nat.le_trans (Nat.le_trans (Nat.le_trans Z0 E3.1) (Keep.of_wr W8).1) (Keep.of_wr W13).1) O13 (Exa.wr W13 (Exa.wr W8 (Exa.ext E3 E_0))) (Fld.other W13 (Fld.other W8 (Fld.ext E3 F0v) (Or.inl ne_aS_b3)) (Or.inl ne_aS_b3)) (Fld.other W13 (Fld.other W8 (Fld.ext E3 F0c) (Or.inl ne_aS_b3)) (Or.inl ne_aS_b3)) (((Arv.ext R_A E3).other W8 ne_tA_b3).other W13 ne_tA_b3) S_CS P_CS) (own_w hw 43 rfl) (own_w hw 7 rfl) e13 (Exa.wr W13 (Exa.wr W8 (Exa.ext E3 E_0))) (by decide) own_pd9 d7_16 rfl rfl rfl (fun T14 L14 v14 X14 hQ14 => ?_)
  obtain ⟨rfl, Nq14, eq14⟩ := hQ14
  have N14 := Fr.app N13 Nq14
  show gs T14 m 19 #[vr a1, vr aS, vr b3, vi 2] [(.int 4), (.int 2)]
  refine own_st (fun _ kS => XS.icmpNo X14.here hx rfl (hb hby d7_19) rfl (tlt (by decide : (2 : Int32) < (4 : Int32))).2.1 kS) ?_
  show gs T14 m 22 #[vr a1, vr aS, vr b3, vi 2] []
  refine oaloadN X14 hx hby d7_22 rfl rfl ?_
  refine oaloadN X14 hx hby d7_23 rfl rfl ?_
  obtain ⟨T15, X15, e15, st15⟩ := getF X14 hx hZ hown (host := "") (Or.inl (own_w hw 51 rfl)) Via.refl eq14 (Fld.ext O13.2 Fl) (g := (mkF m 24 #[vr a1, vr aS, vr b3, vi 2] [(.ref a1), (.ref b3)])) rfl rfl (hb hby d7_24)
  refine own_st st15 ?_
  show gs T15 m 27 #[vr a1, vr aS, vr b3, vi 2] [(.int 1), (.ref b3)]
  refine own_st (fun _ kS => XS.ifNo X15.here hx rfl (hb hby d7_27) rfl ((if0 _ _).trans (feq (by decide : ¬ ((1 : Int32) = (0 : Int32)))).1) kS) ?_
  show gs T15 m 30 #[vr a1, vr aS, vr b3, vi 2] [(.ref b3)]
  refine oiloadN X15 hx hby d7_30 rfl ?_
  refine oaloadN X15 hx hby d7_31 rfl rfl ?_
  obtain ⟨T16, X16, e16, st16⟩ := getF X15 hx hZ hown (host := "") (Or.inl (own_w hw 49 rfl)) Via.refl e15 (Fld.ext O13.2 Fw) (g := (mkF m 32 #[vr a1, vr aS, vr b3, vi 2] [(.ref a1), (.int 2), (.ref b3)])) rfl rfl (hb hby d7_32)
  refine own_st st16 ?_
  show gs T16 m 35 #[vr a1, vr aS, vr b3, vi 2] [(.int 4), (.int 2), (.ref b3)]
  refine own_st (fun _ kS => XS.imul X16.here hx rfl (hb hby d7_35) rfl kS) ?_
  refine own_st (fun _ kS => XS.goto X16.here hx rfl (pc0 := 36) (pc' := 52) rfl (hb hby d7_36) (by decide) (by decide) kS) ?_
  refine oaloadN X16 hx hby d7_52 rfl rfl ?_
  refine oiloadN X16 hx hby d7_53 rfl ?_
  refine oV 2 X16 hx hZ hby hml hown (own_w hw 53 rfl) (own_w hw 54 rfl) (own_w hw 56 rfl) (own_w hw 55 rfl) (rm_chAt_4_2 l Z a0 hw [] aS tA kA y0 y1 y2 y3 zCS fm h13 n0 (Nat.le_trans (Nat.le_trans (Nat.le_trans Z0 E3.1) (Keep.of_wr W8).1) (Keep.of_wr W13).1) O13 (Exa.wr W13 (Exa.wr W8 (Exa.ext E3 E_0))) (Fld.other W13 (Fld.other W8 (Fld.ext E3 F0v) (Or.inl ne_aS_b3)) (Or.inl ne_aS_b3)) (Fld.other W13 (Fld.other W8 (Fld.ext E3 F0c) (Or.inl ne_aS_b3)) (Or.inl ne_aS_b3)) (((Arv.ext R_A E3).other W8 ne_tA_b3).other W13 ne_tA_b3) S_CS P_CS S_SF P_SF) (own_w hw 57 rfl) (own_w hw 7 rfl) e16 (Exa.wr W13 (Exa.wr W8 (Exa.ext E3 E_0))) (by decide) own_pd10 d7_54 rfl rfl rfl (fun T17 L17 v17 X17 hQ17 => ?_)
  obtain ⟨rfl, Nq17, eq17⟩ := hQ17
  have N17 := Fr.app N14 Nq17
  show gs T17 m 57 #[vr a1, vr aS, vr b3, vi 2] [(.int (own_lat y2)), (.int 8), (.ref b3)]
  refine own_st (fun _ kS => XT.i2b X17.here hx rfl (hb hby d7_57) rfl kS) ?_
  show gs T17 m 58 #[vr a1, vr aS, vr b3, vi 2] [(.int ((own_lat y2).toInt8.toInt32)), (.int 8), (.ref b3)]
  obtain ⟨cl18, Ar18, qa18, qs18, qn18, qh18, qg18⟩ := id R13
  obtain ⟨T18, h18, X18, e18, W18, st18⟩ := stB X17 hx hZ eq17 Ar18 (j := (8 : Int32)) (inb_of qs18 ⟨by decide, by decide⟩) (g := (mkF m 58 #[vr a1, vr aS, vr b3, vi 2] [(.int ((own_lat y2).toInt8.toInt32)), (.int 8), (.ref b3)])) rfl rfl (hb hby d7_58)
  have N18 := Fr.snoc X18 N17 ge_b3
  have K18 := K13.wr W18 (Or.inr sz_b3)
  have O18 := O13.wr W18 ge_b3
  have R18 : Arv Z h18 b3 k3 .byte (16 : Int32) [(.int (nar .byte ((own_lat y0).toInt8.toInt32))), (.int 0), (.int 0), (.int 0), (.int (nar .byte ((own_lat y1).toInt8.toInt32))), (.int 0), (.int 0), (.int 0), (.int (nar .byte ((own_lat y2).toInt8.toInt32))), (.int 0), (.int 0), (.int 0), (.int 0), (.int 0), (.int 0), (.int 0)] (.int 0) := Arv.set Ar18 qa18 qs18 qn18 qh18 qg18 (fits_nar_byte _) W18 8 rfl (Nat.le_of_ble_eq_true rfl)
  refine own_st st18 ?_
  show gs T18 m 59 #[vr a1, vr aS, vr b3, vi 2] []
  refine own_st (fun _ kS => XS.iinc X18.here hx rfl (hb hby d7_59) rfl (l' := #[vr a1, vr aS, vr b3, vi 3]) rfl kS) ?_
  refine own_st (fun _ kS => XS.goto X18.here hx rfl (pc0 := 62) (pc' := 14) rfl (hb hby d7_62) (by decide) (by decide) kS) ?_
  refine oiloadN X18 hx hby d7_14 rfl ?_
  refine oaloadN X18 hx hby d7_15 rfl rfl ?_
  refine oV 1 X18 hx hZ hby hml hown (own_w hw 39 rfl) (own_w hw 40 rfl) (own_w hw 42 rfl) (own_w hw 41 rfl) (rm_sLen_4 l Z a0 hw [] aS tA kA y0 y1 y2 y3 zCS h18 n0 (Nat.le_trans (Nat.le_trans (Nat.le_trans (Nat.le_trans Z0 E3.1) (Keep.of_wr W8).1) (Keep.of_wr W13).1) (Keep.of_wr W18).1) O18 (Exa.wr W18 (Exa.wr W13 (Exa.wr W8 (Exa.ext E3 E_0)))) (Fld.other W18 (Fld.other W13 (Fld.other W8 (Fld.ext E3 F0v) (Or.inl ne_aS_b3)) (Or.inl ne_aS_b3)) (Or.inl ne_aS_b3)) (Fld.other W18 (Fld.other W13 (Fld.other W8 (Fld.ext E3 F0c) (Or.inl ne_aS_b3)) (Or.inl ne_aS_b3)) (Or.inl ne_aS_b3)) ((((Arv.ext R_A E3).other W8 ne_tA_b3).other W13 ne_tA_b3).other W18 ne_tA_b3) S_CS P_CS) (own_w hw 43 rfl) (own_w hw 7 rfl) e18 (Exa.wr W18 (Exa.wr W13 (Exa.wr W8 (Exa.ext E3 E_0)))) (by decide) own_pd9 d7_16 rfl rfl rfl (fun T19 L19 v19 X19 hQ19 => ?_)
  obtain ⟨rfl, Nq19, eq19⟩ := hQ19
  have N19 := Fr.app N18 Nq19
  show gs T19 m 19 #[vr a1, vr aS, vr b3, vi 3] [(.int 4), (.int 3)]
  refine own_st (fun _ kS => XS.icmpNo X19.here hx rfl (hb hby d7_19) rfl (tlt (by decide : (3 : Int32) < (4 : Int32))).2.1 kS) ?_
  show gs T19 m 22 #[vr a1, vr aS, vr b3, vi 3] []
  refine oaloadN X19 hx hby d7_22 rfl rfl ?_
  refine oaloadN X19 hx hby d7_23 rfl rfl ?_
  obtain ⟨T20, X20, e20, st20⟩ := getF X19 hx hZ hown (host := "") (Or.inl (own_w hw 51 rfl)) Via.refl eq19 (Fld.ext O18.2 Fl) (g := (mkF m 24 #[vr a1, vr aS, vr b3, vi 3] [(.ref a1), (.ref b3)])) rfl rfl (hb hby d7_24)
  refine own_st st20 ?_
  show gs T20 m 27 #[vr a1, vr aS, vr b3, vi 3] [(.int 1), (.ref b3)]
  refine own_st (fun _ kS => XS.ifNo X20.here hx rfl (hb hby d7_27) rfl ((if0 _ _).trans (feq (by decide : ¬ ((1 : Int32) = (0 : Int32)))).1) kS) ?_
  show gs T20 m 30 #[vr a1, vr aS, vr b3, vi 3] [(.ref b3)]
  refine oiloadN X20 hx hby d7_30 rfl ?_
  refine oaloadN X20 hx hby d7_31 rfl rfl ?_
  obtain ⟨T21, X21, e21, st21⟩ := getF X20 hx hZ hown (host := "") (Or.inl (own_w hw 49 rfl)) Via.refl e20 (Fld.ext O18.2 Fw) (g := (mkF m 32 #[vr a1, vr aS, vr b3, vi 3] [(.ref a1), (.int 3), (.ref b3)])) rfl rfl (hb hby d7_32)
  refine own_st st21 ?_
  show gs T21 m 35 #[vr a1, vr aS, vr b3, vi 3] [(.int 4), (.int 3), (.ref b3)]
  refine own_st (fun _ kS => XS.imul X21.here hx rfl (hb hby d7_35) rfl kS) ?_
  refine own_st (fun _ kS => XS.goto X21.here hx rfl (pc0 := 36) (pc' := 52) rfl (hb hby d7_36) (by decide) (by decide) kS) ?_
  refine oaloadN X21 hx hby d7_52 rfl rfl ?_
  refine oiloadN X21 hx hby d7_53 rfl ?_
  refine oV 2 X21 hx hZ hby hml hown (own_w hw 53 rfl) (own_w hw 54 rfl) (own_w hw 56 rfl) (own_w hw 55 rfl) (rm_chAt_4_3 l Z a0 hw [] aS tA kA y0 y1 y2 y3 zCS fm h18 n0 (Nat.le_trans (Nat.le_trans (Nat.le_trans (Nat.le_trans Z0 E3.1) (Keep.of_wr W8).1) (Keep.of_wr W13).1) (Keep.of_wr W18).1) O18 (Exa.wr W18 (Exa.wr W13 (Exa.wr W8 (Exa.ext E3 E_0)))) (Fld.other W18 (Fld.other W13 (Fld.other W8 (Fld.ext E3 F0v) (Or.inl ne_aS_b3)) (Or.inl ne_aS_b3)) (Or.inl ne_aS_b3)) (Fld.other W18 (Fld.other W13 (Fld.other W8 (Fld.ext E3 F0c) (Or.inl ne_aS_b3)) (Or.inl ne_aS_b3)) (Or.inl ne_aS_b3)) ((((Arv.ext R_A E3).other W8 ne_tA_b3).other W13 ne_tA_b3).other W18 ne_tA_b3) S_CS P_CS S_SF P_SF) (own_w hw 57 rfl) (own_w hw 7 rfl) e21 (Exa.wr W18 (Exa.wr W13 (Exa.wr W8 (Exa.ext E3 E_0)))) (by decide) own_pd10 d7_54 rfl rfl rfl (fun T22 L22 v22 X22 hQ22 => ?_)
  obtain ⟨rfl, Nq22, eq22⟩ := hQ22
  have N22 := Fr.app N19 Nq22
  show gs T22 m 57 #[vr a1, vr aS, vr b3, vi 3] [(.int (own_lat y3)), (.int 12), (.ref b3)]
  refine own_st (fun _ kS => XT.i2b X22.here hx rfl (hb hby d7_57) rfl kS) ?_
  show gs T22 m 58 #[vr a1, vr aS, vr b3, vi 3] [(.int ((own_lat y3).toInt8.toInt32)), (.int 12), (.ref b3)]
  obtain ⟨cl23, Ar23, qa23, qs23, qn23, qh23, qg23⟩ := id R18
  obtain ⟨T23, h23, X23, e23, W23, st23⟩ := stB X22 hx hZ eq22 Ar23 (j := (12 : Int32)) (inb_of qs23 ⟨by decide, by decide⟩) (g := (mkF m 58 #[vr a1, vr aS, vr b3, vi 3] [(.int ((own_lat y3).toInt8.toInt32)), (.int 12), (.ref b3)])) rfl rfl (hb hby d7_58)
  have N23 := Fr.snoc X23 N22 ge_b3
  have K23 := K18.wr W23 (Or.inr sz_b3)
  have O23 := O18.wr W23 ge_b3
  have R23 : Arv Z h23 b3 k3 .byte (16 : Int32) [(.int (nar .byte ((own_lat y0).toInt8.toInt32))), (.int 0), (.int 0), (.int 0), (.int (nar .byte ((own_lat y1).toInt8.toInt32))), (.int 0), (.int 0), (.int 0), (.int (nar .byte ((own_lat y2).toInt8.toInt32))), (.int 0), (.int 0), (.int 0), (.int (nar .byte ((own_lat y3).toInt8.toInt32))), (.int 0), (.int 0), (.int 0)] (.int 0) := Arv.set Ar23 qa23 qs23 qn23 qh23 qg23 (fits_nar_byte _) W23 12 rfl (Nat.le_of_ble_eq_true rfl)
  refine own_st st23 ?_
  show gs T23 m 59 #[vr a1, vr aS, vr b3, vi 3] []
  refine own_st (fun _ kS => XS.iinc X23.here hx rfl (hb hby d7_59) rfl (l' := #[vr a1, vr aS, vr b3, vi 4]) rfl kS) ?_
  refine own_st (fun _ kS => XS.goto X23.here hx rfl (pc0 := 62) (pc' := 14) rfl (hb hby d7_62) (by decide) (by decide) kS) ?_
  refine oiloadN X23 hx hby d7_14 rfl ?_
  refine oaloadN X23 hx hby d7_15 rfl rfl ?_
  refine oV 1 X23 hx hZ hby hml hown (own_w hw 39 rfl) (own_w hw 40 rfl) (own_w hw 42 rfl) (own_w hw 41 rfl) (rm_sLen_4 l Z a0 hw [] aS tA kA y0 y1 y2 y3 zCS h23 n0 (Nat.le_trans (Nat.le_trans (Nat.le_trans (Nat.le_trans (Nat.le_trans Z0 E3.1) (Keep.of_wr W8).1) (Keep.of_wr W13).1) (Keep.of_wr W18).1) (Keep.of_wr W23).1) O23 (Exa.wr W23 (Exa.wr W18 (Exa.wr W13 (Exa.wr W8 (Exa.ext E3 E_0))))) (Fld.other W23 (Fld.other W18 (Fld.other W13 (Fld.other W8 (Fld.ext E3 F0v) (Or.inl ne_aS_b3)) (Or.inl ne_aS_b3)) (Or.inl ne_aS_b3)) (Or.inl ne_aS_b3)) (Fld.other W23 (Fld.other W18 (Fld.other W13 (Fld.other W8 (Fld.ext E3 F0c) (Or.inl ne_aS_b3)) (Or.inl ne_aS_b3)) (Or.inl ne_aS_b3)) (Or.inl ne_aS_b3)) (((((Arv.ext R_A E3).other W8 ne_tA_b3).other W13 ne_tA_b3).other W18 ne_tA_b3).other W23 ne_tA_b3) S_CS P_CS) (own_w hw 43 rfl) (own_w hw 7 rfl) e23 (Exa.wr W23 (Exa.wr W18 (Exa.wr W13 (Exa.wr W8 (Exa.ext E3 E_0))))) (by decide) own_pd9 d7_16 rfl rfl rfl (fun T24 L24 v24 X24 hQ24 => ?_)
  obtain ⟨rfl, Nq24, eq24⟩ := hQ24
  have N24 := Fr.app N23 Nq24
  show gs T24 m 19 #[vr a1, vr aS, vr b3, vi 4] [(.int 4), (.int 4)]
  refine own_st (fun _ kS => XS.icmpYes X24.here hx rfl (pc0 := 19) (pc' := 65) rfl (hb hby d7_19) rfl (flt (by decide : ¬ ((4 : Int32) < (4 : Int32)))).2.1 (by decide) (by decide) kS) ?_
  show gs T24 m 65 #[vr a1, vr aS, vr b3, vi 4] []
  refine oaloadN X24 hx hby d7_65 rfl rfl ?_
  exact own_retA X24 hx hlk hret rfl rfl (hb hby d7_66) (by decide) (by decide) (by rw [eq24]; exact ⟨b3, k3, ⟨rfl, N24, K23, sz_b3, R23⟩⟩)
theorem ef_enc_4_2_0 (m : MethodId) (x0 : Addr) (x1 : Addr) : entryFrame m #[(.ref x0), (.ref x1)] 4 = mkF m 0 #[.val (.ref x0), .val (.ref x1), .unset, .unset] [] := by first | (simp [entryFrame, mkF, argsToLocals, Value.category]; done) | rfl
def Q_enc_4_2_0 (Z : State) (a1 : Addr) (aS : Addr) (tA : Addr) (kA : ClassId) (y0 : Int32) (y1 : Int32) (y2 : Int32) (y3 : Int32) (zCS : Int32) (fm : Value) (h0 : Heap) (n0 : Nat) (v : Option Value) (h : Heap) (L : List Loc) : Prop := ∃ tN : Addr, ∃ kN : ClassId, v = some (.ref tN) ∧ Fr n0 L ∧ Keep h0 h [] ∧ h0.size ≤ tN ∧ Arv Z h tN kN .byte (8 : Int32) [(.int 0), (.int (nar .byte ((own_lat y0).toInt8.toInt32))), (.int 0), (.int (nar .byte ((own_lat y1).toInt8.toInt32))), (.int 0), (.int (nar .byte ((own_lat y2).toInt8.toInt32))), (.int 0), (.int (nar .byte ((own_lat y3).toInt8.toInt32)))] (.int 0)
theorem rm_enc_4_2_0 (l : Launch) (Z : State) (a0 : Array Value) (hw : HW a0 Z) (ws : List Jvm.Cond) (a1 : Addr) (aS : Addr) (tA : Addr) (kA : ClassId) (y0 : Int32) (y1 : Int32) (y2 : Int32) (y3 : Int32) (zCS : Int32) (fm : Value) (h0 : Heap) (n0 : Nat) (Z0 : n0 ≤ h0.size) (O0 : Old Z n0 h0) (Fw : fk10 Z Z.heap a1 (.int 2)) (Fl : fk11 Z Z.heap a1 (.int 0)) (E_0 : ek12 Z h0 aS) (F0v : fk9 Z h0 aS (.ref tA)) (F0c : fk8 Z h0 aS (.int 0)) (R_A : Arv Z h0 tA kA .byte (4 : Int32) [(.int y0), (.int y1), (.int y2), (.int y3)] (.int 0)) (S_CS : sk0 Z Z.heap (.int zCS)) (P_CS : ¬ zCS = 0) (S_SF : sk1 Z Z.heap fm) (P_SF : fm.isRef = true) :
    M12 l ws (rmk 4 1 8 55) Z #[(.ref a1), (.ref aS)] h0 (Q_enc_4_2_0 Z a1 aS tA kA y0 y1 y2 y3 zCS fm h0 n0) := by
  refine own_go "com/example/provenir/provenir/TextEncoding" rfl (plainFor_of_name pn_7) (fun m => ef_enc_4_2_0 m a1 aS) (fun p e s m below meth c s₁ hx hby hml hown hnm hlk hret hZ X0 e0 => ?_)
  have N0 := Fr.nil n0
  have K0 := Keep.refl h0 []
  show gs s₁ m 0 #[vr a1, vr aS, .unset, .unset] []
  refine oaloadN X0 hx hby d7_0 rfl rfl ?_
  refine oV 0 X0 hx hZ hby hml hown (own_w hw 39 rfl) (own_w hw 40 rfl) (own_w hw 42 rfl) (own_w hw 41 rfl) (rm_sLen_4 l Z a0 hw [] aS tA kA y0 y1 y2 y3 zCS h0 n0 Z0 O0 E_0 F0v F0c R_A S_CS P_CS) (own_w hw 43 rfl) (own_w hw 7 rfl) e0 E_0 (by decide) own_pd9 d7_1 rfl rfl rfl (fun T1 L1 v1 X1 hQ1 => ?_)
  obtain ⟨rfl, Nq1, eq1⟩ := hQ1
  have N1 := Fr.app N0 Nq1
  show gs T1 m 4 #[vr a1, vr aS, .unset, .unset] [(.int 4)]
  refine oaloadN X1 hx hby d7_4 rfl rfl ?_
  obtain ⟨T2, X2, e2, st2⟩ := getF X1 hx hZ hown (host := "") (Or.inl (own_w hw 49 rfl)) Via.refl eq1 (Fld.ext O0.2 Fw) (g := (mkF m 5 #[vr a1, vr aS, .unset, .unset] [(.ref a1), (.int 4)])) rfl rfl (hb hby d7_5)
  refine own_st st2 ?_
  show gs T2 m 8 #[vr a1, vr aS, .unset, .unset] [(.int 2), (.int 4)]
  refine own_st (fun _ kS => XS.imul X2.here hx rfl (hb hby d7_8) rfl kS) ?_
  show gs T2 m 9 #[vr a1, vr aS, .unset, .unset] [(.int 8)]
  obtain ⟨T3, h3, k3, X3, e3, E3, A3, st3⟩ := newP X2 hx hZ (own_w hw 23 rfl) e2 (g := (mkF m 9 #[vr a1, vr aS, .unset, .unset] [(.int 8)])) rfl (hb hby d7_9) rfl (by decide) (cap := 8) (by decide) (by decide) (by decide) (by decide)
  obtain ⟨b3, g3⟩ : ∃ z, z = h0.size := ⟨_, rfl⟩
  have ne_aS_b3 : aS ≠ b3 := Nat.ne_of_lt (Nat.lt_of_lt_of_eq E_0.lt g3.symm)
  have ne_tA_b3 : tA ≠ b3 := Nat.ne_of_lt (Nat.lt_of_lt_of_eq R_A.lt g3.symm)
  have ge_b3 : n0 ≤ b3 := Nat.le_trans Z0 (Nat.le_of_eq g3.symm)
  have sz_b3 : h0.size ≤ b3 := Nat.le_trans K0.1 (Nat.le_of_eq g3.symm)
  rw [← g3] at A3 st3
  have K3 := K0.ext E3
  have O3 := O0.ext E3
  have R3 : Arv Z h3 b3 k3 .byte (8 : Int32) [(.int 0), (.int 0), (.int 0), (.int 0), (.int 0), (.int 0), (.int 0), (.int 0)] (.int 0) := (Arv.new A3 (by decide)).pad (pad_rep [] (.int 0) 8)
  refine own_st st3 ?_
  show gs T3 m 11 #[vr a1, vr aS, .unset, .unset] [(.ref b3)]
  refine own_st (fun _ kS => XS.astoreN X3.here hx rfl (hb hby d7_11) rfl rfl (l' := #[vr a1, vr aS, vr b3, .unset]) rfl kS) ?_
  refine oiconst X3 hx hby d7_12 ?_
  refine own_st (fun _ kS => XS.istoreN X3.here hx rfl (hb hby d7_13) rfl (l' := #[vr a1, vr aS, vr b3, vi 0]) rfl kS) ?_
  refine oiloadN X3 hx hby d7_14 rfl ?_
  refine oaloadN X3 hx hby d7_15 rfl rfl ?_
  refine oV 1 X3 hx hZ hby hml hown (own_w hw 39 rfl) (own_w hw 40 rfl) (own_w hw 42 rfl) (own_w hw 41 rfl) (rm_sLen_4 l Z a0 hw [] aS tA kA y0 y1 y2 y3 zCS h3 n0 (Nat.le_trans Z0 E3.1) O3 (Exa.ext E3 E_0) (Fld.ext E3 F0v) (Fld.ext E3 F0c) (Arv.ext R_A E3) S_CS P_CS) (own_w hw 43 rfl) (own_w hw 7 rfl) e3 (Exa.ext E3 E_0) (by decide) own_pd9 d7_16 rfl rfl rfl (fun T4 L4 v4 X4 hQ4 => ?_)
  obtain ⟨rfl, Nq4, eq4⟩ := hQ4
  have N4 := Fr.app N1 Nq4
  show gs T4 m 19 #[vr a1, vr aS, vr b3, vi 0] [(.int 4), (.int 0)]
  refine own_st (fun _ kS => XS.icmpNo X4.here hx rfl (hb hby d7_19) rfl (tlt (by decide : (0 : Int32) < (4 : Int32))).2.1 kS) ?_
  show gs T4 m 22 #[vr a1, vr aS, vr b3, vi 0] []
  refine oaloadN X4 hx hby d7_22 rfl rfl ?_
  refine oaloadN X4 hx hby d7_23 rfl rfl ?_
  obtain ⟨T5, X5, e5, st5⟩ := getF X4 hx hZ hown (host := "") (Or.inl (own_w hw 51 rfl)) Via.refl eq4 (Fld.ext O3.2 Fl) (g := (mkF m 24 #[vr a1, vr aS, vr b3, vi 0] [(.ref a1), (.ref b3)])) rfl rfl (hb hby d7_24)
  refine own_st st5 ?_
  show gs T5 m 27 #[vr a1, vr aS, vr b3, vi 0] [(.int 0), (.ref b3)]
  refine own_st (fun _ kS => XS.ifYes X5.here hx rfl (pc0 := 27) (pc' := 39) rfl (hb hby d7_27) rfl ((if0 _ _).trans (teq (by decide : (0 : Int32) = (0 : Int32))).1) (by decide) (by decide) kS) ?_
  show gs T5 m 39 #[vr a1, vr aS, vr b3, vi 0] [(.ref b3)]
  refine oiloadN X5 hx hby d7_39 rfl ?_
  refine oaloadN X5 hx hby d7_40 rfl rfl ?_
  obtain ⟨T6, X6, e6, st6⟩ := getF X5 hx hZ hown (host := "") (Or.inl (own_w hw 49 rfl)) Via.refl e5 (Fld.ext O3.2 Fw) (g := (mkF m 41 #[vr a1, vr aS, vr b3, vi 0] [(.ref a1), (.int 0), (.ref b3)])) rfl rfl (hb hby d7_41)
  refine own_st st6 ?_
  show gs T6 m 44 #[vr a1, vr aS, vr b3, vi 0] [(.int 2), (.int 0), (.ref b3)]
  refine own_st (fun _ kS => XS.imul X6.here hx rfl (hb hby d7_44) rfl kS) ?_
  refine oaloadN X6 hx hby d7_45 rfl rfl ?_
  obtain ⟨T7, X7, e7, st7⟩ := getF X6 hx hZ hown (host := "") (Or.inl (own_w hw 49 rfl)) Via.refl e6 (Fld.ext O3.2 Fw) (g := (mkF m 46 #[vr a1, vr aS, vr b3, vi 0] [(.ref a1), (.int 0), (.ref b3)])) rfl rfl (hb hby d7_46)
  refine own_st st7 ?_
  show gs T7 m 49 #[vr a1, vr aS, vr b3, vi 0] [(.int 2), (.int 0), (.ref b3)]
  refine own_st (fun _ kS => XS.iadd X7.here hx rfl (hb hby d7_49) rfl kS) ?_
  refine oiconst X7 hx hby d7_50 ?_
  refine own_st (fun _ kS => XS.isub X7.here hx rfl (hb hby d7_51) rfl kS) ?_
  refine oaloadN X7 hx hby d7_52 rfl rfl ?_
  refine oiloadN X7 hx hby d7_53 rfl ?_
  refine oV 2 X7 hx hZ hby hml hown (own_w hw 53 rfl) (own_w hw 54 rfl) (own_w hw 56 rfl) (own_w hw 55 rfl) (rm_chAt_4_0 l Z a0 hw [] aS tA kA y0 y1 y2 y3 zCS fm h3 n0 (Nat.le_trans Z0 E3.1) O3 (Exa.ext E3 E_0) (Fld.ext E3 F0v) (Fld.ext E3 F0c) (Arv.ext R_A E3) S_CS P_CS S_SF P_SF) (own_w hw 57 rfl) (own_w hw 7 rfl) e7 (Exa.ext E3 E_0) (by decide) own_pd10 d7_54 rfl rfl rfl (fun T8 L8 v8 X8 hQ8 => ?_)
  obtain ⟨rfl, Nq8, eq8⟩ := hQ8
  have N8 := Fr.app N4 Nq8
  show gs T8 m 57 #[vr a1, vr aS, vr b3, vi 0] [(.int (own_lat y0)), (.int 1), (.ref b3)]
  refine own_st (fun _ kS => XT.i2b X8.here hx rfl (hb hby d7_57) rfl kS) ?_
  show gs T8 m 58 #[vr a1, vr aS, vr b3, vi 0] [(.int ((own_lat y0).toInt8.toInt32)), (.int 1), (.ref b3)]
  obtain ⟨cl9, Ar9, qa9, qs9, qn9, qh9, qg9⟩ := id R3
  obtain ⟨T9, h9, X9, e9, W9, st9⟩ := stB X8 hx hZ eq8 Ar9 (j := (1 : Int32)) (inb_of qs9 ⟨by decide, by decide⟩) (g := (mkF m 58 #[vr a1, vr aS, vr b3, vi 0] [(.int ((own_lat y0).toInt8.toInt32)), (.int 1), (.ref b3)])) rfl rfl (hb hby d7_58)
  have N9 := Fr.snoc X9 N8 ge_b3
  have K9 := K3.wr W9 (Or.inr sz_b3)
  have O9 := O3.wr W9 ge_b3
  have R9 : Arv Z h9 b3 k3 .byte (8 : Int32) [(.int 0), (.int (nar .byte ((own_lat y0).toInt8.toInt32))), (.int 0), (.int 0), (.int 0), (.int 0), (.int 0), (.int 0)] (.int 0) := Arv.set Ar9 qa9 qs9 qn9 qh9 qg9 (fits_nar_byte _) W9 1 rfl (Nat.le_of_ble_eq_true rfl)
  refine own_st st9 ?_
  show gs T9 m 59 #[vr a1, vr aS, vr b3, vi 0] []
  refine own_st (fun _ kS => XS.iinc X9.here hx rfl (hb hby d7_59) rfl (l' := #[vr a1, vr aS, vr b3, vi 1]) rfl kS) ?_
  refine own_st (fun _ kS => XS.goto X9.here hx rfl (pc0 := 62) (pc' := 14) rfl (hb hby d7_62) (by decide) (by decide) kS) ?_
  refine oiloadN X9 hx hby d7_14 rfl ?_
  refine oaloadN X9 hx hby d7_15 rfl rfl ?_
  refine oV 1 X9 hx hZ hby hml hown (own_w hw 39 rfl) (own_w hw 40 rfl) (own_w hw 42 rfl) (own_w hw 41 rfl) (rm_sLen_4 l Z a0 hw [] aS tA kA y0 y1 y2 y3 zCS h9 n0 (Nat.le_trans (Nat.le_trans Z0 E3.1) (Keep.of_wr W9).1) O9 (Exa.wr W9 (Exa.ext E3 E_0)) (Fld.other W9 (Fld.ext E3 F0v) (Or.inl ne_aS_b3)) (Fld.other W9 (Fld.ext E3 F0c) (Or.inl ne_aS_b3)) ((Arv.ext R_A E3).other W9 ne_tA_b3) S_CS P_CS) (own_w hw 43 rfl) (own_w hw 7 rfl) e9 (Exa.wr W9 (Exa.ext E3 E_0)) (by decide) own_pd9 d7_16 rfl rfl rfl (fun T10 L10 v10 X10 hQ10 => ?_)
  obtain ⟨rfl, Nq10, eq10⟩ := hQ10
  have N10 := Fr.app N9 Nq10
  show gs T10 m 19 #[vr a1, vr aS, vr b3, vi 1] [(.int 4), (.int 1)]
  refine own_st (fun _ kS => XS.icmpNo X10.here hx rfl (hb hby d7_19) rfl (tlt (by decide : (1 : Int32) < (4 : Int32))).2.1 kS) ?_
  show gs T10 m 22 #[vr a1, vr aS, vr b3, vi 1] []
  refine oaloadN X10 hx hby d7_22 rfl rfl ?_
  refine oaloadN X10 hx hby d7_23 rfl rfl ?_
  obtain ⟨T11, X11, e11, st11⟩ := getF X10 hx hZ hown (host := "") (Or.inl (own_w hw 51 rfl)) Via.refl eq10 (Fld.ext O9.2 Fl) (g := (mkF m 24 #[vr a1, vr aS, vr b3, vi 1] [(.ref a1), (.ref b3)])) rfl rfl (hb hby d7_24)
  refine own_st st11 ?_
  show gs T11 m 27 #[vr a1, vr aS, vr b3, vi 1] [(.int 0), (.ref b3)]
  refine own_st (fun _ kS => XS.ifYes X11.here hx rfl (pc0 := 27) (pc' := 39) rfl (hb hby d7_27) rfl ((if0 _ _).trans (teq (by decide : (0 : Int32) = (0 : Int32))).1) (by decide) (by decide) kS) ?_
  show gs T11 m 39 #[vr a1, vr aS, vr b3, vi 1] [(.ref b3)]
  refine oiloadN X11 hx hby d7_39 rfl ?_
  refine oaloadN X11 hx hby d7_40 rfl rfl ?_
  obtain ⟨T12, X12, e12, st12⟩ := getF X11 hx hZ hown (host := "") (Or.inl (own_w hw 49 rfl)) Via.refl e11 (Fld.ext O9.2 Fw) (g := (mkF m 41 #[vr a1, vr aS, vr b3, vi 1] [(.ref a1), (.int 1), (.ref b3)])) rfl rfl (hb hby d7_41)
  refine own_st st12 ?_
  show gs T12 m 44 #[vr a1, vr aS, vr b3, vi 1] [(.int 2), (.int 1), (.ref b3)]
  refine own_st (fun _ kS => XS.imul X12.here hx rfl (hb hby d7_44) rfl kS) ?_
  refine oaloadN X12 hx hby d7_45 rfl rfl ?_
  obtain ⟨T13, X13, e13, st13⟩ := getF X12 hx hZ hown (host := "") (Or.inl (own_w hw 49 rfl)) Via.refl e12 (Fld.ext O9.2 Fw) (g := (mkF m 46 #[vr a1, vr aS, vr b3, vi 1] [(.ref a1), (.int 2), (.ref b3)])) rfl rfl (hb hby d7_46)
  refine own_st st13 ?_
  show gs T13 m 49 #[vr a1, vr aS, vr b3, vi 1] [(.int 2), (.int 2), (.ref b3)]
  refine own_st (fun _ kS => XS.iadd X13.here hx rfl (hb hby d7_49) rfl kS) ?_
  refine oiconst X13 hx hby d7_50 ?_
  refine own_st (fun _ kS => XS.isub X13.here hx rfl (hb hby d7_51) rfl kS) ?_
  refine oaloadN X13 hx hby d7_52 rfl rfl ?_
  refine oiloadN X13 hx hby d7_53 rfl ?_
  refine oV 2 X13 hx hZ hby hml hown (own_w hw 53 rfl) (own_w hw 54 rfl) (own_w hw 56 rfl) (own_w hw 55 rfl) (rm_chAt_4_1 l Z a0 hw [] aS tA kA y0 y1 y2 y3 zCS fm h9 n0 (Nat.le_trans (Nat.le_trans Z0 E3.1) (Keep.of_wr W9).1) O9 (Exa.wr W9 (Exa.ext E3 E_0)) (Fld.other W9 (Fld.ext E3 F0v) (Or.inl ne_aS_b3)) (Fld.other W9 (Fld.ext E3 F0c) (Or.inl ne_aS_b3)) ((Arv.ext R_A E3).other W9 ne_tA_b3) S_CS P_CS S_SF P_SF) (own_w hw 57 rfl) (own_w hw 7 rfl) e13 (Exa.wr W9 (Exa.ext E3 E_0)) (by decide) own_pd10 d7_54 rfl rfl rfl (fun T14 L14 v14 X14 hQ14 => ?_)
  obtain ⟨rfl, Nq14, eq14⟩ := hQ14
  have N14 := Fr.app N10 Nq14
  show gs T14 m 57 #[vr a1, vr aS, vr b3, vi 1] [(.int (own_lat y1)), (.int 3), (.ref b3)]
  refine own_st (fun _ kS => XT.i2b X14.here hx rfl (hb hby d7_57) rfl kS) ?_
  show gs T14 m 58 #[vr a1, vr aS, vr b3, vi 1] [(.int ((own_lat y1).toInt8.toInt32)), (.int 3), (.ref b3)]
  obtain ⟨cl15, Ar15, qa15, qs15, qn15, qh15, qg15⟩ := id R9
  obtain ⟨T15, h15, X15, e15, W15, st15⟩ := stB X14 hx hZ eq14 Ar15 (j := (3 : Int32)) (inb_of qs15 ⟨by decide, by decide⟩) (g := (mkF m 58 #[vr a1, vr aS, vr b3, vi 1] [(.int ((own_lat y1).toInt8.toInt32)), (.int 3), (.ref b3)])) rfl rfl (hb hby d7_58)
  have N15 := Fr.snoc X15 N14 ge_b3
  have K15 := K9.wr W15 (Or.inr sz_b3)
  have O15 := O9.wr W15 ge_b3
  have R15 : Arv Z h15 b3 k3 .byte (8 : Int32) [(.int 0), (.int (nar .byte ((own_lat y0).toInt8.toInt32))), (.int 0), (.int (nar .byte ((own_lat y1).toInt8.toInt32))), (.int 0), (.int 0), (.int 0), (.int 0)] (.int 0) := Arv.set Ar15 qa15 qs15 qn15 qh15 qg15 (fits_nar_byte _) W15 3 rfl (Nat.le_of_ble_eq_true rfl)
  refine own_st st15 ?_
  show gs T15 m 59 #[vr a1, vr aS, vr b3, vi 1] []
  refine own_st (fun _ kS => XS.iinc X15.here hx rfl (hb hby d7_59) rfl (l' := #[vr a1, vr aS, vr b3, vi 2]) rfl kS) ?_
  refine own_st (fun _ kS => XS.goto X15.here hx rfl (pc0 := 62) (pc' := 14) rfl (hb hby d7_62) (by decide) (by decide) kS) ?_
  refine oiloadN X15 hx hby d7_14 rfl ?_
  refine oaloadN X15 hx hby d7_15 rfl rfl ?_
  refine oV 1 X15 hx hZ hby hml hown (own_w hw 39 rfl) (own_w hw 40 rfl) (own_w hw 42 rfl) (own_w hw 41 rfl) (rm_sLen_4 l Z a0 hw [] aS tA kA y0 y1 y2 y3 zCS h15 n0 (Nat.le_trans (Nat.le_trans (Nat.le_trans Z0 E3.1) (Keep.of_wr W9).1) (Keep.of_wr W15).1) O15 (Exa.wr W15 (Exa.wr W9 (Exa.ext E3 E_0))) (Fld.other W15 (Fld.other W9 (Fld.ext E3 F0v) (Or.inl ne_aS_b3)) (Or.inl ne_aS_b3)) (Fld.other W15 (Fld.other W9 (Fld.ext E3 F0c) (Or.inl ne_aS_b3)) (Or.inl ne_aS_b3)) (((Arv.ext R_A E3).other W9 ne_tA_b3).other W15 ne_tA_b3) S_CS P_CS) (own_w hw 43 rfl) (own_w hw 7 rfl) e15 (Exa.wr W15 (Exa.wr W9 (Exa.ext E3 E_0))) (by decide) own_pd9 d7_16 rfl rfl rfl (fun T16 L16 v16 X16 hQ16 => ?_)
  obtain ⟨rfl, Nq16, eq16⟩ := hQ16
  have N16 := Fr.app N15 Nq16
  show gs T16 m 19 #[vr a1, vr aS, vr b3, vi 2] [(.int 4), (.int 2)]
  refine own_st (fun _ kS => XS.icmpNo X16.here hx rfl (hb hby d7_19) rfl (tlt (by decide : (2 : Int32) < (4 : Int32))).2.1 kS) ?_
  show gs T16 m 22 #[vr a1, vr aS, vr b3, vi 2] []
  refine oaloadN X16 hx hby d7_22 rfl rfl ?_
  refine oaloadN X16 hx hby d7_23 rfl rfl ?_
  obtain ⟨T17, X17, e17, st17⟩ := getF X16 hx hZ hown (host := "") (Or.inl (own_w hw 51 rfl)) Via.refl eq16 (Fld.ext O15.2 Fl) (g := (mkF m 24 #[vr a1, vr aS, vr b3, vi 2] [(.ref a1), (.ref b3)])) rfl rfl (hb hby d7_24)
  refine own_st st17 ?_
  show gs T17 m 27 #[vr a1, vr aS, vr b3, vi 2] [(.int 0), (.ref b3)]
  refine own_st (fun _ kS => XS.ifYes X17.here hx rfl (pc0 := 27) (pc' := 39) rfl (hb hby d7_27) rfl ((if0 _ _).trans (teq (by decide : (0 : Int32) = (0 : Int32))).1) (by decide) (by decide) kS) ?_
  show gs T17 m 39 #[vr a1, vr aS, vr b3, vi 2] [(.ref b3)]
  refine oiloadN X17 hx hby d7_39 rfl ?_
  refine oaloadN X17 hx hby d7_40 rfl rfl ?_
  obtain ⟨T18, X18, e18, st18⟩ := getF X17 hx hZ hown (host := "") (Or.inl (own_w hw 49 rfl)) Via.refl e17 (Fld.ext O15.2 Fw) (g := (mkF m 41 #[vr a1, vr aS, vr b3, vi 2] [(.ref a1), (.int 2), (.ref b3)])) rfl rfl (hb hby d7_41)
  refine own_st st18 ?_
  show gs T18 m 44 #[vr a1, vr aS, vr b3, vi 2] [(.int 2), (.int 2), (.ref b3)]
  refine own_st (fun _ kS => XS.imul X18.here hx rfl (hb hby d7_44) rfl kS) ?_
  refine oaloadN X18 hx hby d7_45 rfl rfl ?_
  obtain ⟨T19, X19, e19, st19⟩ := getF X18 hx hZ hown (host := "") (Or.inl (own_w hw 49 rfl)) Via.refl e18 (Fld.ext O15.2 Fw) (g := (mkF m 46 #[vr a1, vr aS, vr b3, vi 2] [(.ref a1), (.int 4), (.ref b3)])) rfl rfl (hb hby d7_46)
  refine own_st st19 ?_
  show gs T19 m 49 #[vr a1, vr aS, vr b3, vi 2] [(.int 2), (.int 4), (.ref b3)]
  refine own_st (fun _ kS => XS.iadd X19.here hx rfl (hb hby d7_49) rfl kS) ?_
  refine oiconst X19 hx hby d7_50 ?_
  refine own_st (fun _ kS => XS.isub X19.here hx rfl (hb hby d7_51) rfl kS) ?_
  refine oaloadN X19 hx hby d7_52 rfl rfl ?_
  refine oiloadN X19 hx hby d7_53 rfl ?_
  refine oV 2 X19 hx hZ hby hml hown (own_w hw 53 rfl) (own_w hw 54 rfl) (own_w hw 56 rfl) (own_w hw 55 rfl) (rm_chAt_4_2 l Z a0 hw [] aS tA kA y0 y1 y2 y3 zCS fm h15 n0 (Nat.le_trans (Nat.le_trans (Nat.le_trans Z0 E3.1) (Keep.of_wr W9).1) (Keep.of_wr W15).1) O15 (Exa.wr W15 (Exa.wr W9 (Exa.ext E3 E_0))) (Fld.other W15 (Fld.other W9 (Fld.ext E3 F0v) (Or.inl ne_aS_b3)) (Or.inl ne_aS_b3)) (Fld.other W15 (Fld.other W9 (Fld.ext E3 F0c) (Or.inl ne_aS_b3)) (Or.inl ne_aS_b3)) (((Arv.ext R_A E3).other W9 ne_tA_b3).other W15 ne_tA_b3) S_CS P_CS S_SF P_SF) (own_w hw 57 rfl) (own_w hw 7 rfl) e19 (Exa.wr W15 (Exa.wr W9 (Exa.ext E3 E_0))) (by decide) own_pd10 d7_54 rfl rfl rfl (fun T20 L20 v20 X20 hQ20 => ?_)
  obtain ⟨rfl, Nq20, eq20⟩ := hQ20
  have N20 := Fr.app N16 Nq20
  show gs T20 m 57 #[vr a1, vr aS, vr b3, vi 2] [(.int (own_lat y2)), (.int 5), (.ref b3)]
  refine own_st (fun _ kS => XT.i2b X20.here hx rfl (hb hby d7_57) rfl kS) ?_
  show gs T20 m 58 #[vr a1, vr aS, vr b3, vi 2] [(.int ((own_lat y2).toInt8.toInt32)), (.int 5), (.ref b3)]
  obtain ⟨cl21, Ar21, qa21, qs21, qn21, qh21, qg21⟩ := id R15
  obtain ⟨T21, h21, X21, e21, W21, st21⟩ := stB X20 hx hZ eq20 Ar21 (j := (5 : Int32)) (inb_of qs21 ⟨by decide, by decide⟩) (g := (mkF m 58 #[vr a1, vr aS, vr b3, vi 2] [(.int ((own_lat y2).toInt8.toInt32)), (.int 5), (.ref b3)])) rfl rfl (hb hby d7_58)
  have N21 := Fr.snoc X21 N20 ge_b3
  have K21 := K15.wr W21 (Or.inr sz_b3)
  have O21 := O15.wr W21 ge_b3
  have R21 : Arv Z h21 b3 k3 .byte (8 : Int32) [(.int 0), (.int (nar .byte ((own_lat y0).toInt8.toInt32))), (.int 0), (.int (nar .byte ((own_lat y1).toInt8.toInt32))), (.int 0), (.int (nar .byte ((own_lat y2).toInt8.toInt32))), (.int 0), (.int 0)] (.int 0) := Arv.set Ar21 qa21 qs21 qn21 qh21 qg21 (fits_nar_byte _) W21 5 rfl (Nat.le_of_ble_eq_true rfl)
  refine own_st st21 ?_
  show gs T21 m 59 #[vr a1, vr aS, vr b3, vi 2] []
  refine own_st (fun _ kS => XS.iinc X21.here hx rfl (hb hby d7_59) rfl (l' := #[vr a1, vr aS, vr b3, vi 3]) rfl kS) ?_
  refine own_st (fun _ kS => XS.goto X21.here hx rfl (pc0 := 62) (pc' := 14) rfl (hb hby d7_62) (by decide) (by decide) kS) ?_
  refine oiloadN X21 hx hby d7_14 rfl ?_
  refine oaloadN X21 hx hby d7_15 rfl rfl ?_
  refine oV 1 X21 hx hZ hby hml hown (own_w hw 39 rfl) (own_w hw 40 rfl) (own_w hw 42 rfl) (own_w hw 41 rfl) (rm_sLen_4 l Z a0 hw [] aS tA kA y0 y1 y2 y3 zCS h21 n0 (Nat.le_trans (Nat.le_trans (Nat.le_trans (Nat.le_trans Z0 E3.1) (Keep.of_wr W9).1) (Keep.of_wr W15).1) (Keep.of_wr W21).1) O21 (Exa.wr W21 (Exa.wr W15 (Exa.wr W9 (Exa.ext E3 E_0)))) (Fld.other W21 (Fld.other W15 (Fld.other W9 (Fld.ext E3 F0v) (Or.inl ne_aS_b3)) (Or.inl ne_aS_b3)) (Or.inl ne_aS_b3)) (Fld.other W21 (Fld.other W15 (Fld.other W9 (Fld.ext E3 F0c) (Or.inl ne_aS_b3)) (Or.inl ne_aS_b3)) (Or.inl ne_aS_b3)) ((((Arv.ext R_A E3).other W9 ne_tA_b3).other W15 ne_tA_b3).other W21 ne_tA_b3) S_CS P_CS) (own_w hw 43 rfl) (own_w hw 7 rfl) e21 (Exa.wr W21 (Exa.wr W15 (Exa.wr W9 (Exa.ext E3 E_0)))) (by decide) own_pd9 d7_16 rfl rfl rfl (fun T22 L22 v22 X22 hQ22 => ?_)
  obtain ⟨rfl, Nq22, eq22⟩ := hQ22
  have N22 := Fr.app N21 Nq22
  show gs T22 m 19 #[vr a1, vr aS, vr b3, vi 3] [(.int 4), (.int 3)]
  refine own_st (fun _ kS => XS.icmpNo X22.here hx rfl (hb hby d7_19) rfl (tlt (by decide : (3 : Int32) < (4 : Int32))).2.1 kS) ?_
  show gs T22 m 22 #[vr a1, vr aS, vr b3, vi 3] []
  refine oaloadN X22 hx hby d7_22 rfl rfl ?_
  refine oaloadN X22 hx hby d7_23 rfl rfl ?_
  obtain ⟨T23, X23, e23, st23⟩ := getF X22 hx hZ hown (host := "") (Or.inl (own_w hw 51 rfl)) Via.refl eq22 (Fld.ext O21.2 Fl) (g := (mkF m 24 #[vr a1, vr aS, vr b3, vi 3] [(.ref a1), (.ref b3)])) rfl rfl (hb hby d7_24)
  refine own_st st23 ?_
  show gs T23 m 27 #[vr a1, vr aS, vr b3, vi 3] [(.int 0), (.ref b3)]
  refine own_st (fun _ kS => XS.ifYes X23.here hx rfl (pc0 := 27) (pc' := 39) rfl (hb hby d7_27) rfl ((if0 _ _).trans (teq (by decide : (0 : Int32) = (0 : Int32))).1) (by decide) (by decide) kS) ?_
  show gs T23 m 39 #[vr a1, vr aS, vr b3, vi 3] [(.ref b3)]
  refine oiloadN X23 hx hby d7_39 rfl ?_
  refine oaloadN X23 hx hby d7_40 rfl rfl ?_
  obtain ⟨T24, X24, e24, st24⟩ := getF X23 hx hZ hown (host := "") (Or.inl (own_w hw 49 rfl)) Via.refl e23 (Fld.ext O21.2 Fw) (g := (mkF m 41 #[vr a1, vr aS, vr b3, vi 3] [(.ref a1), (.int 3), (.ref b3)])) rfl rfl (hb hby d7_41)
  refine own_st st24 ?_
  show gs T24 m 44 #[vr a1, vr aS, vr b3, vi 3] [(.int 2), (.int 3), (.ref b3)]
  refine own_st (fun _ kS => XS.imul X24.here hx rfl (hb hby d7_44) rfl kS) ?_
  refine oaloadN X24 hx hby d7_45 rfl rfl ?_
  obtain ⟨T25, X25, e25, st25⟩ := getF X24 hx hZ hown (host := "") (Or.inl (own_w hw 49 rfl)) Via.refl e24 (Fld.ext O21.2 Fw) (g := (mkF m 46 #[vr a1, vr aS, vr b3, vi 3] [(.ref a1), (.int 6), (.ref b3)])) rfl rfl (hb hby d7_46)
  refine own_st st25 ?_
  show gs T25 m 49 #[vr a1, vr aS, vr b3, vi 3] [(.int 2), (.int 6), (.ref b3)]
  refine own_st (fun _ kS => XS.iadd X25.here hx rfl (hb hby d7_49) rfl kS) ?_
  refine oiconst X25 hx hby d7_50 ?_
  refine own_st (fun _ kS => XS.isub X25.here hx rfl (hb hby d7_51) rfl kS) ?_
  refine oaloadN X25 hx hby d7_52 rfl rfl ?_
  refine oiloadN X25 hx hby d7_53 rfl ?_
  refine oV 2 X25 hx hZ hby hml hown (own_w hw 53 rfl) (own_w hw 54 rfl) (own_w hw 56 rfl) (own_w hw 55 rfl) (rm_chAt_4_3 l Z a0 hw [] aS tA kA y0 y1 y2 y3 zCS fm h21 n0 (Nat.le_trans (Nat.le_trans (Nat.le_trans (Nat.le_trans Z0 E3.1) (Keep.of_wr W9).1) (Keep.of_wr W15).1) (Keep.of_wr W21).1) O21 (Exa.wr W21 (Exa.wr W15 (Exa.wr W9 (Exa.ext E3 E_0)))) (Fld.other W21 (Fld.other W15 (Fld.other W9 (Fld.ext E3 F0v) (Or.inl ne_aS_b3)) (Or.inl ne_aS_b3)) (Or.inl ne_aS_b3)) (Fld.other W21 (Fld.other W15 (Fld.other W9 (Fld.ext E3 F0c) (Or.inl ne_aS_b3)) (Or.inl ne_aS_b3)) (Or.inl ne_aS_b3)) ((((Arv.ext R_A E3).other W9 ne_tA_b3).other W15 ne_tA_b3).other W21 ne_tA_b3) S_CS P_CS S_SF P_SF) (own_w hw 57 rfl) (own_w hw 7 rfl) e25 (Exa.wr W21 (Exa.wr W15 (Exa.wr W9 (Exa.ext E3 E_0)))) (by decide) own_pd10 d7_54 rfl rfl rfl (fun T26 L26 v26 X26 hQ26 => ?_)
  obtain ⟨rfl, Nq26, eq26⟩ := hQ26
  have N26 := Fr.app N22 Nq26
  show gs T26 m 57 #[vr a1, vr aS, vr b3, vi 3] [(.int (own_lat y3)), (.int 7), (.ref b3)]
  refine own_st (fun _ kS => XT.i2b X26.here hx rfl (hb hby d7_57) rfl kS) ?_
  show gs T26 m 58 #[vr a1, vr aS, vr b3, vi 3] [(.int ((own_lat y3).toInt8.toInt32)), (.int 7), (.ref b3)]
  obtain ⟨cl27, Ar27, qa27, qs27, qn27, qh27, qg27⟩ := id R21
  obtain ⟨T27, h27, X27, e27, W27, st27⟩ := stB X26 hx hZ eq26 Ar27 (j := (7 : Int32)) (inb_of qs27 ⟨by decide, by decide⟩) (g := (mkF m 58 #[vr a1, vr aS, vr b3, vi 3] [(.int ((own_lat y3).toInt8.toInt32)), (.int 7), (.ref b3)])) rfl rfl (hb hby d7_58)
  have N27 := Fr.snoc X27 N26 ge_b3
  have K27 := K21.wr W27 (Or.inr sz_b3)
  have O27 := O21.wr W27 ge_b3
  have R27 : Arv Z h27 b3 k3 .byte (8 : Int32) [(.int 0), (.int (nar .byte ((own_lat y0).toInt8.toInt32))), (.int 0), (.int (nar .byte ((own_lat y1).toInt8.toInt32))), (.int 0), (.int (nar .byte ((own_lat y2).toInt8.toInt32))), (.int 0), (.int (nar .byte ((own_lat y3).toInt8.toInt32)))] (.int 0) := Arv.set Ar27 qa27 qs27 qn27 qh27 qg27 (fits_nar_byte _) W27 7 rfl (Nat.le_of_ble_eq_true rfl)
  refine own_st st27 ?_
  show gs T27 m 59 #[vr a1, vr aS, vr b3, vi 3] []
  refine own_st (fun _ kS => XS.iinc X27.here hx rfl (hb hby d7_59) rfl (l' := #[vr a1, vr aS, vr b3, vi 4]) rfl kS) ?_
  refine own_st (fun _ kS => XS.goto X27.here hx rfl (pc0 := 62) (pc' := 14) rfl (hb hby d7_62) (by decide) (by decide) kS) ?_
  refine oiloadN X27 hx hby d7_14 rfl ?_
  refine oaloadN X27 hx hby d7_15 rfl rfl ?_
  refine oV 1 X27 hx hZ hby hml hown (own_w hw 39 rfl) (own_w hw 40 rfl) (own_w hw 42 rfl) (own_w hw 41 rfl) (rm_sLen_4 l Z a0 hw [] aS tA kA y0 y1 y2 y3 zCS h27 n0 (Nat.le_trans (Nat.le_trans (Nat.le_trans (Nat.le_trans (Nat.le_trans Z0 E3.1) (Keep.of_wr W9).1) (Keep.of_wr W15).1) (Keep.of_wr W21).1) (Keep.of_wr W27).1) O27 (Exa.wr W27 (Exa.wr W21 (Exa.wr W15 (Exa.wr W9 (Exa.ext E3 E_0))))) (Fld.other W27 (Fld.other W21 (Fld.other W15 (Fld.other W9 (Fld.ext E3 F0v) (Or.inl ne_aS_b3)) (Or.inl ne_aS_b3)) (Or.inl ne_aS_b3)) (Or.inl ne_aS_b3)) (Fld.other W27 (Fld.other W21 (Fld.other W15 (Fld.other W9 (Fld.ext E3 F0c) (Or.inl ne_aS_b3)) (Or.inl ne_aS_b3)) (Or.inl ne_aS_b3)) (Or.inl ne_aS_b3)) (((((Arv.ext R_A E3).other W9 ne_tA_b3).other W15 ne_tA_b3).other W21 ne_tA_b3).other W27 ne_tA_b3) S_CS P_CS) (own_w hw 43 rfl) (own_w hw 7 rfl) e27 (Exa.wr W27 (Exa.wr W21 (Exa.wr W15 (Exa.wr W9 (Exa.ext E3 E_0))))) (by decide) own_pd9 d7_16 rfl rfl rfl (fun T28 L28 v28 X28 hQ28 => ?_)
  obtain ⟨rfl, Nq28, eq28⟩ := hQ28
  have N28 := Fr.app N27 Nq28
  show gs T28 m 19 #[vr a1, vr aS, vr b3, vi 4] [(.int 4), (.int 4)]
  refine own_st (fun _ kS => XS.icmpYes X28.here hx rfl (pc0 := 19) (pc' := 65) rfl (hb hby d7_19) rfl (flt (by decide : ¬ ((4 : Int32) < (4 : Int32)))).2.1 (by decide) (by decide) kS) ?_
  show gs T28 m 65 #[vr a1, vr aS, vr b3, vi 4] []
  refine oaloadN X28 hx hby d7_65 rfl rfl ?_
  exact own_retA X28 hx hlk hret rfl rfl (hb hby d7_66) (by decide) (by decide) (by rw [eq28]; exact ⟨b3, k3, ⟨rfl, N28, K27, sz_b3, R27⟩⟩)
theorem ef_enc_4_2_1 (m : MethodId) (x0 : Addr) (x1 : Addr) : entryFrame m #[(.ref x0), (.ref x1)] 4 = mkF m 0 #[.val (.ref x0), .val (.ref x1), .unset, .unset] [] := by first | (simp [entryFrame, mkF, argsToLocals, Value.category]; done) | rfl
def Q_enc_4_2_1 (Z : State) (a1 : Addr) (aS : Addr) (tA : Addr) (kA : ClassId) (y0 : Int32) (y1 : Int32) (y2 : Int32) (y3 : Int32) (zCS : Int32) (fm : Value) (h0 : Heap) (n0 : Nat) (v : Option Value) (h : Heap) (L : List Loc) : Prop := ∃ tN : Addr, ∃ kN : ClassId, v = some (.ref tN) ∧ Fr n0 L ∧ Keep h0 h [] ∧ h0.size ≤ tN ∧ Arv Z h tN kN .byte (8 : Int32) [(.int (nar .byte ((own_lat y0).toInt8.toInt32))), (.int 0), (.int (nar .byte ((own_lat y1).toInt8.toInt32))), (.int 0), (.int (nar .byte ((own_lat y2).toInt8.toInt32))), (.int 0), (.int (nar .byte ((own_lat y3).toInt8.toInt32))), (.int 0)] (.int 0)
theorem rm_enc_4_2_1 (l : Launch) (Z : State) (a0 : Array Value) (hw : HW a0 Z) (ws : List Jvm.Cond) (a1 : Addr) (aS : Addr) (tA : Addr) (kA : ClassId) (y0 : Int32) (y1 : Int32) (y2 : Int32) (y3 : Int32) (zCS : Int32) (fm : Value) (h0 : Heap) (n0 : Nat) (Z0 : n0 ≤ h0.size) (O0 : Old Z n0 h0) (Fw : fk10 Z Z.heap a1 (.int 2)) (Fl : fk11 Z Z.heap a1 (.int 1)) (E_0 : ek12 Z h0 aS) (F0v : fk9 Z h0 aS (.ref tA)) (F0c : fk8 Z h0 aS (.int 0)) (R_A : Arv Z h0 tA kA .byte (4 : Int32) [(.int y0), (.int y1), (.int y2), (.int y3)] (.int 0)) (S_CS : sk0 Z Z.heap (.int zCS)) (P_CS : ¬ zCS = 0) (S_SF : sk1 Z Z.heap fm) (P_SF : fm.isRef = true) :
    M12 l ws (rmk 4 1 8 55) Z #[(.ref a1), (.ref aS)] h0 (Q_enc_4_2_1 Z a1 aS tA kA y0 y1 y2 y3 zCS fm h0 n0) := by
  refine own_go "com/example/provenir/provenir/TextEncoding" rfl (plainFor_of_name pn_7) (fun m => ef_enc_4_2_1 m a1 aS) (fun p e s m below meth c s₁ hx hby hml hown hnm hlk hret hZ X0 e0 => ?_)
  have N0 := Fr.nil n0
  have K0 := Keep.refl h0 []
  show gs s₁ m 0 #[vr a1, vr aS, .unset, .unset] []
  refine oaloadN X0 hx hby d7_0 rfl rfl ?_
  refine oV 0 X0 hx hZ hby hml hown (own_w hw 39 rfl) (own_w hw 40 rfl) (own_w hw 42 rfl) (own_w hw 41 rfl) (rm_sLen_4 l Z a0 hw [] aS tA kA y0 y1 y2 y3 zCS h0 n0 Z0 O0 E_0 F0v F0c R_A S_CS P_CS) (own_w hw 43 rfl) (own_w hw 7 rfl) e0 E_0 (by decide) own_pd9 d7_1 rfl rfl rfl (fun T1 L1 v1 X1 hQ1 => ?_)
  obtain ⟨rfl, Nq1, eq1⟩ := hQ1
  have N1 := Fr.app N0 Nq1
  show gs T1 m 4 #[vr a1, vr aS, .unset, .unset] [(.int 4)]
  refine oaloadN X1 hx hby d7_4 rfl rfl ?_
  obtain ⟨T2, X2, e2, st2⟩ := getF X1 hx hZ hown (host := "") (Or.inl (own_w hw 49 rfl)) Via.refl eq1 (Fld.ext O0.2 Fw) (g := (mkF m 5 #[vr a1, vr aS, .unset, .unset] [(.ref a1), (.int 4)])) rfl rfl (hb hby d7_5)
  refine own_st st2 ?_
  show gs T2 m 8 #[vr a1, vr aS, .unset, .unset] [(.int 2), (.int 4)]
  refine own_st (fun _ kS => XS.imul X2.here hx rfl (hb hby d7_8) rfl kS) ?_
  show gs T2 m 9 #[vr a1, vr aS, .unset, .unset] [(.int 8)]
  obtain ⟨T3, h3, k3, X3, e3, E3, A3, st3⟩ := newP X2 hx hZ (own_w hw 23 rfl) e2 (g := (mkF m 9 #[vr a1, vr aS, .unset, .unset] [(.int 8)])) rfl (hb hby d7_9) rfl (by decide) (cap := 8) (by decide) (by decide) (by decide) (by decide)
  obtain ⟨b3, g3⟩ : ∃ z, z = h0.size := ⟨_, rfl⟩
  have ne_aS_b3 : aS ≠ b3 := Nat.ne_of_lt (Nat.lt_of_lt_of_eq E_0.lt g3.symm)
  have ne_tA_b3 : tA ≠ b3 := Nat.ne_of_lt (Nat.lt_of_lt_of_eq R_A.lt g3.symm)
  have ge_b3 : n0 ≤ b3 := Nat.le_trans Z0 (Nat.le_of_eq g3.symm)
  have sz_b3 : h0.size ≤ b3 := Nat.le_trans K0.1 (Nat.le_of_eq g3.symm)
  rw [← g3] at A3 st3
  have K3 := K0.ext E3
  have O3 := O0.ext E3
  have R3 : Arv Z h3 b3 k3 .byte (8 : Int32) [(.int 0), (.int 0), (.int 0), (.int 0), (.int 0), (.int 0), (.int 0), (.int 0)] (.int 0) := (Arv.new A3 (by decide)).pad (pad_rep [] (.int 0) 8)
  refine own_st st3 ?_
  show gs T3 m 11 #[vr a1, vr aS, .unset, .unset] [(.ref b3)]
  refine own_st (fun _ kS => XS.astoreN X3.here hx rfl (hb hby d7_11) rfl rfl (l' := #[vr a1, vr aS, vr b3, .unset]) rfl kS) ?_
  refine oiconst X3 hx hby d7_12 ?_
  refine own_st (fun _ kS => XS.istoreN X3.here hx rfl (hb hby d7_13) rfl (l' := #[vr a1, vr aS, vr b3, vi 0]) rfl kS) ?_
  refine oiloadN X3 hx hby d7_14 rfl ?_
  refine oaloadN X3 hx hby d7_15 rfl rfl ?_
  refine oV 1 X3 hx hZ hby hml hown (own_w hw 39 rfl) (own_w hw 40 rfl) (own_w hw 42 rfl) (own_w hw 41 rfl) (rm_sLen_4 l Z a0 hw [] aS tA kA y0 y1 y2 y3 zCS h3 n0 (Nat.le_trans Z0 E3.1) O3 (Exa.ext E3 E_0) (Fld.ext E3 F0v) (Fld.ext E3 F0c) (Arv.ext R_A E3) S_CS P_CS) (own_w hw 43 rfl) (own_w hw 7 rfl) e3 (Exa.ext E3 E_0) (by decide) own_pd9 d7_16 rfl rfl rfl (fun T4 L4 v4 X4 hQ4 => ?_)
  obtain ⟨rfl, Nq4, eq4⟩ := hQ4
  have N4 := Fr.app N1 Nq4
  show gs T4 m 19 #[vr a1, vr aS, vr b3, vi 0] [(.int 4), (.int 0)]
  refine own_st (fun _ kS => XS.icmpNo X4.here hx rfl (hb hby d7_19) rfl (tlt (by decide : (0 : Int32) < (4 : Int32))).2.1 kS) ?_
  show gs T4 m 22 #[vr a1, vr aS, vr b3, vi 0] []
  refine oaloadN X4 hx hby d7_22 rfl rfl ?_
  refine oaloadN X4 hx hby d7_23 rfl rfl ?_
  obtain ⟨T5, X5, e5, st5⟩ := getF X4 hx hZ hown (host := "") (Or.inl (own_w hw 51 rfl)) Via.refl eq4 (Fld.ext O3.2 Fl) (g := (mkF m 24 #[vr a1, vr aS, vr b3, vi 0] [(.ref a1), (.ref b3)])) rfl rfl (hb hby d7_24)
  refine own_st st5 ?_
  show gs T5 m 27 #[vr a1, vr aS, vr b3, vi 0] [(.int 1), (.ref b3)]
  refine own_st (fun _ kS => XS.ifNo X5.here hx rfl (hb hby d7_27) rfl ((if0 _ _).trans (feq (by decide : ¬ ((1 : Int32) = (0 : Int32)))).1) kS) ?_
  show gs T5 m 30 #[vr a1, vr aS, vr b3, vi 0] [(.ref b3)]
  refine oiloadN X5 hx hby d7_30 rfl ?_
  refine oaloadN X5 hx hby d7_31 rfl rfl ?_
  obtain ⟨T6, X6, e6, st6⟩ := getF X5 hx hZ hown (host := "") (Or.inl (own_w hw 49 rfl)) Via.refl e5 (Fld.ext O3.2 Fw) (g := (mkF m 32 #[vr a1, vr aS, vr b3, vi 0] [(.ref a1), (.int 0), (.ref b3)])) rfl rfl (hb hby d7_32)
  refine own_st st6 ?_
  show gs T6 m 35 #[vr a1, vr aS, vr b3, vi 0] [(.int 2), (.int 0), (.ref b3)]
  refine own_st (fun _ kS => XS.imul X6.here hx rfl (hb hby d7_35) rfl kS) ?_
  refine own_st (fun _ kS => XS.goto X6.here hx rfl (pc0 := 36) (pc' := 52) rfl (hb hby d7_36) (by decide) (by decide) kS) ?_
  refine oaloadN X6 hx hby d7_52 rfl rfl ?_
  refine oiloadN X6 hx hby d7_53 rfl ?_
  refine oV 2 X6 hx hZ hby hml hown (own_w hw 53 rfl) (own_w hw 54 rfl) (own_w hw 56 rfl) (own_w hw 55 rfl) (rm_chAt_4_0 l Z a0 hw [] aS tA kA y0 y1 y2 y3 zCS fm h3 n0 (Nat.le_trans Z0 E3.1) O3 (Exa.ext E3 E_0) (Fld.ext E3 F0v) (Fld.ext E3 F0c) (Arv.ext R_A E3) S_CS P_CS S_SF P_SF) (own_w hw 57 rfl) (own_w hw 7 rfl) e6 (Exa.ext E3 E_0) (by decide) own_pd10 d7_54 rfl rfl rfl (fun T7 L7 v7 X7 hQ7 => ?_)
  obtain ⟨rfl, Nq7, eq7⟩ := hQ7
  have N7 := Fr.app N4 Nq7
  show gs T7 m 57 #[vr a1, vr aS, vr b3, vi 0] [(.int (own_lat y0)), (.int 0), (.ref b3)]
  refine own_st (fun _ kS => XT.i2b X7.here hx rfl (hb hby d7_57) rfl kS) ?_
  show gs T7 m 58 #[vr a1, vr aS, vr b3, vi 0] [(.int ((own_lat y0).toInt8.toInt32)), (.int 0), (.ref b3)]
  obtain ⟨cl8, Ar8, qa8, qs8, qn8, qh8, qg8⟩ := id R3
  obtain ⟨T8, h8, X8, e8, W8, st8⟩ := stB X7 hx hZ eq7 Ar8 (j := (0 : Int32)) (inb_of qs8 ⟨by decide, by decide⟩) (g := (mkF m 58 #[vr a1, vr aS, vr b3, vi 0] [(.int ((own_lat y0).toInt8.toInt32)), (.int 0), (.ref b3)])) rfl rfl (hb hby d7_58)
  have N8 := Fr.snoc X8 N7 ge_b3
  have K8 := K3.wr W8 (Or.inr sz_b3)
  have O8 := O3.wr W8 ge_b3
  have R8 : Arv Z h8 b3 k3 .byte (8 : Int32) [(.int (nar .byte ((own_lat y0).toInt8.toInt32))), (.int 0), (.int 0), (.int 0), (.int 0), (.int 0), (.int 0), (.int 0)] (.int 0) := Arv.set Ar8 qa8 qs8 qn8 qh8 qg8 (fits_nar_byte _) W8 0 rfl (Nat.le_of_ble_eq_true rfl)
  refine own_st st8 ?_
  show gs T8 m 59 #[vr a1, vr aS, vr b3, vi 0] []
  refine own_st (fun _ kS => XS.iinc X8.here hx rfl (hb hby d7_59) rfl (l' := #[vr a1, vr aS, vr b3, vi 1]) rfl kS) ?_
  refine own_st (fun _ kS => XS.goto X8.here hx rfl (pc0 := 62) (pc' := 14) rfl (hb hby d7_62) (by decide) (by decide) kS) ?_
  refine oiloadN X8 hx hby d7_14 rfl ?_
  refine oaloadN X8 hx hby d7_15 rfl rfl ?_
  refine oV 1 X8 hx hZ hby hml hown (own_w hw 39 rfl) (own_w hw 40 rfl) (own_w hw 42 rfl) (own_w hw 41 rfl) (rm_sLen_4 l Z a0 hw [] aS tA kA y0 y1 y2 y3 zCS h8 n0 (Nat.le_trans (Nat.le_trans Z0 E3.1) (Keep.of_wr W8).1) O8 (Exa.wr W8 (Exa.ext E3 E_0)) (Fld.other W8 (Fld.ext E3 F0v) (Or.inl ne_aS_b3)) (Fld.other W8 (Fld.ext E3 F0c) (Or.inl ne_aS_b3)) ((Arv.ext R_A E3).other W8 ne_tA_b3) S_CS P_CS) (own_w hw 43 rfl) (own_w hw 7 rfl) e8 (Exa.wr W8 (Exa.ext E3 E_0)) (by decide) own_pd9 d7_16 rfl rfl rfl (fun T9 L9 v9 X9 hQ9 => ?_)
  obtain ⟨rfl, Nq9, eq9⟩ := hQ9
  have N9 := Fr.app N8 Nq9
  show gs T9 m 19 #[vr a1, vr aS, vr b3, vi 1] [(.int 4), (.int 1)]
  refine own_st (fun _ kS => XS.icmpNo X9.here hx rfl (hb hby d7_19) rfl (tlt (by decide : (1 : Int32) < (4 : Int32))).2.1 kS) ?_
  show gs T9 m 22 #[vr a1, vr aS, vr b3, vi 1] []
  refine oaloadN X9 hx hby d7_22 rfl rfl ?_
  refine oaloadN X9 hx hby d7_23 rfl rfl ?_
  obtain ⟨T10, X10, e10, st10⟩ := getF X9 hx hZ hown (host := "") (Or.inl (own_w hw 51 rfl)) Via.refl eq9 (Fld.ext O8.2 Fl) (g := (mkF m 24 #[vr a1, vr aS, vr b3, vi 1] [(.ref a1), (.ref b3)])) rfl rfl (hb hby d7_24)
  refine own_st st10 ?_
  show gs T10 m 27 #[vr a1, vr aS, vr b3, vi 1] [(.int 1), (.ref b3)]
  refine own_st (fun _ kS => XS.ifNo X10.here hx rfl (hb hby d7_27) rfl ((if0 _ _).trans (feq (by decide : ¬ ((1 : Int32) = (0 : Int32)))).1) kS) ?_
  show gs T10 m 30 #[vr a1, vr aS, vr b3, vi 1] [(.ref b3)]
  refine oiloadN X10 hx hby d7_30 rfl ?_
  refine oaloadN X10 hx hby d7_31 rfl rfl ?_
  obtain ⟨T11, X11, e11, st11⟩ := getF X10 hx hZ hown (host := "") (Or.inl (own_w hw 49 rfl)) Via.refl e10 (Fld.ext O8.2 Fw) (g := (mkF m 32 #[vr a1, vr aS, vr b3, vi 1] [(.ref a1), (.int 1), (.ref b3)])) rfl rfl (hb hby d7_32)
  refine own_st st11 ?_
  show gs T11 m 35 #[vr a1, vr aS, vr b3, vi 1] [(.int 2), (.int 1), (.ref b3)]
  refine own_st (fun _ kS => XS.imul X11.here hx rfl (hb hby d7_35) rfl kS) ?_
  refine own_st (fun _ kS => XS.goto X11.here hx rfl (pc0 := 36) (pc' := 52) rfl (hb hby d7_36) (by decide) (by decide) kS) ?_
  refine oaloadN X11 hx hby d7_52 rfl rfl ?_
  refine oiloadN X11 hx hby d7_53 rfl ?_
  refine oV 2 X11 hx hZ hby hml hown (own_w hw 53 rfl) (own_w hw 54 rfl) (own_w hw 56 rfl) (own_w hw 55 rfl) (rm_chAt_4_1 l Z a0 hw [] aS tA kA y0 y1 y2 y3 zCS fm h8 n0 (Nat.le_trans (Nat.le_trans Z0 E3.1) (Keep.of_wr W8).1) O8 (Exa.wr W8 (Exa.ext E3 E_0)) (Fld.other W8 (Fld.ext E3 F0v) (Or.inl ne_aS_b3)) (Fld.other W8 (Fld.ext E3 F0c) (Or.inl ne_aS_b3)) ((Arv.ext R_A E3).other W8 ne_tA_b3) S_CS P_CS S_SF P_SF) (own_w hw 57 rfl) (own_w hw 7 rfl) e11 (Exa.wr W8 (Exa.ext E3 E_0)) (by decide) own_pd10 d7_54 rfl rfl rfl (fun T12 L12 v12 X12 hQ12 => ?_)
  obtain ⟨rfl, Nq12, eq12⟩ := hQ12
  have N12 := Fr.app N9 Nq12
  show gs T12 m 57 #[vr a1, vr aS, vr b3, vi 1] [(.int (own_lat y1)), (.int 2), (.ref b3)]
  refine own_st (fun _ kS => XT.i2b X12.here hx rfl (hb hby d7_57) rfl kS) ?_
  show gs T12 m 58 #[vr a1, vr aS, vr b3, vi 1] [(.int ((own_lat y1).toInt8.toInt32)), (.int 2), (.ref b3)]
  obtain ⟨cl13, Ar13, qa13, qs13, qn13, qh13, qg13⟩ := id R8
  obtain ⟨T13, h13, X13, e13, W13, st13⟩ := stB X12 hx hZ eq12 Ar13 (j := (2 : Int32)) (inb_of qs13 ⟨by decide, by decide⟩) (g := (mkF m 58 #[vr a1, vr aS, vr b3, vi 1] [(.int ((own_lat y1).toInt8.toInt32)), (.int 2), (.ref b3)])) rfl rfl (hb hby d7_58)
  have N13 := Fr.snoc X13 N12 ge_b3
  have K13 := K8.wr W13 (Or.inr sz_b3)
  have O13 := O8.wr W13 ge_b3
  have R13 : Arv Z h13 b3 k3 .byte (8 : Int32) [(.int (nar .byte ((own_lat y0).toInt8.toInt32))), (.int 0), (.int (nar .byte ((own_lat y1).toInt8.toInt32))), (.int 0), (.int 0), (.int 0), (.int 0), (.int 0)] (.int 0) := Arv.set Ar13 qa13 qs13 qn13 qh13 qg13 (fits_nar_byte _) W13 2 rfl (Nat.le_of_ble_eq_true rfl)
  refine own_st st13 ?_
  show gs T13 m 59 #[vr a1, vr aS, vr b3, vi 1] []
  refine own_st (fun _ kS => XS.iinc X13.here hx rfl (hb hby d7_59) rfl (l' := #[vr a1, vr aS, vr b3, vi 2]) rfl kS) ?_
  refine own_st (fun _ kS => XS.goto X13.here hx rfl (pc0 := 62) (pc' := 14) rfl (hb hby d7_62) (by decide) (by decide) kS) ?_
  refine oiloadN X13 hx hby d7_14 rfl ?_
  refine oaloadN X13 hx hby d7_15 rfl rfl ?_
  refine oV 1 X13 hx hZ hby hml hown (own_w hw 39 rfl) (own_w hw 40 rfl) (own_w hw 42 rfl) (own_w hw 41 rfl) (rm_sLen_4 l Z a0 hw [] aS tA kA y0 y1 y2 y3 zCS h13 n0 (Nat.le_trans (Nat.le_trans (Nat.le_trans Z0 E3.1) (Keep.of_wr W8).1) (Keep.of_wr W13).1) O13 (Exa.wr W13 (Exa.wr W8 (Exa.ext E3 E_0))) (Fld.other W13 (Fld.other W8 (Fld.ext E3 F0v) (Or.inl ne_aS_b3)) (Or.inl ne_aS_b3)) (Fld.other W13 (Fld.other W8 (Fld.ext E3 F0c) (Or.inl ne_aS_b3)) (Or.inl ne_aS_b3)) (((Arv.ext R_A E3).other W8 ne_tA_b3).other W13 ne_tA_b3) S_CS P_CS) (own_w hw 43 rfl) (own_w hw 7 rfl) e13 (Exa.wr W13 (Exa.wr W8 (Exa.ext E3 E_0))) (by decide) own_pd9 d7_16 rfl rfl rfl (fun T14 L14 v14 X14 hQ14 => ?_)
  obtain ⟨rfl, Nq14, eq14⟩ := hQ14
  have N14 := Fr.app N13 Nq14
  show gs T14 m 19 #[vr a1, vr aS, vr b3, vi 2] [(.int 4), (.int 2)]
  refine own_st (fun _ kS => XS.icmpNo X14.here hx rfl (hb hby d7_19) rfl (tlt (by decide : (2 : Int32) < (4 : Int32))).2.1 kS) ?_
  show gs T14 m 22 #[vr a1, vr aS, vr b3, vi 2] []
  refine oaloadN X14 hx hby d7_22 rfl rfl ?_
  refine oaloadN X14 hx hby d7_23 rfl rfl ?_
  obtain ⟨T15, X15, e15, st15⟩ := getF X14 hx hZ hown (host := "") (Or.inl (own_w hw 51 rfl)) Via.refl eq14 (Fld.ext O13.2 Fl) (g := (mkF m 24 #[vr a1, vr aS, vr b3, vi 2] [(.ref a1), (.ref b3)])) rfl rfl (hb hby d7_24)
  refine own_st st15 ?_
  show gs T15 m 27 #[vr a1, vr aS, vr b3, vi 2] [(.int 1), (.ref b3)]
  refine own_st (fun _ kS => XS.ifNo X15.here hx rfl (hb hby d7_27) rfl ((if0 _ _).trans (feq (by decide : ¬ ((1 : Int32) = (0 : Int32)))).1) kS) ?_
  show gs T15 m 30 #[vr a1, vr aS, vr b3, vi 2] [(.ref b3)]
  refine oiloadN X15 hx hby d7_30 rfl ?_
  refine oaloadN X15 hx hby d7_31 rfl rfl ?_
  obtain ⟨T16, X16, e16, st16⟩ := getF X15 hx hZ hown (host := "") (Or.inl (own_w hw 49 rfl)) Via.refl e15 (Fld.ext O13.2 Fw) (g := (mkF m 32 #[vr a1, vr aS, vr b3, vi 2] [(.ref a1), (.int 2), (.ref b3)])) rfl rfl (hb hby d7_32)
  refine own_st st16 ?_
  show gs T16 m 35 #[vr a1, vr aS, vr b3, vi 2] [(.int 2), (.int 2), (.ref b3)]
  refine own_st (fun _ kS => XS.imul X16.here hx rfl (hb hby d7_35) rfl kS) ?_
  refine own_st (fun _ kS => XS.goto X16.here hx rfl (pc0 := 36) (pc' := 52) rfl (hb hby d7_36) (by decide) (by decide) kS) ?_
  refine oaloadN X16 hx hby d7_52 rfl rfl ?_
  refine oiloadN X16 hx hby d7_53 rfl ?_
  refine oV 2 X16 hx hZ hby hml hown (own_w hw 53 rfl) (own_w hw 54 rfl) (own_w hw 56 rfl) (own_w hw 55 rfl) (rm_chAt_4_2 l Z a0 hw [] aS tA kA y0 y1 y2 y3 zCS fm h13 n0 (Nat.le_trans (Nat.le_trans (Nat.le_trans Z0 E3.1) (Keep.of_wr W8).1) (Keep.of_wr W13).1) O13 (Exa.wr W13 (Exa.wr W8 (Exa.ext E3 E_0))) (Fld.other W13 (Fld.other W8 (Fld.ext E3 F0v) (Or.inl ne_aS_b3)) (Or.inl ne_aS_b3)) (Fld.other W13 (Fld.other W8 (Fld.ext E3 F0c) (Or.inl ne_aS_b3)) (Or.inl ne_aS_b3)) (((Arv.ext R_A E3).other W8 ne_tA_b3).other W13 ne_tA_b3) S_CS P_CS S_SF P_SF) (own_w hw 57 rfl) (own_w hw 7 rfl) e16 (Exa.wr W13 (Exa.wr W8 (Exa.ext E3 E_0))) (by decide) own_pd10 d7_54 rfl rfl rfl (fun T17 L17 v17 X17 hQ17 => ?_)
  obtain ⟨rfl, Nq17, eq17⟩ := hQ17
  have N17 := Fr.app N14 Nq17
  show gs T17 m 57 #[vr a1, vr aS, vr b3, vi 2] [(.int (own_lat y2)), (.int 4), (.ref b3)]
  refine own_st (fun _ kS => XT.i2b X17.here hx rfl (hb hby d7_57) rfl kS) ?_
  show gs T17 m 58 #[vr a1, vr aS, vr b3, vi 2] [(.int ((own_lat y2).toInt8.toInt32)), (.int 4), (.ref b3)]
  obtain ⟨cl18, Ar18, qa18, qs18, qn18, qh18, qg18⟩ := id R13
  obtain ⟨T18, h18, X18, e18, W18, st18⟩ := stB X17 hx hZ eq17 Ar18 (j := (4 : Int32)) (inb_of qs18 ⟨by decide, by decide⟩) (g := (mkF m 58 #[vr a1, vr aS, vr b3, vi 2] [(.int ((own_lat y2).toInt8.toInt32)), (.int 4), (.ref b3)])) rfl rfl (hb hby d7_58)
  have N18 := Fr.snoc X18 N17 ge_b3
  have K18 := K13.wr W18 (Or.inr sz_b3)
  have O18 := O13.wr W18 ge_b3
  have R18 : Arv Z h18 b3 k3 .byte (8 : Int32) [(.int (nar .byte ((own_lat y0).toInt8.toInt32))), (.int 0), (.int (nar .byte ((own_lat y1).toInt8.toInt32))), (.int 0), (.int (nar .byte ((own_lat y2).toInt8.toInt32))), (.int 0), (.int 0), (.int 0)] (.int 0) := Arv.set Ar18 qa18 qs18 qn18 qh18 qg18 (fits_nar_byte _) W18 4 rfl (Nat.le_of_ble_eq_true rfl)
  refine own_st st18 ?_
  show gs T18 m 59 #[vr a1, vr aS, vr b3, vi 2] []
  refine own_st (fun _ kS => XS.iinc X18.here hx rfl (hb hby d7_59) rfl (l' := #[vr a1, vr aS, vr b3, vi 3]) rfl kS) ?_
  refine own_st (fun _ kS => XS.goto X18.here hx rfl (pc0 := 62) (pc' := 14) rfl (hb hby d7_62) (by decide) (by decide) kS) ?_
  refine oiloadN X18 hx hby d7_14 rfl ?_
  refine oaloadN X18 hx hby d7_15 rfl rfl ?_
  refine oV 1 X18 hx hZ hby hml hown (own_w hw 39 rfl) (own_w hw 40 rfl) (own_w hw 42 rfl) (own_w hw 41 rfl) (rm_sLen_4 l Z a0 hw [] aS tA kA y0 y1 y2 y3 zCS h18 n0 (Nat.le_trans (Nat.le_trans (Nat.le_trans (Nat.le_trans Z0 E3.1) (Keep.of_wr W8).1) (Keep.of_wr W13).1) (Keep.of_wr W18).1) O18 (Exa.wr W18 (Exa.wr W13 (Exa.wr W8 (Exa.ext E3 E_0)))) (Fld.other W18 (Fld.other W13 (Fld.other W8 (Fld.ext E3 F0v) (Or.inl ne_aS_b3)) (Or.inl ne_aS_b3)) (Or.inl ne_aS_b3)) (Fld.other W18 (Fld.other W13 (Fld.other W8 (Fld.ext E3 F0c) (Or.inl ne_aS_b3)) (Or.inl ne_aS_b3)) (Or.inl ne_aS_b3)) ((((Arv.ext R_A E3).other W8 ne_tA_b3).other W13 ne_tA_b3).other W18 ne_tA_b3) S_CS P_CS) (own_w hw 43 rfl) (own_w hw 7 rfl) e18 (Exa.wr W18 (Exa.wr W13 (Exa.wr W8 (Exa.ext E3 E_0)))) (by decide) own_pd9 d7_16 rfl rfl rfl (fun T19 L19 v19 X19 hQ19 => ?_)
  obtain ⟨rfl, Nq19, eq19⟩ := hQ19
  have N19 := Fr.app N18 Nq19
  show gs T19 m 19 #[vr a1, vr aS, vr b3, vi 3] [(.int 4), (.int 3)]
  refine own_st (fun _ kS => XS.icmpNo X19.here hx rfl (hb hby d7_19) rfl (tlt (by decide : (3 : Int32) < (4 : Int32))).2.1 kS) ?_
  show gs T19 m 22 #[vr a1, vr aS, vr b3, vi 3] []
  refine oaloadN X19 hx hby d7_22 rfl rfl ?_
  refine oaloadN X19 hx hby d7_23 rfl rfl ?_
  obtain ⟨T20, X20, e20, st20⟩ := getF X19 hx hZ hown (host := "") (Or.inl (own_w hw 51 rfl)) Via.refl eq19 (Fld.ext O18.2 Fl) (g := (mkF m 24 #[vr a1, vr aS, vr b3, vi 3] [(.ref a1), (.ref b3)])) rfl rfl (hb hby d7_24)
  refine own_st st20 ?_
  show gs T20 m 27 #[vr a1, vr aS, vr b3, vi 3] [(.int 1), (.ref b3)]
  refine own_st (fun _ kS => XS.ifNo X20.here hx rfl (hb hby d7_27) rfl ((if0 _ _).trans (feq (by decide : ¬ ((1 : Int32) = (0 : Int32)))).1) kS) ?_
  show gs T20 m 30 #[vr a1, vr aS, vr b3, vi 3] [(.ref b3)]
  refine oiloadN X20 hx hby d7_30 rfl ?_
  refine oaloadN X20 hx hby d7_31 rfl rfl ?_
  obtain ⟨T21, X21, e21, st21⟩ := getF X20 hx hZ hown (host := "") (Or.inl (own_w hw 49 rfl)) Via.refl e20 (Fld.ext O18.2 Fw) (g := (mkF m 32 #[vr a1, vr aS, vr b3, vi 3] [(.ref a1), (.int 3), (.ref b3)])) rfl rfl (hb hby d7_32)
  refine own_st st21 ?_
  show gs T21 m 35 #[vr a1, vr aS, vr b3, vi 3] [(.int 2), (.int 3), (.ref b3)]
  refine own_st (fun _ kS => XS.imul X21.here hx rfl (hb hby d7_35) rfl kS) ?_
  refine own_st (fun _ kS => XS.goto X21.here hx rfl (pc0 := 36) (pc' := 52) rfl (hb hby d7_36) (by decide) (by decide) kS) ?_
  refine oaloadN X21 hx hby d7_52 rfl rfl ?_
  refine oiloadN X21 hx hby d7_53 rfl ?_
  refine oV 2 X21 hx hZ hby hml hown (own_w hw 53 rfl) (own_w hw 54 rfl) (own_w hw 56 rfl) (own_w hw 55 rfl) (rm_chAt_4_3 l Z a0 hw [] aS tA kA y0 y1 y2 y3 zCS fm h18 n0 (Nat.le_trans (Nat.le_trans (Nat.le_trans (Nat.le_trans Z0 E3.1) (Keep.of_wr W8).1) (Keep.of_wr W13).1) (Keep.of_wr W18).1) O18 (Exa.wr W18 (Exa.wr W13 (Exa.wr W8 (Exa.ext E3 E_0)))) (Fld.other W18 (Fld.other W13 (Fld.other W8 (Fld.ext E3 F0v) (Or.inl ne_aS_b3)) (Or.inl ne_aS_b3)) (Or.inl ne_aS_b3)) (Fld.other W18 (Fld.other W13 (Fld.other W8 (Fld.ext E3 F0c) (Or.inl ne_aS_b3)) (Or.inl ne_aS_b3)) (Or.inl ne_aS_b3)) ((((Arv.ext R_A E3).other W8 ne_tA_b3).other W13 ne_tA_b3).other W18 ne_tA_b3) S_CS P_CS S_SF P_SF) (own_w hw 57 rfl) (own_w hw 7 rfl) e21 (Exa.wr W18 (Exa.wr W13 (Exa.wr W8 (Exa.ext E3 E_0)))) (by decide) own_pd10 d7_54 rfl rfl rfl (fun T22 L22 v22 X22 hQ22 => ?_)
  obtain ⟨rfl, Nq22, eq22⟩ := hQ22
  have N22 := Fr.app N19 Nq22
  show gs T22 m 57 #[vr a1, vr aS, vr b3, vi 3] [(.int (own_lat y3)), (.int 6), (.ref b3)]
  refine own_st (fun _ kS => XT.i2b X22.here hx rfl (hb hby d7_57) rfl kS) ?_
  show gs T22 m 58 #[vr a1, vr aS, vr b3, vi 3] [(.int ((own_lat y3).toInt8.toInt32)), (.int 6), (.ref b3)]
  obtain ⟨cl23, Ar23, qa23, qs23, qn23, qh23, qg23⟩ := id R18
  obtain ⟨T23, h23, X23, e23, W23, st23⟩ := stB X22 hx hZ eq22 Ar23 (j := (6 : Int32)) (inb_of qs23 ⟨by decide, by decide⟩) (g := (mkF m 58 #[vr a1, vr aS, vr b3, vi 3] [(.int ((own_lat y3).toInt8.toInt32)), (.int 6), (.ref b3)])) rfl rfl (hb hby d7_58)
  have N23 := Fr.snoc X23 N22 ge_b3
  have K23 := K18.wr W23 (Or.inr sz_b3)
  have O23 := O18.wr W23 ge_b3
  have R23 : Arv Z h23 b3 k3 .byte (8 : Int32) [(.int (nar .byte ((own_lat y0).toInt8.toInt32))), (.int 0), (.int (nar .byte ((own_lat y1).toInt8.toInt32))), (.int 0), (.int (nar .byte ((own_lat y2).toInt8.toInt32))), (.int 0), (.int (nar .byte ((own_lat y3).toInt8.toInt32))), (.int 0)] (.int 0) := Arv.set Ar23 qa23 qs23 qn23 qh23 qg23 (fits_nar_byte _) W23 6 rfl (Nat.le_of_ble_eq_true rfl)
  refine own_st st23 ?_
  show gs T23 m 59 #[vr a1, vr aS, vr b3, vi 3] []
  refine own_st (fun _ kS => XS.iinc X23.here hx rfl (hb hby d7_59) rfl (l' := #[vr a1, vr aS, vr b3, vi 4]) rfl kS) ?_
  refine own_st (fun _ kS => XS.goto X23.here hx rfl (pc0 := 62) (pc' := 14) rfl (hb hby d7_62) (by decide) (by decide) kS) ?_
  refine oiloadN X23 hx hby d7_14 rfl ?_
  refine oaloadN X23 hx hby d7_15 rfl rfl ?_
  refine oV 1 X23 hx hZ hby hml hown (own_w hw 39 rfl) (own_w hw 40 rfl) (own_w hw 42 rfl) (own_w hw 41 rfl) (rm_sLen_4 l Z a0 hw [] aS tA kA y0 y1 y2 y3 zCS h23 n0 (Nat.le_trans (Nat.le_trans (Nat.le_trans (Nat.le_trans (Nat.le_trans Z0 E3.1) (Keep.of_wr W8).1) (Keep.of_wr W13).1) (Keep.of_wr W18).1) (Keep.of_wr W23).1) O23 (Exa.wr W23 (Exa.wr W18 (Exa.wr W13 (Exa.wr W8 (Exa.ext E3 E_0))))) (Fld.other W23 (Fld.other W18 (Fld.other W13 (Fld.other W8 (Fld.ext E3 F0v) (Or.inl ne_aS_b3)) (Or.inl ne_aS_b3)) (Or.inl ne_aS_b3)) (Or.inl ne_aS_b3)) (Fld.other W23 (Fld.other W18 (Fld.other W13 (Fld.other W8 (Fld.ext E3 F0c) (Or.inl ne_aS_b3)) (Or.inl ne_aS_b3)) (Or.inl ne_aS_b3)) (Or.inl ne_aS_b3)) (((((Arv.ext R_A E3).other W8 ne_tA_b3).other W13 ne_tA_b3).other W18 ne_tA_b3).other W23 ne_tA_b3) S_CS P_CS) (own_w hw 43 rfl) (own_w hw 7 rfl) e23 (Exa.wr W23 (Exa.wr W18 (Exa.wr W13 (Exa.wr W8 (Exa.ext E3 E_0))))) (by decide) own_pd9 d7_16 rfl rfl rfl (fun T24 L24 v24 X24 hQ24 => ?_)
  obtain ⟨rfl, Nq24, eq24⟩ := hQ24
  have N24 := Fr.app N23 Nq24
  show gs T24 m 19 #[vr a1, vr aS, vr b3, vi 4] [(.int 4), (.int 4)]
  refine own_st (fun _ kS => XS.icmpYes X24.here hx rfl (pc0 := 19) (pc' := 65) rfl (hb hby d7_19) rfl (flt (by decide : ¬ ((4 : Int32) < (4 : Int32)))).2.1 (by decide) (by decide) kS) ?_
  show gs T24 m 65 #[vr a1, vr aS, vr b3, vi 4] []
  refine oaloadN X24 hx hby d7_65 rfl rfl ?_
  exact own_retA X24 hx hlk hret rfl rfl (hb hby d7_66) (by decide) (by decide) (by rw [eq24]; exact ⟨b3, k3, ⟨rfl, N24, K23, sz_b3, R23⟩⟩)
theorem d15_0 : dk B13 0 (.iload_n 1) 1 := by decide +kernel
theorem d15_1 : dk B13 1 (.aload_n 0) 1 := by decide +kernel
theorem d15_2 : dk B13 2 (.arraylength) 1 := by decide +kernel
theorem d15_3 : dk B13 3 (.if_icmp .lt 5) 3 := by decide +kernel
theorem d15_6 : dk B13 6 (.iconst 1) 1 := by decide +kernel
theorem d15_7 : dk B13 7 (.ireturn) 1 := by decide +kernel
theorem d15_8 : dk B13 8 (.iload_n 1) 1 := by decide +kernel
theorem d15_9 : dk B13 9 (.iload_n 2) 1 := by decide +kernel
theorem d15_10 : dk B13 10 (.idiv) 1 := by decide +kernel
theorem d15_11 : dk B13 11 (.istore 5) 2 := by decide +kernel
theorem d15_13 : dk B13 13 (.iload_n 1) 1 := by decide +kernel
theorem d15_14 : dk B13 14 (.iload_n 2) 1 := by decide +kernel
theorem d15_15 : dk B13 15 (.irem) 1 := by decide +kernel
theorem d15_16 : dk B13 16 (.istore 6) 2 := by decide +kernel
theorem d15_18 : dk B13 18 (.iload_n 3) 1 := by decide +kernel
theorem d15_19 : dk B13 19 (.ifCond .eq 7) 3 := by decide +kernel
theorem d15_22 : dk B13 22 (.iconst 0) 1 := by decide +kernel
theorem d15_23 : dk B13 23 (.goto 6) 3 := by decide +kernel
theorem d15_26 : dk B13 26 (.iload_n 2) 1 := by decide +kernel
theorem d15_27 : dk B13 27 (.iconst 1) 1 := by decide +kernel
theorem d15_28 : dk B13 28 (.isub) 1 := by decide +kernel
theorem d15_29 : dk B13 29 (.istore 7) 2 := by decide +kernel
theorem d15_31 : dk B13 31 (.iload 6) 2 := by decide +kernel
theorem d15_33 : dk B13 33 (.iload 7) 2 := by decide +kernel
theorem d15_35 : dk B13 35 (.if_icmp .ne 12) 3 := by decide +kernel
theorem d15_38 : dk B13 38 (.aload 4) 2 := by decide +kernel
theorem d15_40 : dk B13 40 (.iload 5) 2 := by decide +kernel
theorem d15_42 : dk B13 42 (.caload) 1 := by decide +kernel
theorem d15_43 : dk B13 43 (.i2b) 1 := by decide +kernel
theorem d15_44 : dk B13 44 (.goto 4) 3 := by decide +kernel
theorem d15_47 : dk B13 47 (.iconst 0) 1 := by decide +kernel
theorem d15_48 : dk B13 48 (.istore 8) 2 := by decide +kernel
theorem d15_50 : dk B13 50 (.aload_n 0) 1 := by decide +kernel
theorem d15_51 : dk B13 51 (.iload_n 1) 1 := by decide +kernel
theorem d15_52 : dk B13 52 (.baload) 1 := by decide +kernel
theorem d15_53 : dk B13 53 (.iload 8) 2 := by decide +kernel
theorem d15_55 : dk B13 55 (.if_icmp .ne 7) 3 := by decide +kernel
theorem d15_58 : dk B13 58 (.iconst 1) 1 := by decide +kernel
theorem d15_59 : dk B13 59 (.goto 4) 3 := by decide +kernel
theorem d15_62 : dk B13 62 (.iconst 0) 1 := by decide +kernel
theorem d15_63 : dk B13 63 (.ireturn) 1 := by decide +kernel
theorem pn_15 : plainName "com/example/provenir/provenir/TextEncodingEncodePinLaw" = true := by first | (simp [plainName, overriddenIn]; done) | decide +kernel
theorem ef_atO (m : MethodId) (x0 : Addr) (x1 : Int32) (x2 : Int32) (x3 : Int32) (x4 : Addr) : entryFrame m #[(.ref x0), (.int x1), (.int x2), (.int x3), (.ref x4)] 9 = mkF m 0 #[.val (.ref x0), .val (.int x1), .val (.int x2), .val (.int x3), .val (.ref x4), .unset, .unset, .unset, .unset] [] := by first | (simp [entryFrame, mkF, argsToLocals, Value.category]; done) | rfl
def Q_atO (Z : State) (a1 : Addr) (a5 : Addr) (cB : Cell) (cC : Cell) (p1 : Int32) (w : Int32) (nB : Int32) (le : Int32) (h0 : Heap) (n0 : Nat) (v : Option Value) (h : Heap) (L : List Loc) : Prop := v = some (.int 1) ∧ Fr n0 L ∧ h = h0
theorem rm_atO (l : Launch) (Z : State) (a0 : Array Value) (hw : HW a0 Z) (ws : List Jvm.Cond) (a1 : Addr) (a5 : Addr) (cB : Cell) (cC : Cell) (p1 : Int32) (w : Int32) (nB : Int32) (le : Int32) (h0 : Heap) (n0 : Nat) (Z0 : n0 ≤ h0.size) (Tb : Tab Z h0 a1 cB .byte nB) (hp : ¬ (p1 < nB)) :
    M13 l ws (rmk 0 0 0 0) Z #[(.ref a1), (.int p1), (.int w), (.int le), (.ref a5)] h0 (Q_atO Z a1 a5 cB cC p1 w nB le h0 n0) := by
  refine own_go "com/example/provenir/provenir/TextEncodingEncodePinLaw" rfl (plainFor_of_name pn_15) (fun m => ef_atO m a1 p1 w le a5) (fun p e s m below meth c s₁ hx hby hml hown hnm hlk hret hZ X0 e0 => ?_)
  have N0 := Fr.nil n0
  show gs s₁ m 0 #[vr a1, vi p1, vi w, vi le, vr a5, .unset, .unset, .unset, .unset] []
  refine oiloadN X0 hx hby d15_0 rfl ?_
  refine oaloadN X0 hx hby d15_1 rfl rfl ?_
  show gs s₁ m 2 #[vr a1, vi p1, vi w, vi le, vr a5, .unset, .unset, .unset, .unset] [(.ref a1), (.int p1)]
  refine own_st (fun _ kS => X0.arraylength hx (by rw [e0]; exact Tb.1.1) (State.isArrayOf_alike hZ.alike Tb.1.2.1) (g := (mkF m 2 #[vr a1, vi p1, vi w, vi le, vr a5, .unset, .unset, .unset, .unset] [(.ref a1), (.int p1)])) rfl rfl (hb hby d15_2) _ kS) ?_
  rw [len_of Tb.2.1 Tb.2.2.1]
  show gs s₁ m 3 #[vr a1, vi p1, vi w, vi le, vr a5, .unset, .unset, .unset, .unset] [(.int nB), (.int p1)]
  refine own_st (fun _ kS => XS.icmpNo X0.here hx rfl (hb hby d15_3) rfl (flt (hp : ¬ (p1 < nB))).1 kS) ?_
  show gs s₁ m 6 #[vr a1, vi p1, vi w, vi le, vr a5, .unset, .unset, .unset, .unset] []
  refine oiconst X0 hx hby d15_6 ?_
  exact own_retN X0 hx hlk (t := .boolean) hret (by simp) (hb hby d15_7) (by decide) (by decide) (v' := (1 : Int32)) rfl (by rw [e0]; exact ⟨rfl, N0, rfl⟩)
theorem ef_at_1_1 (m : MethodId) (x0 : Addr) (x1 : Int32) (x2 : Int32) (x3 : Addr) : entryFrame m #[(.ref x0), (.int x1), (.int x2), (.int 1), (.ref x3)] 9 = mkF m 0 #[.val (.ref x0), .val (.int x1), .val (.int x2), .val (.int 1), .val (.ref x3), .unset, .unset, .unset, .unset] [] := by first | (simp [entryFrame, mkF, argsToLocals, Value.category]; done) | rfl
def Q_at_1_1 (Z : State) (a1 : Addr) (a5 : Addr) (cB : Cell) (cC : Cell) (p1 : Int32) (w : Int32) (nB : Int32) (h0 : Heap) (n0 : Nat) (v : Option Value) (h : Heap) (L : List Loc) : Prop := v = some (.int 1) ∧ Fr n0 L ∧ h = h0
theorem rm_at_1_1 (l : Launch) (Z : State) (a0 : Array Value) (hw : HW a0 Z) (ws : List Jvm.Cond) (a1 : Addr) (a5 : Addr) (cB : Cell) (cC : Cell) (p1 : Int32) (w : Int32) (nB : Int32) (h0 : Heap) (n0 : Nat) (Z0 : n0 ≤ h0.size) (Tb : Tab Z h0 a1 cB .byte nB) (Tc : Tab Z h0 a5 cC .char (4 : Int32)) (hlt : p1 < nB) (hn : ¬ p1 < 0) (hz : w ≠ 0) (hr : (p1 % w) = (0 : Int32)) (hq : ¬ (p1 / w) < 0 ∧ (p1 / w) < (4 : Int32)) (hv : (atv cB p1) = ((atv cC (p1 / w)).toInt8.toInt32)) :
    M13 l ws (rmk 0 0 0 0) Z #[(.ref a1), (.int p1), (.int w), (.int 1), (.ref a5)] h0 (Q_at_1_1 Z a1 a5 cB cC p1 w nB h0 n0) := by
  refine own_go "com/example/provenir/provenir/TextEncodingEncodePinLaw" rfl (plainFor_of_name pn_15) (fun m => ef_at_1_1 m a1 p1 w a5) (fun p e s m below meth c s₁ hx hby hml hown hnm hlk hret hZ X0 e0 => ?_)
  have N0 := Fr.nil n0
  show gs s₁ m 0 #[vr a1, vi p1, vi w, vi 1, vr a5, .unset, .unset, .unset, .unset] []
  refine oiloadN X0 hx hby d15_0 rfl ?_
  refine oaloadN X0 hx hby d15_1 rfl rfl ?_
  show gs s₁ m 2 #[vr a1, vi p1, vi w, vi 1, vr a5, .unset, .unset, .unset, .unset] [(.ref a1), (.int p1)]
  refine own_st (fun _ kS => X0.arraylength hx (by rw [e0]; exact Tb.1.1) (State.isArrayOf_alike hZ.alike Tb.1.2.1) (g := (mkF m 2 #[vr a1, vi p1, vi w, vi 1, vr a5, .unset, .unset, .unset, .unset] [(.ref a1), (.int p1)])) rfl rfl (hb hby d15_2) _ kS) ?_
  rw [len_of Tb.2.1 Tb.2.2.1]
  show gs s₁ m 3 #[vr a1, vi p1, vi w, vi 1, vr a5, .unset, .unset, .unset, .unset] [(.int nB), (.int p1)]
  refine own_st (fun _ kS => XS.icmpYes X0.here hx rfl (pc0 := 3) (pc' := 8) rfl (hb hby d15_3) rfl (tlt (hlt : p1 < nB)).1 (by decide) (by decide) kS) ?_
  show gs s₁ m 8 #[vr a1, vi p1, vi w, vi 1, vr a5, .unset, .unset, .unset, .unset] []
  refine oiloadN X0 hx hby d15_8 rfl ?_
  refine oiloadN X0 hx hby d15_9 rfl ?_
  refine own_st (fun _ kS => XS.idiv X0.here hx rfl (hb hby d15_10) rfl hz kS) ?_
  show gs s₁ m 11 #[vr a1, vi p1, vi w, vi 1, vr a5, .unset, .unset, .unset, .unset] [(.int (p1 / w))]
  refine own_st (fun _ kS => XS.istore X0.here hx rfl (hb hby d15_11) rfl (l' := #[vr a1, vi p1, vi w, vi 1, vr a5, vi (p1 / w), .unset, .unset, .unset]) rfl kS) ?_
  refine oiloadN X0 hx hby d15_13 rfl ?_
  refine oiloadN X0 hx hby d15_14 rfl ?_
  show gs s₁ m 15 #[vr a1, vi p1, vi w, vi 1, vr a5, vi (p1 / w), .unset, .unset, .unset] [(.int w), (.int p1)]
  refine own_st (fun _ kS => iremM (g := (mkF m 15 #[vr a1, vi p1, vi w, vi 1, vr a5, vi (p1 / w), .unset, .unset, .unset] [(.int w), (.int p1)])) X0 hx rfl (hb hby d15_15) rfl hz kS) ?_
  show gs s₁ m 16 #[vr a1, vi p1, vi w, vi 1, vr a5, vi (p1 / w), .unset, .unset, .unset] [(.int (p1 % w))]
  refine own_st (fun _ kS => XS.istore X0.here hx rfl (hb hby d15_16) rfl (l' := #[vr a1, vi p1, vi w, vi 1, vr a5, vi (p1 / w), vi (p1 % w), .unset, .unset]) rfl kS) ?_
  refine oiloadN X0 hx hby d15_18 rfl ?_
  refine own_st (fun _ kS => XS.ifNo X0.here hx rfl (hb hby d15_19) rfl ((if0 _ _).trans (feq (by decide : ¬ ((1 : Int32) = (0 : Int32)))).1) kS) ?_
  show gs s₁ m 22 #[vr a1, vi p1, vi w, vi 1, vr a5, vi (p1 / w), vi (p1 % w), .unset, .unset] []
  refine oiconst X0 hx hby d15_22 ?_
  refine own_st (fun _ kS => XS.goto X0.here hx rfl (pc0 := 23) (pc' := 29) rfl (hb hby d15_23) (by decide) (by decide) kS) ?_
  refine own_st (fun _ kS => XS.istore X0.here hx rfl (hb hby d15_29) rfl (l' := #[vr a1, vi p1, vi w, vi 1, vr a5, vi (p1 / w), vi (p1 % w), vi 0, .unset]) rfl kS) ?_
  refine oiload X0 hx hby d15_31 rfl ?_
  refine oiload X0 hx hby d15_33 rfl ?_
  refine own_st (fun _ kS => XS.icmpNo X0.here hx rfl (hb hby d15_35) rfl (teq (hr : (p1 % w) = (0 : Int32))).2 kS) ?_
  show gs s₁ m 38 #[vr a1, vi p1, vi w, vi 1, vr a5, vi (p1 / w), vi (p1 % w), vi 0, .unset] []
  refine oaload X0 hx hby d15_38 rfl rfl ?_
  refine oiload X0 hx hby d15_40 rfl ?_
  show gs s₁ m 42 #[vr a1, vi p1, vi w, vi 1, vr a5, vi (p1 / w), vi (p1 % w), vi 0, .unset] [(.int (p1 / w)), (.ref a5)]
  have ib1 : ¬ ((p1 / w) < 0 ∨ cC.slots.size ≤ ((p1 / w)).toNatClampNeg) := inb_of Tc.2.1 hq
  refine own_st (fun _ kS => X0.caload hx (j := (p1 / w)) (v := (.int (atv cC (p1 / w)))) (by rw [e0]; exact Tc.1.1) (State.isArrayOf_alike hZ.alike Tc.1.2.1) Tc.1.2.2 ib1 (Tc.2.2.2 _ ib1) (g := (mkF m 42 #[vr a1, vi p1, vi w, vi 1, vr a5, vi (p1 / w), vi (p1 % w), vi 0, .unset] [(.int (p1 / w)), (.ref a5)])) rfl rfl (hb hby d15_42) _ kS) ?_
  show gs s₁ m 43 #[vr a1, vi p1, vi w, vi 1, vr a5, vi (p1 / w), vi (p1 % w), vi 0, .unset] [(.int (atv cC (p1 / w)))]
  refine own_st (fun _ kS => XT.i2b X0.here hx rfl (hb hby d15_43) rfl kS) ?_
  refine own_st (fun _ kS => XS.goto X0.here hx rfl (pc0 := 44) (pc' := 48) rfl (hb hby d15_44) (by decide) (by decide) kS) ?_
  refine own_st (fun _ kS => XS.istore X0.here hx rfl (hb hby d15_48) rfl (l' := #[vr a1, vi p1, vi w, vi 1, vr a5, vi (p1 / w), vi (p1 % w), vi 0, vi ((atv cC (p1 / w)).toInt8.toInt32)]) rfl kS) ?_
  refine oaloadN X0 hx hby d15_50 rfl rfl ?_
  refine oiloadN X0 hx hby d15_51 rfl ?_
  show gs s₁ m 52 #[vr a1, vi p1, vi w, vi 1, vr a5, vi (p1 / w), vi (p1 % w), vi 0, vi ((atv cC (p1 / w)).toInt8.toInt32)] [(.int p1), (.ref a1)]
  have ib2 : ¬ (p1 < 0 ∨ cB.slots.size ≤ (p1).toNatClampNeg) := inb_of Tb.2.1 ⟨hn, hlt⟩
  refine own_st (fun _ kS => X0.baloadBytes hx (j := p1) (v := (.int (atv cB p1))) (by rw [e0]; exact Tb.1.1) (State.isArrayOf_alike hZ.alike Tb.1.2.1) Tb.1.2.2 ib2 (Tb.2.2.2 _ ib2) (g := (mkF m 52 #[vr a1, vi p1, vi w, vi 1, vr a5, vi (p1 / w), vi (p1 % w), vi 0, vi ((atv cC (p1 / w)).toInt8.toInt32)] [(.int p1), (.ref a1)])) rfl rfl (hb hby d15_52) _ kS) ?_
  show gs s₁ m 53 #[vr a1, vi p1, vi w, vi 1, vr a5, vi (p1 / w), vi (p1 % w), vi 0, vi ((atv cC (p1 / w)).toInt8.toInt32)] [(.int (atv cB p1))]
  refine oiload X0 hx hby d15_53 rfl ?_
  refine own_st (fun _ kS => XS.icmpNo X0.here hx rfl (hb hby d15_55) rfl (teq (hv : (atv cB p1) = ((atv cC (p1 / w)).toInt8.toInt32))).2 kS) ?_
  show gs s₁ m 58 #[vr a1, vi p1, vi w, vi 1, vr a5, vi (p1 / w), vi (p1 % w), vi 0, vi ((atv cC (p1 / w)).toInt8.toInt32)] []
  refine oiconst X0 hx hby d15_58 ?_
  refine own_st (fun _ kS => XS.goto X0.here hx rfl (pc0 := 59) (pc' := 63) rfl (hb hby d15_59) (by decide) (by decide) kS) ?_
  show gs s₁ m 63 #[vr a1, vi p1, vi w, vi 1, vr a5, vi (p1 / w), vi (p1 % w), vi 0, vi ((atv cC (p1 / w)).toInt8.toInt32)] [(.int 1)]
  exact own_retN X0 hx hlk (t := .boolean) hret (by simp) (hb hby d15_63) (by decide) (by decide) (v' := (1 : Int32)) rfl (by rw [e0]; exact ⟨rfl, N0, rfl⟩)
theorem ef_at_1_0 (m : MethodId) (x0 : Addr) (x1 : Int32) (x2 : Int32) (x3 : Addr) : entryFrame m #[(.ref x0), (.int x1), (.int x2), (.int 1), (.ref x3)] 9 = mkF m 0 #[.val (.ref x0), .val (.int x1), .val (.int x2), .val (.int 1), .val (.ref x3), .unset, .unset, .unset, .unset] [] := by first | (simp [entryFrame, mkF, argsToLocals, Value.category]; done) | rfl
def Q_at_1_0 (Z : State) (a1 : Addr) (a5 : Addr) (cB : Cell) (cC : Cell) (p1 : Int32) (w : Int32) (nB : Int32) (h0 : Heap) (n0 : Nat) (v : Option Value) (h : Heap) (L : List Loc) : Prop := v = some (.int 1) ∧ Fr n0 L ∧ h = h0
theorem rm_at_1_0 (l : Launch) (Z : State) (a0 : Array Value) (hw : HW a0 Z) (ws : List Jvm.Cond) (a1 : Addr) (a5 : Addr) (cB : Cell) (cC : Cell) (p1 : Int32) (w : Int32) (nB : Int32) (h0 : Heap) (n0 : Nat) (Z0 : n0 ≤ h0.size) (Tb : Tab Z h0 a1 cB .byte nB) (Tc : Tab Z h0 a5 cC .char (4 : Int32)) (hlt : p1 < nB) (hn : ¬ p1 < 0) (hz : w ≠ 0) (hr : ¬ ((p1 % w) = (0 : Int32))) (hv : (atv cB p1) = (0 : Int32)) :
    M13 l ws (rmk 0 0 0 0) Z #[(.ref a1), (.int p1), (.int w), (.int 1), (.ref a5)] h0 (Q_at_1_0 Z a1 a5 cB cC p1 w nB h0 n0) := by
  refine own_go "com/example/provenir/provenir/TextEncodingEncodePinLaw" rfl (plainFor_of_name pn_15) (fun m => ef_at_1_0 m a1 p1 w a5) (fun p e s m below meth c s₁ hx hby hml hown hnm hlk hret hZ X0 e0 => ?_)
  have N0 := Fr.nil n0
  show gs s₁ m 0 #[vr a1, vi p1, vi w, vi 1, vr a5, .unset, .unset, .unset, .unset] []
  refine oiloadN X0 hx hby d15_0 rfl ?_
  refine oaloadN X0 hx hby d15_1 rfl rfl ?_
  show gs s₁ m 2 #[vr a1, vi p1, vi w, vi 1, vr a5, .unset, .unset, .unset, .unset] [(.ref a1), (.int p1)]
  refine own_st (fun _ kS => X0.arraylength hx (by rw [e0]; exact Tb.1.1) (State.isArrayOf_alike hZ.alike Tb.1.2.1) (g := (mkF m 2 #[vr a1, vi p1, vi w, vi 1, vr a5, .unset, .unset, .unset, .unset] [(.ref a1), (.int p1)])) rfl rfl (hb hby d15_2) _ kS) ?_
  rw [len_of Tb.2.1 Tb.2.2.1]
  show gs s₁ m 3 #[vr a1, vi p1, vi w, vi 1, vr a5, .unset, .unset, .unset, .unset] [(.int nB), (.int p1)]
  refine own_st (fun _ kS => XS.icmpYes X0.here hx rfl (pc0 := 3) (pc' := 8) rfl (hb hby d15_3) rfl (tlt (hlt : p1 < nB)).1 (by decide) (by decide) kS) ?_
  show gs s₁ m 8 #[vr a1, vi p1, vi w, vi 1, vr a5, .unset, .unset, .unset, .unset] []
  refine oiloadN X0 hx hby d15_8 rfl ?_
  refine oiloadN X0 hx hby d15_9 rfl ?_
  refine own_st (fun _ kS => XS.idiv X0.here hx rfl (hb hby d15_10) rfl hz kS) ?_
  show gs s₁ m 11 #[vr a1, vi p1, vi w, vi 1, vr a5, .unset, .unset, .unset, .unset] [(.int (p1 / w))]
  refine own_st (fun _ kS => XS.istore X0.here hx rfl (hb hby d15_11) rfl (l' := #[vr a1, vi p1, vi w, vi 1, vr a5, vi (p1 / w), .unset, .unset, .unset]) rfl kS) ?_
  refine oiloadN X0 hx hby d15_13 rfl ?_
  refine oiloadN X0 hx hby d15_14 rfl ?_
  show gs s₁ m 15 #[vr a1, vi p1, vi w, vi 1, vr a5, vi (p1 / w), .unset, .unset, .unset] [(.int w), (.int p1)]
  refine own_st (fun _ kS => iremM (g := (mkF m 15 #[vr a1, vi p1, vi w, vi 1, vr a5, vi (p1 / w), .unset, .unset, .unset] [(.int w), (.int p1)])) X0 hx rfl (hb hby d15_15) rfl hz kS) ?_
  show gs s₁ m 16 #[vr a1, vi p1, vi w, vi 1, vr a5, vi (p1 / w), .unset, .unset, .unset] [(.int (p1 % w))]
  refine own_st (fun _ kS => XS.istore X0.here hx rfl (hb hby d15_16) rfl (l' := #[vr a1, vi p1, vi w, vi 1, vr a5, vi (p1 / w), vi (p1 % w), .unset, .unset]) rfl kS) ?_
  refine oiloadN X0 hx hby d15_18 rfl ?_
  refine own_st (fun _ kS => XS.ifNo X0.here hx rfl (hb hby d15_19) rfl ((if0 _ _).trans (feq (by decide : ¬ ((1 : Int32) = (0 : Int32)))).1) kS) ?_
  show gs s₁ m 22 #[vr a1, vi p1, vi w, vi 1, vr a5, vi (p1 / w), vi (p1 % w), .unset, .unset] []
  refine oiconst X0 hx hby d15_22 ?_
  refine own_st (fun _ kS => XS.goto X0.here hx rfl (pc0 := 23) (pc' := 29) rfl (hb hby d15_23) (by decide) (by decide) kS) ?_
  refine own_st (fun _ kS => XS.istore X0.here hx rfl (hb hby d15_29) rfl (l' := #[vr a1, vi p1, vi w, vi 1, vr a5, vi (p1 / w), vi (p1 % w), vi 0, .unset]) rfl kS) ?_
  refine oiload X0 hx hby d15_31 rfl ?_
  refine oiload X0 hx hby d15_33 rfl ?_
  refine own_st (fun _ kS => XS.icmpYes X0.here hx rfl (pc0 := 35) (pc' := 47) rfl (hb hby d15_35) rfl (feq (hr : ¬ ((p1 % w) = (0 : Int32)))).2 (by decide) (by decide) kS) ?_
  show gs s₁ m 47 #[vr a1, vi p1, vi w, vi 1, vr a5, vi (p1 / w), vi (p1 % w), vi 0, .unset] []
  refine oiconst X0 hx hby d15_47 ?_
  refine own_st (fun _ kS => XS.istore X0.here hx rfl (hb hby d15_48) rfl (l' := #[vr a1, vi p1, vi w, vi 1, vr a5, vi (p1 / w), vi (p1 % w), vi 0, vi 0]) rfl kS) ?_
  refine oaloadN X0 hx hby d15_50 rfl rfl ?_
  refine oiloadN X0 hx hby d15_51 rfl ?_
  show gs s₁ m 52 #[vr a1, vi p1, vi w, vi 1, vr a5, vi (p1 / w), vi (p1 % w), vi 0, vi 0] [(.int p1), (.ref a1)]
  have ib1 : ¬ (p1 < 0 ∨ cB.slots.size ≤ (p1).toNatClampNeg) := inb_of Tb.2.1 ⟨hn, hlt⟩
  refine own_st (fun _ kS => X0.baloadBytes hx (j := p1) (v := (.int (atv cB p1))) (by rw [e0]; exact Tb.1.1) (State.isArrayOf_alike hZ.alike Tb.1.2.1) Tb.1.2.2 ib1 (Tb.2.2.2 _ ib1) (g := (mkF m 52 #[vr a1, vi p1, vi w, vi 1, vr a5, vi (p1 / w), vi (p1 % w), vi 0, vi 0] [(.int p1), (.ref a1)])) rfl rfl (hb hby d15_52) _ kS) ?_
  show gs s₁ m 53 #[vr a1, vi p1, vi w, vi 1, vr a5, vi (p1 / w), vi (p1 % w), vi 0, vi 0] [(.int (atv cB p1))]
  refine oiload X0 hx hby d15_53 rfl ?_
  refine own_st (fun _ kS => XS.icmpNo X0.here hx rfl (hb hby d15_55) rfl (teq (hv : (atv cB p1) = (0 : Int32))).2 kS) ?_
  show gs s₁ m 58 #[vr a1, vi p1, vi w, vi 1, vr a5, vi (p1 / w), vi (p1 % w), vi 0, vi 0] []
  refine oiconst X0 hx hby d15_58 ?_
  refine own_st (fun _ kS => XS.goto X0.here hx rfl (pc0 := 59) (pc' := 63) rfl (hb hby d15_59) (by decide) (by decide) kS) ?_
  show gs s₁ m 63 #[vr a1, vi p1, vi w, vi 1, vr a5, vi (p1 / w), vi (p1 % w), vi 0, vi 0] [(.int 1)]
  exact own_retN X0 hx hlk (t := .boolean) hret (by simp) (hb hby d15_63) (by decide) (by decide) (v' := (1 : Int32)) rfl (by rw [e0]; exact ⟨rfl, N0, rfl⟩)
theorem ef_at_0_1 (m : MethodId) (x0 : Addr) (x1 : Int32) (x2 : Int32) (x3 : Addr) : entryFrame m #[(.ref x0), (.int x1), (.int x2), (.int 0), (.ref x3)] 9 = mkF m 0 #[.val (.ref x0), .val (.int x1), .val (.int x2), .val (.int 0), .val (.ref x3), .unset, .unset, .unset, .unset] [] := by first | (simp [entryFrame, mkF, argsToLocals, Value.category]; done) | rfl
def Q_at_0_1 (Z : State) (a1 : Addr) (a5 : Addr) (cB : Cell) (cC : Cell) (p1 : Int32) (w : Int32) (nB : Int32) (h0 : Heap) (n0 : Nat) (v : Option Value) (h : Heap) (L : List Loc) : Prop := v = some (.int 1) ∧ Fr n0 L ∧ h = h0
theorem rm_at_0_1 (l : Launch) (Z : State) (a0 : Array Value) (hw : HW a0 Z) (ws : List Jvm.Cond) (a1 : Addr) (a5 : Addr) (cB : Cell) (cC : Cell) (p1 : Int32) (w : Int32) (nB : Int32) (h0 : Heap) (n0 : Nat) (Z0 : n0 ≤ h0.size) (Tb : Tab Z h0 a1 cB .byte nB) (Tc : Tab Z h0 a5 cC .char (4 : Int32)) (hlt : p1 < nB) (hn : ¬ p1 < 0) (hz : w ≠ 0) (hr : (p1 % w) = (w - (1 : Int32))) (hq : ¬ (p1 / w) < 0 ∧ (p1 / w) < (4 : Int32)) (hv : (atv cB p1) = ((atv cC (p1 / w)).toInt8.toInt32)) :
    M13 l ws (rmk 0 0 0 0) Z #[(.ref a1), (.int p1), (.int w), (.int 0), (.ref a5)] h0 (Q_at_0_1 Z a1 a5 cB cC p1 w nB h0 n0) := by
  refine own_go "com/example/provenir/provenir/TextEncodingEncodePinLaw" rfl (plainFor_of_name pn_15) (fun m => ef_at_0_1 m a1 p1 w a5) (fun p e s m below meth c s₁ hx hby hml hown hnm hlk hret hZ X0 e0 => ?_)
  have N0 := Fr.nil n0
  show gs s₁ m 0 #[vr a1, vi p1, vi w, vi 0, vr a5, .unset, .unset, .unset, .unset] []
  refine oiloadN X0 hx hby d15_0 rfl ?_
  refine oaloadN X0 hx hby d15_1 rfl rfl ?_
  show gs s₁ m 2 #[vr a1, vi p1, vi w, vi 0, vr a5, .unset, .unset, .unset, .unset] [(.ref a1), (.int p1)]
  refine own_st (fun _ kS => X0.arraylength hx (by rw [e0]; exact Tb.1.1) (State.isArrayOf_alike hZ.alike Tb.1.2.1) (g := (mkF m 2 #[vr a1, vi p1, vi w, vi 0, vr a5, .unset, .unset, .unset, .unset] [(.ref a1), (.int p1)])) rfl rfl (hb hby d15_2) _ kS) ?_
  rw [len_of Tb.2.1 Tb.2.2.1]
  show gs s₁ m 3 #[vr a1, vi p1, vi w, vi 0, vr a5, .unset, .unset, .unset, .unset] [(.int nB), (.int p1)]
  refine own_st (fun _ kS => XS.icmpYes X0.here hx rfl (pc0 := 3) (pc' := 8) rfl (hb hby d15_3) rfl (tlt (hlt : p1 < nB)).1 (by decide) (by decide) kS) ?_
  show gs s₁ m 8 #[vr a1, vi p1, vi w, vi 0, vr a5, .unset, .unset, .unset, .unset] []
  refine oiloadN X0 hx hby d15_8 rfl ?_
  refine oiloadN X0 hx hby d15_9 rfl ?_
  refine own_st (fun _ kS => XS.idiv X0.here hx rfl (hb hby d15_10) rfl hz kS) ?_
  show gs s₁ m 11 #[vr a1, vi p1, vi w, vi 0, vr a5, .unset, .unset, .unset, .unset] [(.int (p1 / w))]
  refine own_st (fun _ kS => XS.istore X0.here hx rfl (hb hby d15_11) rfl (l' := #[vr a1, vi p1, vi w, vi 0, vr a5, vi (p1 / w), .unset, .unset, .unset]) rfl kS) ?_
  refine oiloadN X0 hx hby d15_13 rfl ?_
  refine oiloadN X0 hx hby d15_14 rfl ?_
  show gs s₁ m 15 #[vr a1, vi p1, vi w, vi 0, vr a5, vi (p1 / w), .unset, .unset, .unset] [(.int w), (.int p1)]
  refine own_st (fun _ kS => iremM (g := (mkF m 15 #[vr a1, vi p1, vi w, vi 0, vr a5, vi (p1 / w), .unset, .unset, .unset] [(.int w), (.int p1)])) X0 hx rfl (hb hby d15_15) rfl hz kS) ?_
  show gs s₁ m 16 #[vr a1, vi p1, vi w, vi 0, vr a5, vi (p1 / w), .unset, .unset, .unset] [(.int (p1 % w))]
  refine own_st (fun _ kS => XS.istore X0.here hx rfl (hb hby d15_16) rfl (l' := #[vr a1, vi p1, vi w, vi 0, vr a5, vi (p1 / w), vi (p1 % w), .unset, .unset]) rfl kS) ?_
  refine oiloadN X0 hx hby d15_18 rfl ?_
  refine own_st (fun _ kS => XS.ifYes X0.here hx rfl (pc0 := 19) (pc' := 26) rfl (hb hby d15_19) rfl ((if0 _ _).trans (teq (by decide : (0 : Int32) = (0 : Int32))).1) (by decide) (by decide) kS) ?_
  show gs s₁ m 26 #[vr a1, vi p1, vi w, vi 0, vr a5, vi (p1 / w), vi (p1 % w), .unset, .unset] []
  refine oiloadN X0 hx hby d15_26 rfl ?_
  refine oiconst X0 hx hby d15_27 ?_
  refine own_st (fun _ kS => XS.isub X0.here hx rfl (hb hby d15_28) rfl kS) ?_
  refine own_st (fun _ kS => XS.istore X0.here hx rfl (hb hby d15_29) rfl (l' := #[vr a1, vi p1, vi w, vi 0, vr a5, vi (p1 / w), vi (p1 % w), vi (w - (1 : Int32)), .unset]) rfl kS) ?_
  refine oiload X0 hx hby d15_31 rfl ?_
  refine oiload X0 hx hby d15_33 rfl ?_
  refine own_st (fun _ kS => XS.icmpNo X0.here hx rfl (hb hby d15_35) rfl (teq (hr : (p1 % w) = (w - (1 : Int32)))).2 kS) ?_
  show gs s₁ m 38 #[vr a1, vi p1, vi w, vi 0, vr a5, vi (p1 / w), vi (p1 % w), vi (w - (1 : Int32)), .unset] []
  refine oaload X0 hx hby d15_38 rfl rfl ?_
  refine oiload X0 hx hby d15_40 rfl ?_
  show gs s₁ m 42 #[vr a1, vi p1, vi w, vi 0, vr a5, vi (p1 / w), vi (p1 % w), vi (w - (1 : Int32)), .unset] [(.int (p1 / w)), (.ref a5)]
  have ib1 : ¬ ((p1 / w) < 0 ∨ cC.slots.size ≤ ((p1 / w)).toNatClampNeg) := inb_of Tc.2.1 hq
  refine own_st (fun _ kS => X0.caload hx (j := (p1 / w)) (v := (.int (atv cC (p1 / w)))) (by rw [e0]; exact Tc.1.1) (State.isArrayOf_alike hZ.alike Tc.1.2.1) Tc.1.2.2 ib1 (Tc.2.2.2 _ ib1) (g := (mkF m 42 #[vr a1, vi p1, vi w, vi 0, vr a5, vi (p1 / w), vi (p1 % w), vi (w - (1 : Int32)), .unset] [(.int (p1 / w)), (.ref a5)])) rfl rfl (hb hby d15_42) _ kS) ?_
  show gs s₁ m 43 #[vr a1, vi p1, vi w, vi 0, vr a5, vi (p1 / w), vi (p1 % w), vi (w - (1 : Int32)), .unset] [(.int (atv cC (p1 / w)))]
  refine own_st (fun _ kS => XT.i2b X0.here hx rfl (hb hby d15_43) rfl kS) ?_
  refine own_st (fun _ kS => XS.goto X0.here hx rfl (pc0 := 44) (pc' := 48) rfl (hb hby d15_44) (by decide) (by decide) kS) ?_
  refine own_st (fun _ kS => XS.istore X0.here hx rfl (hb hby d15_48) rfl (l' := #[vr a1, vi p1, vi w, vi 0, vr a5, vi (p1 / w), vi (p1 % w), vi (w - (1 : Int32)), vi ((atv cC (p1 / w)).toInt8.toInt32)]) rfl kS) ?_
  refine oaloadN X0 hx hby d15_50 rfl rfl ?_
  refine oiloadN X0 hx hby d15_51 rfl ?_
  show gs s₁ m 52 #[vr a1, vi p1, vi w, vi 0, vr a5, vi (p1 / w), vi (p1 % w), vi (w - (1 : Int32)), vi ((atv cC (p1 / w)).toInt8.toInt32)] [(.int p1), (.ref a1)]
  have ib2 : ¬ (p1 < 0 ∨ cB.slots.size ≤ (p1).toNatClampNeg) := inb_of Tb.2.1 ⟨hn, hlt⟩
  refine own_st (fun _ kS => X0.baloadBytes hx (j := p1) (v := (.int (atv cB p1))) (by rw [e0]; exact Tb.1.1) (State.isArrayOf_alike hZ.alike Tb.1.2.1) Tb.1.2.2 ib2 (Tb.2.2.2 _ ib2) (g := (mkF m 52 #[vr a1, vi p1, vi w, vi 0, vr a5, vi (p1 / w), vi (p1 % w), vi (w - (1 : Int32)), vi ((atv cC (p1 / w)).toInt8.toInt32)] [(.int p1), (.ref a1)])) rfl rfl (hb hby d15_52) _ kS) ?_
  show gs s₁ m 53 #[vr a1, vi p1, vi w, vi 0, vr a5, vi (p1 / w), vi (p1 % w), vi (w - (1 : Int32)), vi ((atv cC (p1 / w)).toInt8.toInt32)] [(.int (atv cB p1))]
  refine oiload X0 hx hby d15_53 rfl ?_
  refine own_st (fun _ kS => XS.icmpNo X0.here hx rfl (hb hby d15_55) rfl (teq (hv : (atv cB p1) = ((atv cC (p1 / w)).toInt8.toInt32))).2 kS) ?_
  show gs s₁ m 58 #[vr a1, vi p1, vi w, vi 0, vr a5, vi (p1 / w), vi (p1 % w), vi (w - (1 : Int32)), vi ((atv cC (p1 / w)).toInt8.toInt32)] []
  refine oiconst X0 hx hby d15_58 ?_
  refine own_st (fun _ kS => XS.goto X0.here hx rfl (pc0 := 59) (pc' := 63) rfl (hb hby d15_59) (by decide) (by decide) kS) ?_
  show gs s₁ m 63 #[vr a1, vi p1, vi w, vi 0, vr a5, vi (p1 / w), vi (p1 % w), vi (w - (1 : Int32)), vi ((atv cC (p1 / w)).toInt8.toInt32)] [(.int 1)]
  exact own_retN X0 hx hlk (t := .boolean) hret (by simp) (hb hby d15_63) (by decide) (by decide) (v' := (1 : Int32)) rfl (by rw [e0]; exact ⟨rfl, N0, rfl⟩)
theorem ef_at_0_0 (m : MethodId) (x0 : Addr) (x1 : Int32) (x2 : Int32) (x3 : Addr) : entryFrame m #[(.ref x0), (.int x1), (.int x2), (.int 0), (.ref x3)] 9 = mkF m 0 #[.val (.ref x0), .val (.int x1), .val (.int x2), .val (.int 0), .val (.ref x3), .unset, .unset, .unset, .unset] [] := by first | (simp [entryFrame, mkF, argsToLocals, Value.category]; done) | rfl
def Q_at_0_0 (Z : State) (a1 : Addr) (a5 : Addr) (cB : Cell) (cC : Cell) (p1 : Int32) (w : Int32) (nB : Int32) (h0 : Heap) (n0 : Nat) (v : Option Value) (h : Heap) (L : List Loc) : Prop := v = some (.int 1) ∧ Fr n0 L ∧ h = h0
theorem rm_at_0_0 (l : Launch) (Z : State) (a0 : Array Value) (hw : HW a0 Z) (ws : List Jvm.Cond) (a1 : Addr) (a5 : Addr) (cB : Cell) (cC : Cell) (p1 : Int32) (w : Int32) (nB : Int32) (h0 : Heap) (n0 : Nat) (Z0 : n0 ≤ h0.size) (Tb : Tab Z h0 a1 cB .byte nB) (Tc : Tab Z h0 a5 cC .char (4 : Int32)) (hlt : p1 < nB) (hn : ¬ p1 < 0) (hz : w ≠ 0) (hr : ¬ ((p1 % w) = (w - (1 : Int32)))) (hv : (atv cB p1) = (0 : Int32)) :
    M13 l ws (rmk 0 0 0 0) Z #[(.ref a1), (.int p1), (.int w), (.int 0), (.ref a5)] h0 (Q_at_0_0 Z a1 a5 cB cC p1 w nB h0 n0) := by
  refine own_go "com/example/provenir/provenir/TextEncodingEncodePinLaw" rfl (plainFor_of_name pn_15) (fun m => ef_at_0_0 m a1 p1 w a5) (fun p e s m below meth c s₁ hx hby hml hown hnm hlk hret hZ X0 e0 => ?_)
  have N0 := Fr.nil n0
  show gs s₁ m 0 #[vr a1, vi p1, vi w, vi 0, vr a5, .unset, .unset, .unset, .unset] []
  refine oiloadN X0 hx hby d15_0 rfl ?_
  refine oaloadN X0 hx hby d15_1 rfl rfl ?_
  show gs s₁ m 2 #[vr a1, vi p1, vi w, vi 0, vr a5, .unset, .unset, .unset, .unset] [(.ref a1), (.int p1)]
  refine own_st (fun _ kS => X0.arraylength hx (by rw [e0]; exact Tb.1.1) (State.isArrayOf_alike hZ.alike Tb.1.2.1) (g := (mkF m 2 #[vr a1, vi p1, vi w, vi 0, vr a5, .unset, .unset, .unset, .unset] [(.ref a1), (.int p1)])) rfl rfl (hb hby d15_2) _ kS) ?_
  rw [len_of Tb.2.1 Tb.2.2.1]
  show gs s₁ m 3 #[vr a1, vi p1, vi w, vi 0, vr a5, .unset, .unset, .unset, .unset] [(.int nB), (.int p1)]
  refine own_st (fun _ kS => XS.icmpYes X0.here hx rfl (pc0 := 3) (pc' := 8) rfl (hb hby d15_3) rfl (tlt (hlt : p1 < nB)).1 (by decide) (by decide) kS) ?_
  show gs s₁ m 8 #[vr a1, vi p1, vi w, vi 0, vr a5, .unset, .unset, .unset, .unset] []
  refine oiloadN X0 hx hby d15_8 rfl ?_
  refine oiloadN X0 hx hby d15_9 rfl ?_
  refine own_st (fun _ kS => XS.idiv X0.here hx rfl (hb hby d15_10) rfl hz kS) ?_
  show gs s₁ m 11 #[vr a1, vi p1, vi w, vi 0, vr a5, .unset, .unset, .unset, .unset] [(.int (p1 / w))]
  refine own_st (fun _ kS => XS.istore X0.here hx rfl (hb hby d15_11) rfl (l' := #[vr a1, vi p1, vi w, vi 0, vr a5, vi (p1 / w), .unset, .unset, .unset]) rfl kS) ?_
  refine oiloadN X0 hx hby d15_13 rfl ?_
  refine oiloadN X0 hx hby d15_14 rfl ?_
  show gs s₁ m 15 #[vr a1, vi p1, vi w, vi 0, vr a5, vi (p1 / w), .unset, .unset, .unset] [(.int w), (.int p1)]
  refine own_st (fun _ kS => iremM (g := (mkF m 15 #[vr a1, vi p1, vi w, vi 0, vr a5, vi (p1 / w), .unset, .unset, .unset] [(.int w), (.int p1)])) X0 hx rfl (hb hby d15_15) rfl hz kS) ?_
  show gs s₁ m 16 #[vr a1, vi p1, vi w, vi 0, vr a5, vi (p1 / w), .unset, .unset, .unset] [(.int (p1 % w))]
  refine own_st (fun _ kS => XS.istore X0.here hx rfl (hb hby d15_16) rfl (l' := #[vr a1, vi p1, vi w, vi 0, vr a5, vi (p1 / w), vi (p1 % w), .unset, .unset]) rfl kS) ?_
  refine oiloadN X0 hx hby d15_18 rfl ?_
  refine own_st (fun _ kS => XS.ifYes X0.here hx rfl (pc0 := 19) (pc' := 26) rfl (hb hby d15_19) rfl ((if0 _ _).trans (teq (by decide : (0 : Int32) = (0 : Int32))).1) (by decide) (by decide) kS) ?_
  show gs s₁ m 26 #[vr a1, vi p1, vi w, vi 0, vr a5, vi (p1 / w), vi (p1 % w), .unset, .unset] []
  refine oiloadN X0 hx hby d15_26 rfl ?_
  refine oiconst X0 hx hby d15_27 ?_
  refine own_st (fun _ kS => XS.isub X0.here hx rfl (hb hby d15_28) rfl kS) ?_
  refine own_st (fun _ kS => XS.istore X0.here hx rfl (hb hby d15_29) rfl (l' := #[vr a1, vi p1, vi w, vi 0, vr a5, vi (p1 / w), vi (p1 % w), vi (w - (1 : Int32)), .unset]) rfl kS) ?_
  refine oiload X0 hx hby d15_31 rfl ?_
  refine oiload X0 hx hby d15_33 rfl ?_
  refine own_st (fun _ kS => XS.icmpYes X0.here hx rfl (pc0 := 35) (pc' := 47) rfl (hb hby d15_35) rfl (feq (hr : ¬ ((p1 % w) = (w - (1 : Int32))))).2 (by decide) (by decide) kS) ?_
  show gs s₁ m 47 #[vr a1, vi p1, vi w, vi 0, vr a5, vi (p1 / w), vi (p1 % w), vi (w - (1 : Int32)), .unset] []
  refine oiconst X0 hx hby d15_47 ?_
  refine own_st (fun _ kS => XS.istore X0.here hx rfl (hb hby d15_48) rfl (l' := #[vr a1, vi p1, vi w, vi 0, vr a5, vi (p1 / w), vi (p1 % w), vi (w - (1 : Int32)), vi 0]) rfl kS) ?_
  refine oaloadN X0 hx hby d15_50 rfl rfl ?_
  refine oiloadN X0 hx hby d15_51 rfl ?_
  show gs s₁ m 52 #[vr a1, vi p1, vi w, vi 0, vr a5, vi (p1 / w), vi (p1 % w), vi (w - (1 : Int32)), vi 0] [(.int p1), (.ref a1)]
  have ib1 : ¬ (p1 < 0 ∨ cB.slots.size ≤ (p1).toNatClampNeg) := inb_of Tb.2.1 ⟨hn, hlt⟩
  refine own_st (fun _ kS => X0.baloadBytes hx (j := p1) (v := (.int (atv cB p1))) (by rw [e0]; exact Tb.1.1) (State.isArrayOf_alike hZ.alike Tb.1.2.1) Tb.1.2.2 ib1 (Tb.2.2.2 _ ib1) (g := (mkF m 52 #[vr a1, vi p1, vi w, vi 0, vr a5, vi (p1 / w), vi (p1 % w), vi (w - (1 : Int32)), vi 0] [(.int p1), (.ref a1)])) rfl rfl (hb hby d15_52) _ kS) ?_
  show gs s₁ m 53 #[vr a1, vi p1, vi w, vi 0, vr a5, vi (p1 / w), vi (p1 % w), vi (w - (1 : Int32)), vi 0] [(.int (atv cB p1))]
  refine oiload X0 hx hby d15_53 rfl ?_
  refine own_st (fun _ kS => XS.icmpNo X0.here hx rfl (hb hby d15_55) rfl (teq (hv : (atv cB p1) = (0 : Int32))).2 kS) ?_
  show gs s₁ m 58 #[vr a1, vi p1, vi w, vi 0, vr a5, vi (p1 / w), vi (p1 % w), vi (w - (1 : Int32)), vi 0] []
  refine oiconst X0 hx hby d15_58 ?_
  refine own_st (fun _ kS => XS.goto X0.here hx rfl (pc0 := 59) (pc' := 63) rfl (hb hby d15_59) (by decide) (by decide) kS) ?_
  show gs s₁ m 63 #[vr a1, vi p1, vi w, vi 0, vr a5, vi (p1 / w), vi (p1 % w), vi (w - (1 : Int32)), vi 0] [(.int 1)]
  exact own_retN X0 hx hlk (t := .boolean) hret (by simp) (hb hby d15_63) (by decide) (by decide) (v' := (1 : Int32)) rfl (by rw [e0]; exact ⟨rfl, N0, rfl⟩)
theorem ef_at (m : MethodId) (x0 : Addr) (x1 : Int32) (x2 : Int32) (x3 : Int32) (x4 : Addr) : entryFrame m #[(.ref x0), (.int x1), (.int x2), (.int x3), (.ref x4)] 9 = mkF m 0 #[.val (.ref x0), .val (.int x1), .val (.int x2), .val (.int x3), .val (.ref x4), .unset, .unset, .unset, .unset] [] := by first | (simp [entryFrame, mkF, argsToLocals, Value.category]; done) | rfl
def Q_at (Z : State) (a1 : Addr) (a5 : Addr) (cB : Cell) (cC : Cell) (p1 : Int32) (w : Int32) (nB : Int32) (le : Int32) (h0 : Heap) (n0 : Nat) (v : Option Value) (h : Heap) (L : List Loc) : Prop := v = some (.int 1) ∧ Fr n0 L ∧ h = h0
theorem rm_at (l : Launch) (Z : State) (a0 : Array Value) (hw : HW a0 Z) (ws : List Jvm.Cond) (a1 : Addr) (a5 : Addr) (cB : Cell) (cC : Cell) (p1 : Int32) (w : Int32) (nB : Int32) (le : Int32) (h0 : Heap) (n0 : Nat) (Z0 : n0 ≤ h0.size) (Tb : Tab Z h0 a1 cB .byte nB) (Tc : Tab Z h0 a5 cC .char (4 : Int32)) (hA : own_at w le p1 nB cB cC) :
    M13 l ws (rmk 0 0 0 0) Z #[(.ref a1), (.int p1), (.int w), (.int le), (.ref a5)] h0 (Q_at Z a1 a5 cB cC p1 w nB le h0 n0) := by
  rcases hA with h | ⟨hlt, hn, hz, ⟨rfl, hr, hq, hv⟩ | ⟨rfl, hr, hv⟩ | ⟨rfl, hr, hq, hv⟩ | ⟨rfl, hr, hv⟩⟩
  · exact rm_atO l Z a0 hw ws a1 a5 cB cC p1 w nB le h0 n0 Z0 Tb h
  · exact rm_at_1_1 l Z a0 hw ws a1 a5 cB cC p1 w nB h0 n0 Z0 Tb Tc hlt hn hz hr hq hv
  · exact rm_at_1_0 l Z a0 hw ws a1 a5 cB cC p1 w nB h0 n0 Z0 Tb Tc hlt hn hz hr hv
  · exact rm_at_0_1 l Z a0 hw ws a1 a5 cB cC p1 w nB h0 n0 Z0 Tb Tc hlt hn hz hr hq hv
  · exact rm_at_0_0 l Z a0 hw ws a1 a5 cB cC p1 w nB h0 n0 Z0 Tb Tc hlt hn hz hr hv
theorem pn_0 : plainName "com/example/provenir/provenir/TextEncodingEncodePinLaw" = true := by first | (simp [plainName, overriddenIn]; done) | decide +kernel
def Q_law (n0 : Nat) (v : Option Value) (h : Heap) (L : List Loc) : Prop := v = some (.int 1) ∧ Fr n0 L
theorem own_pd11 : parseMethodDescriptor "([BIIZ[C)Z" = some ⟨[(.array .byte), .int, .int, .boolean, (.array .char)], some .boolean⟩ := by decide +kernel
theorem sg_T {p : Program} {l : Launch} {e : Env} {s : State} {m : MethodId} {args : Array Value} {below : List Frame} {meth : Method} {c : Code} {T0 : State} {locs : List Loc} {Z : State} {a0 : Array Value} {h0 : Heap} {n0 : Nat} {vm0 : Vm} {kv0 : Nat} (hx : p.tables.exec = Jvm.exec) (hby : c.code = code) (hml : c.maxLocals = 14) (hown : (s.setVm vm0).vm.findClass "com/example/provenir/provenir/TextEncodingEncodePinLaw" = some m.cls) (hlk : meth.locks = false) (hret : meth.sig.returnType = some .boolean) (hZ : Z.Warmed39 (s.setVm vm0).vm) (hw : HW a0 Z) (Z0 : n0 ≤ h0.size) (hS : s.Since vm0 kv0) (hk0 : kv0 ≤ h0.size)
    (X0 : Stand p l e room_1 (s.setVm vm0) m args below meth c T0 locs 7 40) (e0 : T0.heap = h0) (N0 : Fr n0 locs) (O0 : Old Z n0 h0) (p1 : Int32) (p2 : Int32) (p3 : Int32) (p4 : Int32) (p5 : Int32) (p6 : Int32) (kk1 : Int32) (wf : Addr) (w : Int32) (le : Int32) (ln : Int32) (a11 : Addr) (a12 : Addr) (bA : Addr) (cB : Cell) (cC : Cell) (nB : Int32) (Tb : Tab Z h0 bA cB .byte nB) (Tc : Tab Z h0 a11 cC .char (4 : Int32)) (hA0 : own_at w le (0 : Int32) nB cB cC) (hA1 : own_at w le (1 : Int32) nB cB cC) (hA2 : own_at w le (2 : Int32) nB cB cC) (hA3 : own_at w le (3 : Int32) nB cB cC) (hA4 : own_at w le (4 : Int32) nB cB cC) (hA5 : own_at w le (5 : Int32) nB cB cC) (hA6 : own_at w le (6 : Int32) nB cB cC) (hA7 : own_at w le (7 : Int32) nB cB cC) (hA8 : own_at w le (8 : Int32) nB cB cC) (hA9 : own_at w le (9 : Int32) nB cB cC) (hA10 : own_at w le (10 : Int32) nB cB cC) (hA11 : own_at w le (11 : Int32) nB cB cC) (hA12 : own_at w le (12 : Int32) nB cB cC) (hA13 : own_at w le (13 : Int32) nB cB cC) (hA14 : own_at w le (14 : Int32) nB cB cC) (hA15 : own_at w le (15 : Int32) nB cB cC) :
    own_G p.tables e below (own_EW s (Q_law n0) room_1.cells room_1.slots) (T0.setTop (mkF m 325 #[vi p1, vi p2, vi p3, vi p4, vi p5, vi p6, vi kk1, vr wf, vi w, vi le, vi ln, vr a11, vr a12, vr bA] [])) := by
  show gs T0 m 325 #[vi p1, vi p2, vi p3, vi p4, vi p5, vi p6, vi kk1, vr wf, vi w, vi le, vi ln, vr a11, vr a12, vr bA] []
  refine oaload X0 hx hby at_325 rfl rfl ?_
  refine oiconst X0 hx hby at_327 ?_
  refine oiload X0 hx hby at_328 rfl ?_
  refine oiload X0 hx hby at_330 rfl ?_
  refine oaload X0 hx hby at_332 rfl rfl ?_
  refine oS 0 X0 hx hZ hby hml hown (own_w hw 75 rfl) (own_w hw 76 rfl) (own_w hw 77 rfl) (own_w hw 78 rfl) (rm_at l Z a0 hw [] bA a11 cB cC (0 : Int32) w nB le h0 n0 Z0  Tb Tc hA0) e0 (by decide) own_pd11 at_334 rfl rfl rfl (fun T1 L1 v1 X1 hQ1 => ?_)
  obtain ⟨rfl, Nq1, eq1⟩ := hQ1
  have N1 := Fr.app N0 Nq1
  show gs T1 m 337 #[vi p1, vi p2, vi p3, vi p4, vi p5, vi p6, vi kk1, vr wf, vi w, vi le, vi ln, vr a11, vr a12, vr bA] [(.int 1)]
  refine own_st (fun _ kS => XS.ifNo X1.here hx rfl (hb hby at_337) rfl ((if0 _ _).trans (feq (by decide : ¬ ((1 : Int32) = (0 : Int32)))).1) kS) ?_
  show gs T1 m 340 #[vi p1, vi p2, vi p3, vi p4, vi p5, vi p6, vi kk1, vr wf, vi w, vi le, vi ln, vr a11, vr a12, vr bA] []
  refine oaload X1 hx hby at_340 rfl rfl ?_
  refine oiconst X1 hx hby at_342 ?_
  refine oiload X1 hx hby at_343 rfl ?_
  refine oiload X1 hx hby at_345 rfl ?_
  refine oaload X1 hx hby at_347 rfl rfl ?_
  refine oS 0 X1 hx hZ hby hml hown (own_w hw 75 rfl) (own_w hw 76 rfl) (own_w hw 77 rfl) (own_w hw 78 rfl) (rm_at l Z a0 hw [] bA a11 cB cC (1 : Int32) w nB le h0 n0 Z0  Tb Tc hA1) eq1 (by decide) own_pd11 at_349 rfl rfl rfl (fun T2 L2 v2 X2 hQ2 => ?_)
  obtain ⟨rfl, Nq2, eq2⟩ := hQ2
  have N2 := Fr.app N1 Nq2
  show gs T2 m 352 #[vi p1, vi p2, vi p3, vi p4, vi p5, vi p6, vi kk1, vr wf, vi w, vi le, vi ln, vr a11, vr a12, vr bA] [(.int 1)]
  refine own_st (fun _ kS => XS.ifNo X2.here hx rfl (hb hby at_352) rfl ((if0 _ _).trans (feq (by decide : ¬ ((1 : Int32) = (0 : Int32)))).1) kS) ?_
  show gs T2 m 355 #[vi p1, vi p2, vi p3, vi p4, vi p5, vi p6, vi kk1, vr wf, vi w, vi le, vi ln, vr a11, vr a12, vr bA] []
  refine oaload X2 hx hby at_355 rfl rfl ?_
  refine oiconst X2 hx hby at_357 ?_
  refine oiload X2 hx hby at_358 rfl ?_
  refine oiload X2 hx hby at_360 rfl ?_
  refine oaload X2 hx hby at_362 rfl rfl ?_
  refine oS 0 X2 hx hZ hby hml hown (own_w hw 75 rfl) (own_w hw 76 rfl) (own_w hw 77 rfl) (own_w hw 78 rfl) (rm_at l Z a0 hw [] bA a11 cB cC (2 : Int32) w nB le h0 n0 Z0  Tb Tc hA2) eq2 (by decide) own_pd11 at_364 rfl rfl rfl (fun T3 L3 v3 X3 hQ3 => ?_)
  obtain ⟨rfl, Nq3, eq3⟩ := hQ3
  have N3 := Fr.app N2 Nq3
  show gs T3 m 367 #[vi p1, vi p2, vi p3, vi p4, vi p5, vi p6, vi kk1, vr wf, vi w, vi le, vi ln, vr a11, vr a12, vr bA] [(.int 1)]
  refine own_st (fun _ kS => XS.ifNo X3.here hx rfl (hb hby at_367) rfl ((if0 _ _).trans (feq (by decide : ¬ ((1 : Int32) = (0 : Int32)))).1) kS) ?_
  show gs T3 m 370 #[vi p1, vi p2, vi p3, vi p4, vi p5, vi p6, vi kk1, vr wf, vi w, vi le, vi ln, vr a11, vr a12, vr bA] []
  refine oaload X3 hx hby at_370 rfl rfl ?_
  refine oiconst X3 hx hby at_372 ?_
  refine oiload X3 hx hby at_373 rfl ?_
  refine oiload X3 hx hby at_375 rfl ?_
  refine oaload X3 hx hby at_377 rfl rfl ?_
  refine oS 0 X3 hx hZ hby hml hown (own_w hw 75 rfl) (own_w hw 76 rfl) (own_w hw 77 rfl) (own_w hw 78 rfl) (rm_at l Z a0 hw [] bA a11 cB cC (3 : Int32) w nB le h0 n0 Z0  Tb Tc hA3) eq3 (by decide) own_pd11 at_379 rfl rfl rfl (fun T4 L4 v4 X4 hQ4 => ?_)
  obtain ⟨rfl, Nq4, eq4⟩ := hQ4
  have N4 := Fr.app N3 Nq4
  show gs T4 m 382 #[vi p1, vi p2, vi p3, vi p4, vi p5, vi p6, vi kk1, vr wf, vi w, vi le, vi ln, vr a11, vr a12, vr bA] [(.int 1)]
  refine own_st (fun _ kS => XS.ifNo X4.here hx rfl (hb hby at_382) rfl ((if0 _ _).trans (feq (by decide : ¬ ((1 : Int32) = (0 : Int32)))).1) kS) ?_
  show gs T4 m 385 #[vi p1, vi p2, vi p3, vi p4, vi p5, vi p6, vi kk1, vr wf, vi w, vi le, vi ln, vr a11, vr a12, vr bA] []
  refine oaload X4 hx hby at_385 rfl rfl ?_
  refine oiconst X4 hx hby at_387 ?_
  refine oiload X4 hx hby at_388 rfl ?_
  refine oiload X4 hx hby at_390 rfl ?_
  refine oaload X4 hx hby at_392 rfl rfl ?_
  refine oS 0 X4 hx hZ hby hml hown (own_w hw 75 rfl) (own_w hw 76 rfl) (own_w hw 77 rfl) (own_w hw 78 rfl) (rm_at l Z a0 hw [] bA a11 cB cC (4 : Int32) w nB le h0 n0 Z0  Tb Tc hA4) eq4 (by decide) own_pd11 at_394 rfl rfl rfl (fun T5 L5 v5 X5 hQ5 => ?_)
  obtain ⟨rfl, Nq5, eq5⟩ := hQ5
  have N5 := Fr.app N4 Nq5
  show gs T5 m 397 #[vi p1, vi p2, vi p3, vi p4, vi p5, vi p6, vi kk1, vr wf, vi w, vi le, vi ln, vr a11, vr a12, vr bA] [(.int 1)]
  refine own_st (fun _ kS => XS.ifNo X5.here hx rfl (hb hby at_397) rfl ((if0 _ _).trans (feq (by decide : ¬ ((1 : Int32) = (0 : Int32)))).1) kS) ?_
  show gs T5 m 400 #[vi p1, vi p2, vi p3, vi p4, vi p5, vi p6, vi kk1, vr wf, vi w, vi le, vi ln, vr a11, vr a12, vr bA] []
  refine oaload X5 hx hby at_400 rfl rfl ?_
  refine oiconst X5 hx hby at_402 ?_
  refine oiload X5 hx hby at_403 rfl ?_
  refine oiload X5 hx hby at_405 rfl ?_
  refine oaload X5 hx hby at_407 rfl rfl ?_
  refine oS 0 X5 hx hZ hby hml hown (own_w hw 75 rfl) (own_w hw 76 rfl) (own_w hw 77 rfl) (own_w hw 78 rfl) (rm_at l Z a0 hw [] bA a11 cB cC (5 : Int32) w nB le h0 n0 Z0  Tb Tc hA5) eq5 (by decide) own_pd11 at_409 rfl rfl rfl (fun T6 L6 v6 X6 hQ6 => ?_)
  obtain ⟨rfl, Nq6, eq6⟩ := hQ6
  have N6 := Fr.app N5 Nq6
  show gs T6 m 412 #[vi p1, vi p2, vi p3, vi p4, vi p5, vi p6, vi kk1, vr wf, vi w, vi le, vi ln, vr a11, vr a12, vr bA] [(.int 1)]
  refine own_st (fun _ kS => XS.ifNo X6.here hx rfl (hb hby at_412) rfl ((if0 _ _).trans (feq (by decide : ¬ ((1 : Int32) = (0 : Int32)))).1) kS) ?_
  show gs T6 m 415 #[vi p1, vi p2, vi p3, vi p4, vi p5, vi p6, vi kk1, vr wf, vi w, vi le, vi ln, vr a11, vr a12, vr bA] []
  refine oaload X6 hx hby at_415 rfl rfl ?_
  refine own_st (fun _ kS => XS.bipush X6.here hx rfl (hb hby at_417) kS) ?_
  refine oiload X6 hx hby at_419 rfl ?_
  refine oiload X6 hx hby at_421 rfl ?_
  refine oaload X6 hx hby at_423 rfl rfl ?_
  refine oS 0 X6 hx hZ hby hml hown (own_w hw 75 rfl) (own_w hw 76 rfl) (own_w hw 77 rfl) (own_w hw 78 rfl) (rm_at l Z a0 hw [] bA a11 cB cC (6 : Int32) w nB le h0 n0 Z0  Tb Tc hA6) eq6 (by decide) own_pd11 at_425 rfl rfl rfl (fun T7 L7 v7 X7 hQ7 => ?_)
  obtain ⟨rfl, Nq7, eq7⟩ := hQ7
  have N7 := Fr.app N6 Nq7
  show gs T7 m 428 #[vi p1, vi p2, vi p3, vi p4, vi p5, vi p6, vi kk1, vr wf, vi w, vi le, vi ln, vr a11, vr a12, vr bA] [(.int 1)]
  refine own_st (fun _ kS => XS.ifNo X7.here hx rfl (hb hby at_428) rfl ((if0 _ _).trans (feq (by decide : ¬ ((1 : Int32) = (0 : Int32)))).1) kS) ?_
  show gs T7 m 431 #[vi p1, vi p2, vi p3, vi p4, vi p5, vi p6, vi kk1, vr wf, vi w, vi le, vi ln, vr a11, vr a12, vr bA] []
  refine oaload X7 hx hby at_431 rfl rfl ?_
  refine own_st (fun _ kS => XS.bipush X7.here hx rfl (hb hby at_433) kS) ?_
  refine oiload X7 hx hby at_435 rfl ?_
  refine oiload X7 hx hby at_437 rfl ?_
  refine oaload X7 hx hby at_439 rfl rfl ?_
  refine oS 0 X7 hx hZ hby hml hown (own_w hw 75 rfl) (own_w hw 76 rfl) (own_w hw 77 rfl) (own_w hw 78 rfl) (rm_at l Z a0 hw [] bA a11 cB cC (7 : Int32) w nB le h0 n0 Z0  Tb Tc hA7) eq7 (by decide) own_pd11 at_441 rfl rfl rfl (fun T8 L8 v8 X8 hQ8 => ?_)
  obtain ⟨rfl, Nq8, eq8⟩ := hQ8
  have N8 := Fr.app N7 Nq8
  show gs T8 m 444 #[vi p1, vi p2, vi p3, vi p4, vi p5, vi p6, vi kk1, vr wf, vi w, vi le, vi ln, vr a11, vr a12, vr bA] [(.int 1)]
  refine own_st (fun _ kS => XS.ifNo X8.here hx rfl (hb hby at_444) rfl ((if0 _ _).trans (feq (by decide : ¬ ((1 : Int32) = (0 : Int32)))).1) kS) ?_
  show gs T8 m 447 #[vi p1, vi p2, vi p3, vi p4, vi p5, vi p6, vi kk1, vr wf, vi w, vi le, vi ln, vr a11, vr a12, vr bA] []
  refine oaload X8 hx hby at_447 rfl rfl ?_
  refine own_st (fun _ kS => XS.bipush X8.here hx rfl (hb hby at_449) kS) ?_
  refine oiload X8 hx hby at_451 rfl ?_
  refine oiload X8 hx hby at_453 rfl ?_
  refine oaload X8 hx hby at_455 rfl rfl ?_
  refine oS 0 X8 hx hZ hby hml hown (own_w hw 75 rfl) (own_w hw 76 rfl) (own_w hw 77 rfl) (own_w hw 78 rfl) (rm_at l Z a0 hw [] bA a11 cB cC (8 : Int32) w nB le h0 n0 Z0  Tb Tc hA8) eq8 (by decide) own_pd11 at_457 rfl rfl rfl (fun T9 L9 v9 X9 hQ9 => ?_)
  obtain ⟨rfl, Nq9, eq9⟩ := hQ9
  have N9 := Fr.app N8 Nq9
  show gs T9 m 460 #[vi p1, vi p2, vi p3, vi p4, vi p5, vi p6, vi kk1, vr wf, vi w, vi le, vi ln, vr a11, vr a12, vr bA] [(.int 1)]
  refine own_st (fun _ kS => XS.ifNo X9.here hx rfl (hb hby at_460) rfl ((if0 _ _).trans (feq (by decide : ¬ ((1 : Int32) = (0 : Int32)))).1) kS) ?_
  show gs T9 m 463 #[vi p1, vi p2, vi p3, vi p4, vi p5, vi p6, vi kk1, vr wf, vi w, vi le, vi ln, vr a11, vr a12, vr bA] []
  refine oaload X9 hx hby at_463 rfl rfl ?_
  refine own_st (fun _ kS => XS.bipush X9.here hx rfl (hb hby at_465) kS) ?_
  refine oiload X9 hx hby at_467 rfl ?_
  refine oiload X9 hx hby at_469 rfl ?_
  refine oaload X9 hx hby at_471 rfl rfl ?_
  refine oS 0 X9 hx hZ hby hml hown (own_w hw 75 rfl) (own_w hw 76 rfl) (own_w hw 77 rfl) (own_w hw 78 rfl) (rm_at l Z a0 hw [] bA a11 cB cC (9 : Int32) w nB le h0 n0 Z0  Tb Tc hA9) eq9 (by decide) own_pd11 at_473 rfl rfl rfl (fun T10 L10 v10 X10 hQ10 => ?_)
  obtain ⟨rfl, Nq10, eq10⟩ := hQ10
  have N10 := Fr.app N9 Nq10
  show gs T10 m 476 #[vi p1, vi p2, vi p3, vi p4, vi p5, vi p6, vi kk1, vr wf, vi w, vi le, vi ln, vr a11, vr a12, vr bA] [(.int 1)]
  refine own_st (fun _ kS => XS.ifNo X10.here hx rfl (hb hby at_476) rfl ((if0 _ _).trans (feq (by decide : ¬ ((1 : Int32) = (0 : Int32)))).1) kS) ?_
  show gs T10 m 479 #[vi p1, vi p2, vi p3, vi p4, vi p5, vi p6, vi kk1, vr wf, vi w, vi le, vi ln, vr a11, vr a12, vr bA] []
  refine oaload X10 hx hby at_479 rfl rfl ?_
  refine own_st (fun _ kS => XS.bipush X10.here hx rfl (hb hby at_481) kS) ?_
  refine oiload X10 hx hby at_483 rfl ?_
  refine oiload X10 hx hby at_485 rfl ?_
  refine oaload X10 hx hby at_487 rfl rfl ?_
  refine oS 0 X10 hx hZ hby hml hown (own_w hw 75 rfl) (own_w hw 76 rfl) (own_w hw 77 rfl) (own_w hw 78 rfl) (rm_at l Z a0 hw [] bA a11 cB cC (10 : Int32) w nB le h0 n0 Z0  Tb Tc hA10) eq10 (by decide) own_pd11 at_489 rfl rfl rfl (fun T11 L11 v11 X11 hQ11 => ?_)
  obtain ⟨rfl, Nq11, eq11⟩ := hQ11
  have N11 := Fr.app N10 Nq11
  show gs T11 m 492 #[vi p1, vi p2, vi p3, vi p4, vi p5, vi p6, vi kk1, vr wf, vi w, vi le, vi ln, vr a11, vr a12, vr bA] [(.int 1)]
  refine own_st (fun _ kS => XS.ifNo X11.here hx rfl (hb hby at_492) rfl ((if0 _ _).trans (feq (by decide : ¬ ((1 : Int32) = (0 : Int32)))).1) kS) ?_
  show gs T11 m 495 #[vi p1, vi p2, vi p3, vi p4, vi p5, vi p6, vi kk1, vr wf, vi w, vi le, vi ln, vr a11, vr a12, vr bA] []
  refine oaload X11 hx hby at_495 rfl rfl ?_
  refine own_st (fun _ kS => XS.bipush X11.here hx rfl (hb hby at_497) kS) ?_
  refine oiload X11 hx hby at_499 rfl ?_
  refine oiload X11 hx hby at_501 rfl ?_
  refine oaload X11 hx hby at_503 rfl rfl ?_
  refine oS 0 X11 hx hZ hby hml hown (own_w hw 75 rfl) (own_w hw 76 rfl) (own_w hw 77 rfl) (own_w hw 78 rfl) (rm_at l Z a0 hw [] bA a11 cB cC (11 : Int32) w nB le h0 n0 Z0  Tb Tc hA11) eq11 (by decide) own_pd11 at_505 rfl rfl rfl (fun T12 L12 v12 X12 hQ12 => ?_)
  obtain ⟨rfl, Nq12, eq12⟩ := hQ12
  have N12 := Fr.app N11 Nq12
  show gs T12 m 508 #[vi p1, vi p2, vi p3, vi p4, vi p5, vi p6, vi kk1, vr wf, vi w, vi le, vi ln, vr a11, vr a12, vr bA] [(.int 1)]
  refine own_st (fun _ kS => XS.ifNo X12.here hx rfl (hb hby at_508) rfl ((if0 _ _).trans (feq (by decide : ¬ ((1 : Int32) = (0 : Int32)))).1) kS) ?_
  show gs T12 m 511 #[vi p1, vi p2, vi p3, vi p4, vi p5, vi p6, vi kk1, vr wf, vi w, vi le, vi ln, vr a11, vr a12, vr bA] []
  refine oaload X12 hx hby at_511 rfl rfl ?_
  refine own_st (fun _ kS => XS.bipush X12.here hx rfl (hb hby at_513) kS) ?_
  refine oiload X12 hx hby at_515 rfl ?_
  refine oiload X12 hx hby at_517 rfl ?_
  refine oaload X12 hx hby at_519 rfl rfl ?_
  refine oS 0 X12 hx hZ hby hml hown (own_w hw 75 rfl) (own_w hw 76 rfl) (own_w hw 77 rfl) (own_w hw 78 rfl) (rm_at l Z a0 hw [] bA a11 cB cC (12 : Int32) w nB le h0 n0 Z0  Tb Tc hA12) eq12 (by decide) own_pd11 at_521 rfl rfl rfl (fun T13 L13 v13 X13 hQ13 => ?_)
  obtain ⟨rfl, Nq13, eq13⟩ := hQ13
  have N13 := Fr.app N12 Nq13
  show gs T13 m 524 #[vi p1, vi p2, vi p3, vi p4, vi p5, vi p6, vi kk1, vr wf, vi w, vi le, vi ln, vr a11, vr a12, vr bA] [(.int 1)]
  refine own_st (fun _ kS => XS.ifNo X13.here hx rfl (hb hby at_524) rfl ((if0 _ _).trans (feq (by decide : ¬ ((1 : Int32) = (0 : Int32)))).1) kS) ?_
  show gs T13 m 527 #[vi p1, vi p2, vi p3, vi p4, vi p5, vi p6, vi kk1, vr wf, vi w, vi le, vi ln, vr a11, vr a12, vr bA] []
  refine oaload X13 hx hby at_527 rfl rfl ?_
  refine own_st (fun _ kS => XS.bipush X13.here hx rfl (hb hby at_529) kS) ?_
  refine oiload X13 hx hby at_531 rfl ?_
  refine oiload X13 hx hby at_533 rfl ?_
  refine oaload X13 hx hby at_535 rfl rfl ?_
  refine oS 0 X13 hx hZ hby hml hown (own_w hw 75 rfl) (own_w hw 76 rfl) (own_w hw 77 rfl) (own_w hw 78 rfl) (rm_at l Z a0 hw [] bA a11 cB cC (13 : Int32) w nB le h0 n0 Z0  Tb Tc hA13) eq13 (by decide) own_pd11 at_537 rfl rfl rfl (fun T14 L14 v14 X14 hQ14 => ?_)
  obtain ⟨rfl, Nq14, eq14⟩ := hQ14
  have N14 := Fr.app N13 Nq14
  show gs T14 m 540 #[vi p1, vi p2, vi p3, vi p4, vi p5, vi p6, vi kk1, vr wf, vi w, vi le, vi ln, vr a11, vr a12, vr bA] [(.int 1)]
  refine own_st (fun _ kS => XS.ifNo X14.here hx rfl (hb hby at_540) rfl ((if0 _ _).trans (feq (by decide : ¬ ((1 : Int32) = (0 : Int32)))).1) kS) ?_
  show gs T14 m 543 #[vi p1, vi p2, vi p3, vi p4, vi p5, vi p6, vi kk1, vr wf, vi w, vi le, vi ln, vr a11, vr a12, vr bA] []
  refine oaload X14 hx hby at_543 rfl rfl ?_
  refine own_st (fun _ kS => XS.bipush X14.here hx rfl (hb hby at_545) kS) ?_
  refine oiload X14 hx hby at_547 rfl ?_
  refine oiload X14 hx hby at_549 rfl ?_
  refine oaload X14 hx hby at_551 rfl rfl ?_
  refine oS 0 X14 hx hZ hby hml hown (own_w hw 75 rfl) (own_w hw 76 rfl) (own_w hw 77 rfl) (own_w hw 78 rfl) (rm_at l Z a0 hw [] bA a11 cB cC (14 : Int32) w nB le h0 n0 Z0  Tb Tc hA14) eq14 (by decide) own_pd11 at_553 rfl rfl rfl (fun T15 L15 v15 X15 hQ15 => ?_)
  obtain ⟨rfl, Nq15, eq15⟩ := hQ15
  have N15 := Fr.app N14 Nq15
  show gs T15 m 556 #[vi p1, vi p2, vi p3, vi p4, vi p5, vi p6, vi kk1, vr wf, vi w, vi le, vi ln, vr a11, vr a12, vr bA] [(.int 1)]
  refine own_st (fun _ kS => XS.ifNo X15.here hx rfl (hb hby at_556) rfl ((if0 _ _).trans (feq (by decide : ¬ ((1 : Int32) = (0 : Int32)))).1) kS) ?_
  show gs T15 m 559 #[vi p1, vi p2, vi p3, vi p4, vi p5, vi p6, vi kk1, vr wf, vi w, vi le, vi ln, vr a11, vr a12, vr bA] []
  refine oaload X15 hx hby at_559 rfl rfl ?_
  refine own_st (fun _ kS => XS.bipush X15.here hx rfl (hb hby at_561) kS) ?_
  refine oiload X15 hx hby at_563 rfl ?_
  refine oiload X15 hx hby at_565 rfl ?_
  refine oaload X15 hx hby at_567 rfl rfl ?_
  refine oS 0 X15 hx hZ hby hml hown (own_w hw 75 rfl) (own_w hw 76 rfl) (own_w hw 77 rfl) (own_w hw 78 rfl) (rm_at l Z a0 hw [] bA a11 cB cC (15 : Int32) w nB le h0 n0 Z0  Tb Tc hA15) eq15 (by decide) own_pd11 at_569 rfl rfl rfl (fun T16 L16 v16 X16 hQ16 => ?_)
  obtain ⟨rfl, Nq16, eq16⟩ := hQ16
  have N16 := Fr.app N15 Nq16
  show gs T16 m 572 #[vi p1, vi p2, vi p3, vi p4, vi p5, vi p6, vi kk1, vr wf, vi w, vi le, vi ln, vr a11, vr a12, vr bA] [(.int 1)]
  refine own_st (fun _ kS => XS.ifNo X16.here hx rfl (hb hby at_572) rfl ((if0 _ _).trans (feq (by decide : ¬ ((1 : Int32) = (0 : Int32)))).1) kS) ?_
  show gs T16 m 575 #[vi p1, vi p2, vi p3, vi p4, vi p5, vi p6, vi kk1, vr wf, vi w, vi le, vi ln, vr a11, vr a12, vr bA] []
  refine oiconst X16 hx hby at_575 ?_
  refine own_st (fun _ kS => XS.goto X16.here hx rfl (pc0 := 576) (pc' := 580) rfl (hb hby at_576) (by decide) (by decide) kS) ?_
  show gs T16 m 580 #[vi p1, vi p2, vi p3, vi p4, vi p5, vi p6, vi kk1, vr wf, vi w, vi le, vi ln, vr a11, vr a12, vr bA] [(.int 1)]
  exact own_retNW hS (own_le eq16 hk0) X16 hx hlk (t := .boolean) hret (by simp) (hb hby at_580) (by decide) (by decide) (v' := (1 : Int32)) rfl (by rw [eq16]; exact ⟨rfl, N16⟩)
theorem own_pd12 : parseMethodDescriptor "([C)V" = some ⟨[(.array .char)], none⟩ := by decide +kernel
theorem own_pd13 : parseMethodDescriptor "(Ljava/lang/String;)[B" = some ⟨[(.object "java/lang/String")], some (.array .byte)⟩ := by decide +kernel
theorem sg_L0 {p : Program} {l : Launch} {e : Env} {s : State} {m : MethodId} {args : Array Value} {below : List Frame} {meth : Method} {c : Code} {T0 : State} {locs : List Loc} {Z : State} {a0 : Array Value} {h0 : Heap} {n0 : Nat} {vm0 : Vm} {kv0 : Nat} (hx : p.tables.exec = Jvm.exec) (hby : c.code = code) (hml : c.maxLocals = 14) (hown : (s.setVm vm0).vm.findClass "com/example/provenir/provenir/TextEncodingEncodePinLaw" = some m.cls) (hlk : meth.locks = false) (hret : meth.sig.returnType = some .boolean) (hZ : Z.Warmed39 (s.setVm vm0).vm) (hw : HW a0 Z) (Z0 : n0 ≤ h0.size) (hS : s.Since vm0 kv0) (hk0 : kv0 ≤ h0.size)
    (X0 : Stand p l e room_1 (s.setVm vm0) m args below meth c T0 locs 1 4) (e0 : T0.heap = h0) (N0 : Fr n0 locs) (O0 : Old Z n0 h0) (p1 : Int32) (p2 : Int32) (p3 : Int32) (p4 : Int32) (p5 : Int32) (p6 : Int32) (kk1 : Int32) (wf : Addr) (w : Int32) (le : Int32) (a11 : Addr) (kC : ClassId) (c0 : Int32) (c1 : Int32) (c2 : Int32) (c3 : Int32) (zCS : Int32) (fm : Value) (R_C : Arv Z h0 a11 kC .char (4 : Int32) [(.int c0), (.int c1), (.int c2), (.int c3)] (.int 0)) (g_C : n0 ≤ a11) (Ef : ek13 Z Z.heap wf) (Fw : fk10 Z Z.heap wf (.int w)) (Fl : fk11 Z Z.heap wf (.int le)) (S_CS : sk0 Z Z.heap (.int zCS)) (P_CS : ¬ zCS = 0) (S_SF : sk1 Z Z.heap fm) (P_SF : fm.isRef = true) (hC0 : ¬ ((255 : Int32) < c0)) (hC1 : ¬ ((255 : Int32) < c1)) (hC2 : ¬ ((255 : Int32) < c2)) (hC3 : ¬ ((255 : Int32) < c3)) (hW : (w = 1 ∧ le = 0) ∨ (w = 4 ∧ le = 0) ∨ (w = 4 ∧ le = 1) ∨ (w = 2 ∧ le = 0) ∨ (w = 2 ∧ le = 1)) (hCH : CHv Z EL0 vm0 h0) :
    own_G p.tables e below (own_EW s (Q_law n0) room_1.cells room_1.slots) (T0.setTop (mkF m 166 #[vi p1, vi p2, vi p3, vi p4, vi p5, vi p6, vi kk1, vr wf, vi w, vi le, vi 0, vr a11, .unset, .unset] [])) := by
  have hEL : EW Z a0 EL0 := own_ELw hw
  show gs T0 m 166 #[vi p1, vi p2, vi p3, vi p4, vi p5, vi p6, vi kk1, vr wf, vi w, vi le, vi 0, vr a11, .unset, .unset] []
  refine oiload X0 hx hby at_166 rfl ?_
  refine own_st (fun _ kS => XS.ifNo X0.here hx rfl (hb hby at_168) rfl ((if0 _ _).trans (teq (by decide : (0 : Int32) = (0 : Int32))).2) kS) ?_
  show gs T0 m 171 #[vi p1, vi p2, vi p3, vi p4, vi p5, vi p6, vi kk1, vr wf, vi w, vi le, vi 0, vr a11, .unset, .unset] []
  refine oiconst X0 hx hby at_171 ?_
  show gs T0 m 172 #[vi p1, vi p2, vi p3, vi p4, vi p5, vi p6, vi kk1, vr wf, vi w, vi le, vi 0, vr a11, .unset, .unset] [(.int 0)]
  obtain ⟨T1, h1, k1, X1, e1, E1, A1, st1⟩ := newP X0 hx hZ (own_w hw 4 rfl) e0 (g := (mkF m 172 #[vi p1, vi p2, vi p3, vi p4, vi p5, vi p6, vi kk1, vr wf, vi w, vi le, vi 0, vr a11, .unset, .unset] [(.int 0)])) rfl (hb hby at_172) rfl (by decide) (cap := 0) (by decide) (by decide) (by decide) (by decide)
  obtain ⟨b1, g1⟩ : ∃ z, z = h0.size := ⟨_, rfl⟩
  have ne_a11_b1 : a11 ≠ b1 := Nat.ne_of_lt (Nat.lt_of_lt_of_eq R_C.lt g1.symm)
  have ge_b1 : n0 ≤ b1 := Nat.le_trans Z0 (Nat.le_of_eq g1.symm)
  rw [← g1] at A1 st1
  have CH1 := CHv.ext E1 hCH
  have O1 := O0.ext E1
  have R1 : Arv Z h1 b1 k1 .char (0 : Int32) [] (.int 0) := (Arv.new A1 (by decide)).pad (pad_rep [] (.int 0) 0)
  refine own_st st1 ?_
  show gs T1 m 174 #[vi p1, vi p2, vi p3, vi p4, vi p5, vi p6, vi kk1, vr wf, vi w, vi le, vi 0, vr a11, .unset, .unset] [(.ref b1)]
  refine own_st (fun _ kS => XS.astore X1.here hx rfl (hb hby at_174) rfl rfl (l' := #[vi p1, vi p2, vi p3, vi p4, vi p5, vi p6, vi kk1, vr wf, vi w, vi le, vi 0, vr a11, vr b1, .unset]) rfl kS) ?_
  refine own_st (fun _ kS => XS.goto X1.here hx rfl (pc0 := 176) (pc' := 296) rfl (hb hby at_176) (by decide) (by decide) kS) ?_
  show gs T1 m 296 #[vi p1, vi p2, vi p3, vi p4, vi p5, vi p6, vi kk1, vr wf, vi w, vi le, vi 0, vr a11, vr b1, .unset] []
  refine oaload X1 hx hby at_296 rfl rfl ?_
  show gs T1 m 298 #[vi p1, vi p2, vi p3, vi p4, vi p5, vi p6, vi kk1, vr wf, vi w, vi le, vi 0, vr a11, vr b1, .unset] [(.ref wf)]
  obtain ⟨T2, h2, X2, e2, E2, A2, D2, -, st2⟩ := newO X1 hx hZ hown (own_w hw 5 rfl) (own_w hw 6 rfl) (own_w hw 7 rfl) e1 (g := (mkF m 298 #[vi p1, vi p2, vi p3, vi p4, vi p5, vi p6, vi kk1, vr wf, vi w, vi le, vi 0, vr a11, vr b1, .unset] [(.ref wf)])) rfl (hb hby at_298) (by decide) (by decide)
  obtain ⟨b2, g2⟩ : ∃ z, z = h1.size := ⟨_, rfl⟩
  have ne_a11_b2 : a11 ≠ b2 := Nat.ne_of_lt (Nat.lt_of_lt_of_eq (Arv.ext R_C E1).lt g2.symm)
  have ne_b1_b2 : b1 ≠ b2 := Nat.ne_of_lt (Nat.lt_of_lt_of_eq R1.lt g2.symm)
  have ge_b2 : n0 ≤ b2 := Nat.le_trans (Nat.le_trans Z0 E1.1) (Nat.le_of_eq g2.symm)
  rw [← g2] at A2 D2 st2
  have CH2 := CHv.ext E2 CH1
  have O2 := O1.ext E2
  have F2_coder : fk8 Z h2 b2 (.int 0) := D2 (Or.inr (own_w hw 31 rfl)) (ty := .byte) (by decide)
  have F2_value : fk9 Z h2 b2 .null := D2 (Or.inr (own_w hw 33 rfl)) (ty := (.array .byte)) (by decide)
  refine own_st st2 ?_
  show gs T2 m 301 #[vi p1, vi p2, vi p3, vi p4, vi p5, vi p6, vi kk1, vr wf, vi w, vi le, vi 0, vr a11, vr b1, .unset] [(.ref b2), (.ref wf)]
  refine own_st (fun _ kS => XS.dup X2.here hx rfl (hb hby at_301) rfl rfl kS) ?_
  refine oaload X2 hx hby at_302 rfl rfl ?_
  show gs T2 m 304 #[vi p1, vi p2, vi p3, vi p4, vi p5, vi p6, vi kk1, vr wf, vi w, vi le, vi 0, vr a11, vr b1, .unset] [(.ref b1), (.ref b2), (.ref b2), (.ref wf)]
  obtain ⟨_, _, ⟨T3, L3, k3, n3⟩, -, X3, sv3, sg3, ⟨Lc3, hQ3, l3, y3, z3, cr3⟩, st3⟩ := X2.specialBackS hx (y := (⟨"java/lang/String", "<init>", "([C)V"⟩ : MethodName)) rfl hown (mvT hZ (own_w hw 8 rfl)) (mvT hZ (own_w hw 9 rfl)) (mvT hZ (own_w hw 10 rfl)) (by decide) (backOfSH (W := 2) (rm_init1_0 l Z a0 hw [] b2 b1 k1 h2 n0 (Nat.le_trans (Nat.le_trans Z0 E1.1) E2.1)  A2 ge_b2 F2_value F2_coder (Arv.ext R1 E2)) hZ (own_w hw 10 rfl) (own_w hw 7 rfl) (by decide) (by decide) hEL CH2) (g := (mkF m 304 #[vi p1, vi p2, vi p3, vi p4, vi p5, vi p6, vi kk1, vr wf, vi w, vi le, vi 0, vr a11, vr b1, .unset] [(.ref b1), (.ref b2), (.ref b2), (.ref wf)])) rfl (by rw [hml]; rfl) (Steps.refl _) (a := b2) (argsL := [(.ref b1)]) (rest := [(.ref b2), (.ref wf)]) (lenOf own_pd12 rfl) rfl (by show 2 * 0 + _ ≤ _; exact Nat.le_of_eq rfl) (hb hby at_304) (fun _ _ => ⟨rfl, e2, (by decide : 3 + 2 ≤ _), (by decide : 8 + 4 ≤ _)⟩)
  dsimp only [Pt.U, Pt.locs, Pt.cells, Pt.slots] at X3 l3 y3 z3 st3 hQ3 sv3 sg3 cr3
  subst l3 y3 z3
  obtain ⟨X3, hS, hZ, hown⟩ := rebS hS (own_le e2 (Nat.le_trans (Nat.le_trans hk0 E1.1) E2.1)) X3 sv3 sg3 hZ hown
  obtain ⟨tN_3, kN_3, rfl, Nq3, Kc3, P3_0, P3_1, P3_2, P3_3⟩ := hQ3
  have N3 := Fr.app N0 Nq3
  have O3 := O2.keep Kc3 (allS ge_b2 all0)
  have CH3 := cr3.1
  refine own_tr st3 ?_
  show gs T3 m 307 #[vi p1, vi p2, vi p3, vi p4, vi p5, vi p6, vi kk1, vr wf, vi w, vi le, vi 0, vr a11, vr b1, .unset] [(.ref b2), (.ref wf)]
  rcases hW with ⟨rfl, rfl⟩ | ⟨rfl, rfl⟩ | ⟨rfl, rfl⟩ | ⟨rfl, rfl⟩ | ⟨rfl, rfl⟩
  · skip
    show gs T3 m 307 #[vi p1, vi p2, vi p3, vi p4, vi p5, vi p6, vi kk1, vr wf, vi 1, vi 0, vi 0, vr a11, vr b1, .unset] [(.ref b2), (.ref wf)]
    refine oV 0 X3 hx hZ hby hml hown (own_w hw 34 rfl) (own_w hw 35 rfl) (own_w hw 37 rfl) (own_w hw 36 rfl) (rm_enc_0_1_0 l Z a0 hw [] wf b2 tN_3 kN_3 zCS fm T3.heap n0 (Nat.le_trans (Nat.le_trans (Nat.le_trans Z0 E1.1) E2.1) Kc3.1) O3 Fw P3_0 P3_2 P3_1 P3_3 S_CS P_CS S_SF P_SF) (own_w hw 38 rfl) (own_w hw 2 rfl) rfl (Exa.ext O3.2 Ef) (by decide) own_pd13 at_307 rfl rfl rfl (fun T4 L4 v4 X4 hQ4 => ?_)
    obtain ⟨tN_4, kN_4, rfl, Nq4, Kc4, P4_0, P4_1⟩ := hQ4
    have N4 := Fr.app N3 Nq4
    have ne_a11_tN_4 : a11 ≠ tN_4 := Nat.ne_of_lt (Nat.lt_of_lt_of_le ((Arv.ext (Arv.ext R_C E1) E2).keep Kc3 (ninS ne_a11_b2 nin0)).lt P4_0)
    have ne_b1_tN_4 : b1 ≠ tN_4 := Nat.ne_of_lt (Nat.lt_of_lt_of_le ((Arv.ext R1 E2).keep Kc3 (ninS ne_b1_b2 nin0)).lt P4_0)
    have ne_b2_tN_4 : b2 ≠ tN_4 := Nat.ne_of_lt (Nat.lt_of_lt_of_le P3_0.lt P4_0)
    have ne_tN_3_tN_4 : tN_3 ≠ tN_4 := Nat.ne_of_lt (Nat.lt_of_lt_of_le P3_3.lt P4_0)
    have ge_tN_4 : n0 ≤ tN_4 := Nat.le_trans (Nat.le_trans (Nat.le_trans (Nat.le_trans Z0 E1.1) E2.1) Kc3.1) P4_0
    have O4 := O3.keep Kc4 all0
    have CH4 := CHv.keep Kc4 sf0 CH3
    show gs T4 m 310 #[vi p1, vi p2, vi p3, vi p4, vi p5, vi p6, vi kk1, vr wf, vi 1, vi 0, vi 0, vr a11, vr b1, .unset] [(.ref tN_4)]
    refine own_st (fun _ kS => XS.astore X4.here hx rfl (hb hby at_310) rfl rfl (l' := #[vi p1, vi p2, vi p3, vi p4, vi p5, vi p6, vi kk1, vr wf, vi 1, vi 0, vi 0, vr a11, vr b1, vr tN_4]) rfl kS) ?_
    refine oaload X4 hx hby at_312 rfl rfl ?_
    show gs T4 m 314 #[vi p1, vi p2, vi p3, vi p4, vi p5, vi p6, vi kk1, vr wf, vi 1, vi 0, vi 0, vr a11, vr b1, vr tN_4] [(.ref tN_4)]
    obtain ⟨cl5, Ar5, qa5, qs5, qn5, qh5, qg5⟩ := id P4_1
    refine own_st (fun _ kS => X4.arraylength hx (Ar5.1) (State.isArrayOf_alike hZ.alike Ar5.2.1) (g := (mkF m 314 #[vi p1, vi p2, vi p3, vi p4, vi p5, vi p6, vi kk1, vr wf, vi 1, vi 0, vi 0, vr a11, vr b1, vr tN_4] [(.ref tN_4)])) rfl rfl (hb hby at_314) _ kS) ?_
    rw [len_of qs5 qn5]
    show gs T4 m 315 #[vi p1, vi p2, vi p3, vi p4, vi p5, vi p6, vi kk1, vr wf, vi 1, vi 0, vi 0, vr a11, vr b1, vr tN_4] [(.int 0)]
    refine oiload X4 hx hby at_315 rfl ?_
    refine oiload X4 hx hby at_317 rfl ?_
    refine own_st (fun _ kS => XS.imul X4.here hx rfl (hb hby at_319) rfl kS) ?_
    show gs T4 m 320 #[vi p1, vi p2, vi p3, vi p4, vi p5, vi p6, vi kk1, vr wf, vi 1, vi 0, vi 0, vr a11, vr b1, vr tN_4] [(.int 0), (.int 0)]
    refine own_st (fun _ kS => XS.icmpYes X4.here hx rfl (pc0 := 320) (pc' := 325) rfl (hb hby at_320) rfl (teq (by decide : (0 : Int32) = (0 : Int32))).1 (by decide) (by decide) kS) ?_
    show gs T4 m 325 #[vi p1, vi p2, vi p3, vi p4, vi p5, vi p6, vi kk1, vr wf, vi 1, vi 0, vi 0, vr a11, vr b1, vr tN_4] []
    obtain ⟨cB, Tb, vB⟩ := own_tab2 P4_1 (fun i => ⟨_, rfl⟩)
    obtain ⟨cC, Tc, vC⟩ := own_tab2 (((Arv.ext (Arv.ext R_C E1) E2).keep Kc3 (ninS ne_a11_b2 nin0)).keep Kc4 nin0) (fun i => by match i with | 0 => exact ⟨_, rfl⟩ | 1 => exact ⟨_, rfl⟩ | 2 => exact ⟨_, rfl⟩ | 3 => exact ⟨_, rfl⟩ | _ + 4 => exact ⟨_, rfl⟩)
    exact sg_T hx hby hml hown hlk hret hZ hw (Nat.le_trans (Nat.le_trans (Nat.le_trans (Nat.le_trans Z0 E1.1) E2.1) Kc3.1) Kc4.1) hS (Nat.le_trans (Nat.le_refl _) Kc4.1) (X4.more (by decide) (by decide)) rfl N4 O4 p1 p2 p3 p4 p5 p6 kk1 wf (1 : Int32) (0 : Int32) (0 : Int32) a11 b1 tN_4 cB cC (0 : Int32) Tb Tc (Or.inl (by decide)) (Or.inl (by decide)) (Or.inl (by decide)) (Or.inl (by decide)) (Or.inl (by decide)) (Or.inl (by decide)) (Or.inl (by decide)) (Or.inl (by decide)) (Or.inl (by decide)) (Or.inl (by decide)) (Or.inl (by decide)) (Or.inl (by decide)) (Or.inl (by decide)) (Or.inl (by decide)) (Or.inl (by decide)) (Or.inl (by decide))
  · skip
    show gs T3 m 307 #[vi p1, vi p2, vi p3, vi p4, vi p5, vi p6, vi kk1, vr wf, vi 4, vi 0, vi 0, vr a11, vr b1, .unset] [(.ref b2), (.ref wf)]
    refine oV 0 X3 hx hZ hby hml hown (own_w hw 34 rfl) (own_w hw 35 rfl) (own_w hw 37 rfl) (own_w hw 36 rfl) (rm_enc_0_4_0 l Z a0 hw [] wf b2 tN_3 kN_3 zCS fm T3.heap n0 (Nat.le_trans (Nat.le_trans (Nat.le_trans Z0 E1.1) E2.1) Kc3.1) O3 Fw P3_0 P3_2 P3_1 P3_3 S_CS P_CS S_SF P_SF) (own_w hw 38 rfl) (own_w hw 2 rfl) rfl (Exa.ext O3.2 Ef) (by decide) own_pd13 at_307 rfl rfl rfl (fun T6 L6 v6 X6 hQ6 => ?_)
    obtain ⟨tN_6, kN_6, rfl, Nq6, Kc6, P6_0, P6_1⟩ := hQ6
    have N6 := Fr.app N3 Nq6
    have ne_a11_tN_6 : a11 ≠ tN_6 := Nat.ne_of_lt (Nat.lt_of_lt_of_le ((Arv.ext (Arv.ext R_C E1) E2).keep Kc3 (ninS ne_a11_b2 nin0)).lt P6_0)
    have ne_b1_tN_6 : b1 ≠ tN_6 := Nat.ne_of_lt (Nat.lt_of_lt_of_le ((Arv.ext R1 E2).keep Kc3 (ninS ne_b1_b2 nin0)).lt P6_0)
    have ne_b2_tN_6 : b2 ≠ tN_6 := Nat.ne_of_lt (Nat.lt_of_lt_of_le P3_0.lt P6_0)
    have ne_tN_3_tN_6 : tN_3 ≠ tN_6 := Nat.ne_of_lt (Nat.lt_of_lt_of_le P3_3.lt P6_0)
    have ge_tN_6 : n0 ≤ tN_6 := Nat.le_trans (Nat.le_trans (Nat.le_trans (Nat.le_trans Z0 E1.1) E2.1) Kc3.1) P6_0
    have O6 := O3.keep Kc6 all0
    have CH6 := CHv.keep Kc6 sf0 CH3
    show gs T6 m 310 #[vi p1, vi p2, vi p3, vi p4, vi p5, vi p6, vi kk1, vr wf, vi 4, vi 0, vi 0, vr a11, vr b1, .unset] [(.ref tN_6)]
    refine own_st (fun _ kS => XS.astore X6.here hx rfl (hb hby at_310) rfl rfl (l' := #[vi p1, vi p2, vi p3, vi p4, vi p5, vi p6, vi kk1, vr wf, vi 4, vi 0, vi 0, vr a11, vr b1, vr tN_6]) rfl kS) ?_
    refine oaload X6 hx hby at_312 rfl rfl ?_
    show gs T6 m 314 #[vi p1, vi p2, vi p3, vi p4, vi p5, vi p6, vi kk1, vr wf, vi 4, vi 0, vi 0, vr a11, vr b1, vr tN_6] [(.ref tN_6)]
    obtain ⟨cl7, Ar7, qa7, qs7, qn7, qh7, qg7⟩ := id P6_1
    refine own_st (fun _ kS => X6.arraylength hx (Ar7.1) (State.isArrayOf_alike hZ.alike Ar7.2.1) (g := (mkF m 314 #[vi p1, vi p2, vi p3, vi p4, vi p5, vi p6, vi kk1, vr wf, vi 4, vi 0, vi 0, vr a11, vr b1, vr tN_6] [(.ref tN_6)])) rfl rfl (hb hby at_314) _ kS) ?_
    rw [len_of qs7 qn7]
    show gs T6 m 315 #[vi p1, vi p2, vi p3, vi p4, vi p5, vi p6, vi kk1, vr wf, vi 4, vi 0, vi 0, vr a11, vr b1, vr tN_6] [(.int 0)]
    refine oiload X6 hx hby at_315 rfl ?_
    refine oiload X6 hx hby at_317 rfl ?_
    refine own_st (fun _ kS => XS.imul X6.here hx rfl (hb hby at_319) rfl kS) ?_
    show gs T6 m 320 #[vi p1, vi p2, vi p3, vi p4, vi p5, vi p6, vi kk1, vr wf, vi 4, vi 0, vi 0, vr a11, vr b1, vr tN_6] [(.int 0), (.int 0)]
    refine own_st (fun _ kS => XS.icmpYes X6.here hx rfl (pc0 := 320) (pc' := 325) rfl (hb hby at_320) rfl (teq (by decide : (0 : Int32) = (0 : Int32))).1 (by decide) (by decide) kS) ?_
    show gs T6 m 325 #[vi p1, vi p2, vi p3, vi p4, vi p5, vi p6, vi kk1, vr wf, vi 4, vi 0, vi 0, vr a11, vr b1, vr tN_6] []
    obtain ⟨cB, Tb, vB⟩ := own_tab2 P6_1 (fun i => ⟨_, rfl⟩)
    obtain ⟨cC, Tc, vC⟩ := own_tab2 (((Arv.ext (Arv.ext R_C E1) E2).keep Kc3 (ninS ne_a11_b2 nin0)).keep Kc6 nin0) (fun i => by match i with | 0 => exact ⟨_, rfl⟩ | 1 => exact ⟨_, rfl⟩ | 2 => exact ⟨_, rfl⟩ | 3 => exact ⟨_, rfl⟩ | _ + 4 => exact ⟨_, rfl⟩)
    exact sg_T hx hby hml hown hlk hret hZ hw (Nat.le_trans (Nat.le_trans (Nat.le_trans (Nat.le_trans Z0 E1.1) E2.1) Kc3.1) Kc6.1) hS (Nat.le_trans (Nat.le_refl _) Kc6.1) (X6.more (by decide) (by decide)) rfl N6 O6 p1 p2 p3 p4 p5 p6 kk1 wf (4 : Int32) (0 : Int32) (0 : Int32) a11 b1 tN_6 cB cC (0 : Int32) Tb Tc (Or.inl (by decide)) (Or.inl (by decide)) (Or.inl (by decide)) (Or.inl (by decide)) (Or.inl (by decide)) (Or.inl (by decide)) (Or.inl (by decide)) (Or.inl (by decide)) (Or.inl (by decide)) (Or.inl (by decide)) (Or.inl (by decide)) (Or.inl (by decide)) (Or.inl (by decide)) (Or.inl (by decide)) (Or.inl (by decide)) (Or.inl (by decide))
  · skip
    show gs T3 m 307 #[vi p1, vi p2, vi p3, vi p4, vi p5, vi p6, vi kk1, vr wf, vi 4, vi 1, vi 0, vr a11, vr b1, .unset] [(.ref b2), (.ref wf)]
    refine oV 0 X3 hx hZ hby hml hown (own_w hw 34 rfl) (own_w hw 35 rfl) (own_w hw 37 rfl) (own_w hw 36 rfl) (rm_enc_0_4_1 l Z a0 hw [] wf b2 tN_3 kN_3 zCS fm T3.heap n0 (Nat.le_trans (Nat.le_trans (Nat.le_trans Z0 E1.1) E2.1) Kc3.1) O3 Fw P3_0 P3_2 P3_1 P3_3 S_CS P_CS S_SF P_SF) (own_w hw 38 rfl) (own_w hw 2 rfl) rfl (Exa.ext O3.2 Ef) (by decide) own_pd13 at_307 rfl rfl rfl (fun T8 L8 v8 X8 hQ8 => ?_)
    obtain ⟨tN_8, kN_8, rfl, Nq8, Kc8, P8_0, P8_1⟩ := hQ8
    have N8 := Fr.app N3 Nq8
    have ne_a11_tN_8 : a11 ≠ tN_8 := Nat.ne_of_lt (Nat.lt_of_lt_of_le ((Arv.ext (Arv.ext R_C E1) E2).keep Kc3 (ninS ne_a11_b2 nin0)).lt P8_0)
    have ne_b1_tN_8 : b1 ≠ tN_8 := Nat.ne_of_lt (Nat.lt_of_lt_of_le ((Arv.ext R1 E2).keep Kc3 (ninS ne_b1_b2 nin0)).lt P8_0)
    have ne_b2_tN_8 : b2 ≠ tN_8 := Nat.ne_of_lt (Nat.lt_of_lt_of_le P3_0.lt P8_0)
    have ne_tN_3_tN_8 : tN_3 ≠ tN_8 := Nat.ne_of_lt (Nat.lt_of_lt_of_le P3_3.lt P8_0)
    have ge_tN_8 : n0 ≤ tN_8 := Nat.le_trans (Nat.le_trans (Nat.le_trans (Nat.le_trans Z0 E1.1) E2.1) Kc3.1) P8_0
    have O8 := O3.keep Kc8 all0
    have CH8 := CHv.keep Kc8 sf0 CH3
    show gs T8 m 310 #[vi p1, vi p2, vi p3, vi p4, vi p5, vi p6, vi kk1, vr wf, vi 4, vi 1, vi 0, vr a11, vr b1, .unset] [(.ref tN_8)]
    refine own_st (fun _ kS => XS.astore X8.here hx rfl (hb hby at_310) rfl rfl (l' := #[vi p1, vi p2, vi p3, vi p4, vi p5, vi p6, vi kk1, vr wf, vi 4, vi 1, vi 0, vr a11, vr b1, vr tN_8]) rfl kS) ?_
    refine oaload X8 hx hby at_312 rfl rfl ?_
    show gs T8 m 314 #[vi p1, vi p2, vi p3, vi p4, vi p5, vi p6, vi kk1, vr wf, vi 4, vi 1, vi 0, vr a11, vr b1, vr tN_8] [(.ref tN_8)]
    obtain ⟨cl9, Ar9, qa9, qs9, qn9, qh9, qg9⟩ := id P8_1
    refine own_st (fun _ kS => X8.arraylength hx (Ar9.1) (State.isArrayOf_alike hZ.alike Ar9.2.1) (g := (mkF m 314 #[vi p1, vi p2, vi p3, vi p4, vi p5, vi p6, vi kk1, vr wf, vi 4, vi 1, vi 0, vr a11, vr b1, vr tN_8] [(.ref tN_8)])) rfl rfl (hb hby at_314) _ kS) ?_
    rw [len_of qs9 qn9]
    show gs T8 m 315 #[vi p1, vi p2, vi p3, vi p4, vi p5, vi p6, vi kk1, vr wf, vi 4, vi 1, vi 0, vr a11, vr b1, vr tN_8] [(.int 0)]
    refine oiload X8 hx hby at_315 rfl ?_
    refine oiload X8 hx hby at_317 rfl ?_
    refine own_st (fun _ kS => XS.imul X8.here hx rfl (hb hby at_319) rfl kS) ?_
    show gs T8 m 320 #[vi p1, vi p2, vi p3, vi p4, vi p5, vi p6, vi kk1, vr wf, vi 4, vi 1, vi 0, vr a11, vr b1, vr tN_8] [(.int 0), (.int 0)]
    refine own_st (fun _ kS => XS.icmpYes X8.here hx rfl (pc0 := 320) (pc' := 325) rfl (hb hby at_320) rfl (teq (by decide : (0 : Int32) = (0 : Int32))).1 (by decide) (by decide) kS) ?_
    show gs T8 m 325 #[vi p1, vi p2, vi p3, vi p4, vi p5, vi p6, vi kk1, vr wf, vi 4, vi 1, vi 0, vr a11, vr b1, vr tN_8] []
    obtain ⟨cB, Tb, vB⟩ := own_tab2 P8_1 (fun i => ⟨_, rfl⟩)
    obtain ⟨cC, Tc, vC⟩ := own_tab2 (((Arv.ext (Arv.ext R_C E1) E2).keep Kc3 (ninS ne_a11_b2 nin0)).keep Kc8 nin0) (fun i => by match i with | 0 => exact ⟨_, rfl⟩ | 1 => exact ⟨_, rfl⟩ | 2 => exact ⟨_, rfl⟩ | 3 => exact ⟨_, rfl⟩ | _ + 4 => exact ⟨_, rfl⟩)
    exact sg_T hx hby hml hown hlk hret hZ hw (Nat.le_trans (Nat.le_trans (Nat.le_trans (Nat.le_trans Z0 E1.1) E2.1) Kc3.1) Kc8.1) hS (Nat.le_trans (Nat.le_refl _) Kc8.1) (X8.more (by decide) (by decide)) rfl N8 O8 p1 p2 p3 p4 p5 p6 kk1 wf (4 : Int32) (1 : Int32) (0 : Int32) a11 b1 tN_8 cB cC (0 : Int32) Tb Tc (Or.inl (by decide)) (Or.inl (by decide)) (Or.inl (by decide)) (Or.inl (by decide)) (Or.inl (by decide)) (Or.inl (by decide)) (Or.inl (by decide)) (Or.inl (by decide)) (Or.inl (by decide)) (Or.inl (by decide)) (Or.inl (by decide)) (Or.inl (by decide)) (Or.inl (by decide)) (Or.inl (by decide)) (Or.inl (by decide)) (Or.inl (by decide))
  · skip
    show gs T3 m 307 #[vi p1, vi p2, vi p3, vi p4, vi p5, vi p6, vi kk1, vr wf, vi 2, vi 0, vi 0, vr a11, vr b1, .unset] [(.ref b2), (.ref wf)]
    refine oV 0 X3 hx hZ hby hml hown (own_w hw 34 rfl) (own_w hw 35 rfl) (own_w hw 37 rfl) (own_w hw 36 rfl) (rm_enc_0_2_0 l Z a0 hw [] wf b2 tN_3 kN_3 zCS fm T3.heap n0 (Nat.le_trans (Nat.le_trans (Nat.le_trans Z0 E1.1) E2.1) Kc3.1) O3 Fw P3_0 P3_2 P3_1 P3_3 S_CS P_CS S_SF P_SF) (own_w hw 38 rfl) (own_w hw 2 rfl) rfl (Exa.ext O3.2 Ef) (by decide) own_pd13 at_307 rfl rfl rfl (fun T10 L10 v10 X10 hQ10 => ?_)
    obtain ⟨tN_10, kN_10, rfl, Nq10, Kc10, P10_0, P10_1⟩ := hQ10
    have N10 := Fr.app N3 Nq10
    have ne_a11_tN_10 : a11 ≠ tN_10 := Nat.ne_of_lt (Nat.lt_of_lt_of_le ((Arv.ext (Arv.ext R_C E1) E2).keep Kc3 (ninS ne_a11_b2 nin0)).lt P10_0)
    have ne_b1_tN_10 : b1 ≠ tN_10 := Nat.ne_of_lt (Nat.lt_of_lt_of_le ((Arv.ext R1 E2).keep Kc3 (ninS ne_b1_b2 nin0)).lt P10_0)
    have ne_b2_tN_10 : b2 ≠ tN_10 := Nat.ne_of_lt (Nat.lt_of_lt_of_le P3_0.lt P10_0)
    have ne_tN_3_tN_10 : tN_3 ≠ tN_10 := Nat.ne_of_lt (Nat.lt_of_lt_of_le P3_3.lt P10_0)
    have ge_tN_10 : n0 ≤ tN_10 := Nat.le_trans (Nat.le_trans (Nat.le_trans (Nat.le_trans Z0 E1.1) E2.1) Kc3.1) P10_0
    have O10 := O3.keep Kc10 all0
    have CH10 := CHv.keep Kc10 sf0 CH3
    show gs T10 m 310 #[vi p1, vi p2, vi p3, vi p4, vi p5, vi p6, vi kk1, vr wf, vi 2, vi 0, vi 0, vr a11, vr b1, .unset] [(.ref tN_10)]
    refine own_st (fun _ kS => XS.astore X10.here hx rfl (hb hby at_310) rfl rfl (l' := #[vi p1, vi p2, vi p3, vi p4, vi p5, vi p6, vi kk1, vr wf, vi 2, vi 0, vi 0, vr a11, vr b1, vr tN_10]) rfl kS) ?_
    refine oaload X10 hx hby at_312 rfl rfl ?_
    show gs T10 m 314 #[vi p1, vi p2, vi p3, vi p4, vi p5, vi p6, vi kk1, vr wf, vi 2, vi 0, vi 0, vr a11, vr b1, vr tN_10] [(.ref tN_10)]
    obtain ⟨cl11, Ar11, qa11, qs11, qn11, qh11, qg11⟩ := id P10_1
    refine own_st (fun _ kS => X10.arraylength hx (Ar11.1) (State.isArrayOf_alike hZ.alike Ar11.2.1) (g := (mkF m 314 #[vi p1, vi p2, vi p3, vi p4, vi p5, vi p6, vi kk1, vr wf, vi 2, vi 0, vi 0, vr a11, vr b1, vr tN_10] [(.ref tN_10)])) rfl rfl (hb hby at_314) _ kS) ?_
    rw [len_of qs11 qn11]
    show gs T10 m 315 #[vi p1, vi p2, vi p3, vi p4, vi p5, vi p6, vi kk1, vr wf, vi 2, vi 0, vi 0, vr a11, vr b1, vr tN_10] [(.int 0)]
    refine oiload X10 hx hby at_315 rfl ?_
    refine oiload X10 hx hby at_317 rfl ?_
    refine own_st (fun _ kS => XS.imul X10.here hx rfl (hb hby at_319) rfl kS) ?_
    show gs T10 m 320 #[vi p1, vi p2, vi p3, vi p4, vi p5, vi p6, vi kk1, vr wf, vi 2, vi 0, vi 0, vr a11, vr b1, vr tN_10] [(.int 0), (.int 0)]
    refine own_st (fun _ kS => XS.icmpYes X10.here hx rfl (pc0 := 320) (pc' := 325) rfl (hb hby at_320) rfl (teq (by decide : (0 : Int32) = (0 : Int32))).1 (by decide) (by decide) kS) ?_
    show gs T10 m 325 #[vi p1, vi p2, vi p3, vi p4, vi p5, vi p6, vi kk1, vr wf, vi 2, vi 0, vi 0, vr a11, vr b1, vr tN_10] []
    obtain ⟨cB, Tb, vB⟩ := own_tab2 P10_1 (fun i => ⟨_, rfl⟩)
    obtain ⟨cC, Tc, vC⟩ := own_tab2 (((Arv.ext (Arv.ext R_C E1) E2).keep Kc3 (ninS ne_a11_b2 nin0)).keep Kc10 nin0) (fun i => by match i with | 0 => exact ⟨_, rfl⟩ | 1 => exact ⟨_, rfl⟩ | 2 => exact ⟨_, rfl⟩ | 3 => exact ⟨_, rfl⟩ | _ + 4 => exact ⟨_, rfl⟩)
    exact sg_T hx hby hml hown hlk hret hZ hw (Nat.le_trans (Nat.le_trans (Nat.le_trans (Nat.le_trans Z0 E1.1) E2.1) Kc3.1) Kc10.1) hS (Nat.le_trans (Nat.le_refl _) Kc10.1) (X10.more (by decide) (by decide)) rfl N10 O10 p1 p2 p3 p4 p5 p6 kk1 wf (2 : Int32) (0 : Int32) (0 : Int32) a11 b1 tN_10 cB cC (0 : Int32) Tb Tc (Or.inl (by decide)) (Or.inl (by decide)) (Or.inl (by decide)) (Or.inl (by decide)) (Or.inl (by decide)) (Or.inl (by decide)) (Or.inl (by decide)) (Or.inl (by decide)) (Or.inl (by decide)) (Or.inl (by decide)) (Or.inl (by decide)) (Or.inl (by decide)) (Or.inl (by decide)) (Or.inl (by decide)) (Or.inl (by decide)) (Or.inl (by decide))
  · skip
    show gs T3 m 307 #[vi p1, vi p2, vi p3, vi p4, vi p5, vi p6, vi kk1, vr wf, vi 2, vi 1, vi 0, vr a11, vr b1, .unset] [(.ref b2), (.ref wf)]
    refine oV 0 X3 hx hZ hby hml hown (own_w hw 34 rfl) (own_w hw 35 rfl) (own_w hw 37 rfl) (own_w hw 36 rfl) (rm_enc_0_2_1 l Z a0 hw [] wf b2 tN_3 kN_3 zCS fm T3.heap n0 (Nat.le_trans (Nat.le_trans (Nat.le_trans Z0 E1.1) E2.1) Kc3.1) O3 Fw P3_0 P3_2 P3_1 P3_3 S_CS P_CS S_SF P_SF) (own_w hw 38 rfl) (own_w hw 2 rfl) rfl (Exa.ext O3.2 Ef) (by decide) own_pd13 at_307 rfl rfl rfl (fun T12 L12 v12 X12 hQ12 => ?_)
    obtain ⟨tN_12, kN_12, rfl, Nq12, Kc12, P12_0, P12_1⟩ := hQ12
    have N12 := Fr.app N3 Nq12
    have ne_a11_tN_12 : a11 ≠ tN_12 := Nat.ne_of_lt (Nat.lt_of_lt_of_le ((Arv.ext (Arv.ext R_C E1) E2).keep Kc3 (ninS ne_a11_b2 nin0)).lt P12_0)
    have ne_b1_tN_12 : b1 ≠ tN_12 := Nat.ne_of_lt (Nat.lt_of_lt_of_le ((Arv.ext R1 E2).keep Kc3 (ninS ne_b1_b2 nin0)).lt P12_0)
    have ne_b2_tN_12 : b2 ≠ tN_12 := Nat.ne_of_lt (Nat.lt_of_lt_of_le P3_0.lt P12_0)
    have ne_tN_3_tN_12 : tN_3 ≠ tN_12 := Nat.ne_of_lt (Nat.lt_of_lt_of_le P3_3.lt P12_0)
    have ge_tN_12 : n0 ≤ tN_12 := Nat.le_trans (Nat.le_trans (Nat.le_trans (Nat.le_trans Z0 E1.1) E2.1) Kc3.1) P12_0
    have O12 := O3.keep Kc12 all0
    have CH12 := CHv.keep Kc12 sf0 CH3
    show gs T12 m 310 #[vi p1, vi p2, vi p3, vi p4, vi p5, vi p6, vi kk1, vr wf, vi 2, vi 1, vi 0, vr a11, vr b1, .unset] [(.ref tN_12)]
    refine own_st (fun _ kS => XS.astore X12.here hx rfl (hb hby at_310) rfl rfl (l' := #[vi p1, vi p2, vi p3, vi p4, vi p5, vi p6, vi kk1, vr wf, vi 2, vi 1, vi 0, vr a11, vr b1, vr tN_12]) rfl kS) ?_
    refine oaload X12 hx hby at_312 rfl rfl ?_
    show gs T12 m 314 #[vi p1, vi p2, vi p3, vi p4, vi p5, vi p6, vi kk1, vr wf, vi 2, vi 1, vi 0, vr a11, vr b1, vr tN_12] [(.ref tN_12)]
    obtain ⟨cl13, Ar13, qa13, qs13, qn13, qh13, qg13⟩ := id P12_1
    refine own_st (fun _ kS => X12.arraylength hx (Ar13.1) (State.isArrayOf_alike hZ.alike Ar13.2.1) (g := (mkF m 314 #[vi p1, vi p2, vi p3, vi p4, vi p5, vi p6, vi kk1, vr wf, vi 2, vi 1, vi 0, vr a11, vr b1, vr tN_12] [(.ref tN_12)])) rfl rfl (hb hby at_314) _ kS) ?_
    rw [len_of qs13 qn13]
    show gs T12 m 315 #[vi p1, vi p2, vi p3, vi p4, vi p5, vi p6, vi kk1, vr wf, vi 2, vi 1, vi 0, vr a11, vr b1, vr tN_12] [(.int 0)]
    refine oiload X12 hx hby at_315 rfl ?_
    refine oiload X12 hx hby at_317 rfl ?_
    refine own_st (fun _ kS => XS.imul X12.here hx rfl (hb hby at_319) rfl kS) ?_
    show gs T12 m 320 #[vi p1, vi p2, vi p3, vi p4, vi p5, vi p6, vi kk1, vr wf, vi 2, vi 1, vi 0, vr a11, vr b1, vr tN_12] [(.int 0), (.int 0)]
    refine own_st (fun _ kS => XS.icmpYes X12.here hx rfl (pc0 := 320) (pc' := 325) rfl (hb hby at_320) rfl (teq (by decide : (0 : Int32) = (0 : Int32))).1 (by decide) (by decide) kS) ?_
    show gs T12 m 325 #[vi p1, vi p2, vi p3, vi p4, vi p5, vi p6, vi kk1, vr wf, vi 2, vi 1, vi 0, vr a11, vr b1, vr tN_12] []
    obtain ⟨cB, Tb, vB⟩ := own_tab2 P12_1 (fun i => ⟨_, rfl⟩)
    obtain ⟨cC, Tc, vC⟩ := own_tab2 (((Arv.ext (Arv.ext R_C E1) E2).keep Kc3 (ninS ne_a11_b2 nin0)).keep Kc12 nin0) (fun i => by match i with | 0 => exact ⟨_, rfl⟩ | 1 => exact ⟨_, rfl⟩ | 2 => exact ⟨_, rfl⟩ | 3 => exact ⟨_, rfl⟩ | _ + 4 => exact ⟨_, rfl⟩)
    exact sg_T hx hby hml hown hlk hret hZ hw (Nat.le_trans (Nat.le_trans (Nat.le_trans (Nat.le_trans Z0 E1.1) E2.1) Kc3.1) Kc12.1) hS (Nat.le_trans (Nat.le_refl _) Kc12.1) (X12.more (by decide) (by decide)) rfl N12 O12 p1 p2 p3 p4 p5 p6 kk1 wf (2 : Int32) (1 : Int32) (0 : Int32) a11 b1 tN_12 cB cC (0 : Int32) Tb Tc (Or.inl (by decide)) (Or.inl (by decide)) (Or.inl (by decide)) (Or.inl (by decide)) (Or.inl (by decide)) (Or.inl (by decide)) (Or.inl (by decide)) (Or.inl (by decide)) (Or.inl (by decide)) (Or.inl (by decide)) (Or.inl (by decide)) (Or.inl (by decide)) (Or.inl (by decide)) (Or.inl (by decide)) (Or.inl (by decide)) (Or.inl (by decide))
theorem sg_L1 {p : Program} {l : Launch} {e : Env} {s : State} {m : MethodId} {args : Array Value} {below : List Frame} {meth : Method} {c : Code} {T0 : State} {locs : List Loc} {Z : State} {a0 : Array Value} {h0 : Heap} {n0 : Nat} {vm0 : Vm} {kv0 : Nat} (hx : p.tables.exec = Jvm.exec) (hby : c.code = code) (hml : c.maxLocals = 14) (hown : (s.setVm vm0).vm.findClass "com/example/provenir/provenir/TextEncodingEncodePinLaw" = some m.cls) (hlk : meth.locks = false) (hret : meth.sig.returnType = some .boolean) (hZ : Z.Warmed39 (s.setVm vm0).vm) (hw : HW a0 Z) (Z0 : n0 ≤ h0.size) (hS : s.Since vm0 kv0) (hk0 : kv0 ≤ h0.size)
    (X0 : Stand p l e room_1 (s.setVm vm0) m args below meth c T0 locs 1 4) (e0 : T0.heap = h0) (N0 : Fr n0 locs) (O0 : Old Z n0 h0) (p1 : Int32) (p2 : Int32) (p3 : Int32) (p4 : Int32) (p5 : Int32) (p6 : Int32) (kk1 : Int32) (wf : Addr) (w : Int32) (le : Int32) (a11 : Addr) (kC : ClassId) (c0 : Int32) (c1 : Int32) (c2 : Int32) (c3 : Int32) (zCS : Int32) (fm : Value) (R_C : Arv Z h0 a11 kC .char (4 : Int32) [(.int c0), (.int c1), (.int c2), (.int c3)] (.int 0)) (g_C : n0 ≤ a11) (Ef : ek13 Z Z.heap wf) (Fw : fk10 Z Z.heap wf (.int w)) (Fl : fk11 Z Z.heap wf (.int le)) (S_CS : sk0 Z Z.heap (.int zCS)) (P_CS : ¬ zCS = 0) (S_SF : sk1 Z Z.heap fm) (P_SF : fm.isRef = true) (hC0 : ¬ ((255 : Int32) < c0)) (hC1 : ¬ ((255 : Int32) < c1)) (hC2 : ¬ ((255 : Int32) < c2)) (hC3 : ¬ ((255 : Int32) < c3)) (hn0 : nar .char c0 = c0) (hW : (w = 1 ∧ le = 0) ∨ (w = 4 ∧ le = 0) ∨ (w = 4 ∧ le = 1) ∨ (w = 2 ∧ le = 0) ∨ (w = 2 ∧ le = 1)) :
    own_G p.tables e below (own_EW s (Q_law n0) room_1.cells room_1.slots) (T0.setTop (mkF m 166 #[vi p1, vi p2, vi p3, vi p4, vi p5, vi p6, vi kk1, vr wf, vi w, vi le, vi 1, vr a11, .unset, .unset] [])) := by
  show gs T0 m 166 #[vi p1, vi p2, vi p3, vi p4, vi p5, vi p6, vi kk1, vr wf, vi w, vi le, vi 1, vr a11, .unset, .unset] []
  refine oiload X0 hx hby at_166 rfl ?_
  refine own_st (fun _ kS => XS.ifYes X0.here hx rfl (pc0 := 168) (pc' := 179) rfl (hb hby at_168) rfl ((if0 _ _).trans (feq (by decide : ¬ ((1 : Int32) = (0 : Int32)))).2) (by decide) (by decide) kS) ?_
  show gs T0 m 179 #[vi p1, vi p2, vi p3, vi p4, vi p5, vi p6, vi kk1, vr wf, vi w, vi le, vi 1, vr a11, .unset, .unset] []
  refine oiload X0 hx hby at_179 rfl ?_
  refine oiconst X0 hx hby at_181 ?_
  refine own_st (fun _ kS => XS.icmpNo X0.here hx rfl (hb hby at_182) rfl (teq (by decide : (1 : Int32) = (1 : Int32))).2 kS) ?_
  show gs T0 m 185 #[vi p1, vi p2, vi p3, vi p4, vi p5, vi p6, vi kk1, vr wf, vi w, vi le, vi 1, vr a11, .unset, .unset] []
  refine oiconst X0 hx hby at_185 ?_
  show gs T0 m 186 #[vi p1, vi p2, vi p3, vi p4, vi p5, vi p6, vi kk1, vr wf, vi w, vi le, vi 1, vr a11, .unset, .unset] [(.int 1)]
  obtain ⟨T1, h1, k1, X1, e1, E1, A1, st1⟩ := newP X0 hx hZ (own_w hw 4 rfl) e0 (g := (mkF m 186 #[vi p1, vi p2, vi p3, vi p4, vi p5, vi p6, vi kk1, vr wf, vi w, vi le, vi 1, vr a11, .unset, .unset] [(.int 1)])) rfl (hb hby at_186) rfl (by decide) (cap := 1) (by decide) (by decide) (by decide) (by decide)
  obtain ⟨b1, g1⟩ : ∃ z, z = h0.size := ⟨_, rfl⟩
  have ne_a11_b1 : a11 ≠ b1 := Nat.ne_of_lt (Nat.lt_of_lt_of_eq R_C.lt g1.symm)
  have ge_b1 : n0 ≤ b1 := Nat.le_trans Z0 (Nat.le_of_eq g1.symm)
  rw [← g1] at A1 st1
  have O1 := O0.ext E1
  have R1 : Arv Z h1 b1 k1 .char (1 : Int32) [(.int 0)] (.int 0) := (Arv.new A1 (by decide)).pad (pad_rep [] (.int 0) 1)
  refine own_st st1 ?_
  show gs T1 m 188 #[vi p1, vi p2, vi p3, vi p4, vi p5, vi p6, vi kk1, vr wf, vi w, vi le, vi 1, vr a11, .unset, .unset] [(.ref b1)]
  refine own_st (fun _ kS => XS.dup X1.here hx rfl (hb hby at_188) rfl rfl kS) ?_
  refine oiconst X1 hx hby at_189 ?_
  refine oaload X1 hx hby at_190 rfl rfl ?_
  refine oiconst X1 hx hby at_192 ?_
  show gs T1 m 193 #[vi p1, vi p2, vi p3, vi p4, vi p5, vi p6, vi kk1, vr wf, vi w, vi le, vi 1, vr a11, .unset, .unset] [(.int 0), (.ref a11), (.int 0), (.ref b1), (.ref b1)]
  obtain ⟨cl2, Ar2, qa2, qs2, qn2, qh2, qg2⟩ := id (Arv.ext R_C E1)
  refine own_st (fun _ kS => X1.caload hx (j := (0 : Int32)) (v := (.int c0)) (by rw [e1]; exact Ar2.1) (State.isArrayOf_alike hZ.alike Ar2.2.1) Ar2.2.2 (inb_of qs2 ⟨by decide, by decide⟩) (qh2.at (inb_of qs2 ⟨by decide, by decide⟩) rfl) (g := (mkF m 193 #[vi p1, vi p2, vi p3, vi p4, vi p5, vi p6, vi kk1, vr wf, vi w, vi le, vi 1, vr a11, .unset, .unset] [(.int 0), (.ref a11), (.int 0), (.ref b1), (.ref b1)])) rfl rfl (hb hby at_193) _ kS) ?_
  show gs T1 m 194 #[vi p1, vi p2, vi p3, vi p4, vi p5, vi p6, vi kk1, vr wf, vi w, vi le, vi 1, vr a11, .unset, .unset] [(.int c0), (.int 0), (.ref b1), (.ref b1)]
  obtain ⟨cl3, Ar3, qa3, qs3, qn3, qh3, qg3⟩ := id R1
  obtain ⟨T3, h3, X3, e3, W3, st3⟩ := stC X1 hx hZ e1 Ar3 (j := (0 : Int32)) (inb_of qs3 ⟨by decide, by decide⟩) (g := (mkF m 194 #[vi p1, vi p2, vi p3, vi p4, vi p5, vi p6, vi kk1, vr wf, vi w, vi le, vi 1, vr a11, .unset, .unset] [(.int c0), (.int 0), (.ref b1), (.ref b1)])) rfl rfl (hb hby at_194)
  have N3 := Fr.snoc X3 N0 ge_b1
  have O3 := O1.wr W3 ge_b1
  have R3 : Arv Z h3 b1 k1 .char (1 : Int32) [(.int (nar .char c0))] (.int 0) := Arv.set Ar3 qa3 qs3 qn3 qh3 qg3 (fits_nar_char _) W3 0 rfl (Nat.le_of_ble_eq_true rfl)
  refine own_st st3 ?_
  show gs T3 m 195 #[vi p1, vi p2, vi p3, vi p4, vi p5, vi p6, vi kk1, vr wf, vi w, vi le, vi 1, vr a11, .unset, .unset] [(.ref b1)]
  refine own_st (fun _ kS => XS.astore X3.here hx rfl (hb hby at_195) rfl rfl (l' := #[vi p1, vi p2, vi p3, vi p4, vi p5, vi p6, vi kk1, vr wf, vi w, vi le, vi 1, vr a11, vr b1, .unset]) rfl kS) ?_
  refine own_st (fun _ kS => XS.goto X3.here hx rfl (pc0 := 197) (pc' := 296) rfl (hb hby at_197) (by decide) (by decide) kS) ?_
  show gs T3 m 296 #[vi p1, vi p2, vi p3, vi p4, vi p5, vi p6, vi kk1, vr wf, vi w, vi le, vi 1, vr a11, vr b1, .unset] []
  have RP : Arv Z h3 b1 k1 .char (1 : Int32) [(.int c0)] (.int 0) := by
    have z := R3
    rw [hn0] at z
    exact z
  refine oaload X3 hx hby at_296 rfl rfl ?_
  show gs T3 m 298 #[vi p1, vi p2, vi p3, vi p4, vi p5, vi p6, vi kk1, vr wf, vi w, vi le, vi 1, vr a11, vr b1, .unset] [(.ref wf)]
  obtain ⟨T4, h4, X4, e4, E4, A4, D4, -, st4⟩ := newO X3 hx hZ hown (own_w hw 5 rfl) (own_w hw 6 rfl) (own_w hw 7 rfl) e3 (g := (mkF m 298 #[vi p1, vi p2, vi p3, vi p4, vi p5, vi p6, vi kk1, vr wf, vi w, vi le, vi 1, vr a11, vr b1, .unset] [(.ref wf)])) rfl (hb hby at_298) (by decide) (by decide)
  obtain ⟨b4, g4⟩ : ∃ z, z = h3.size := ⟨_, rfl⟩
  have ne_a11_b4 : a11 ≠ b4 := Nat.ne_of_lt (Nat.lt_of_lt_of_eq ((Arv.ext R_C E1).other W3 ne_a11_b1).lt g4.symm)
  have ne_b1_b4 : b1 ≠ b4 := Nat.ne_of_lt (Nat.lt_of_lt_of_eq RP.lt g4.symm)
  have ge_b4 : n0 ≤ b4 := Nat.le_trans (Nat.le_trans (Nat.le_trans Z0 E1.1) (Keep.of_wr W3).1) (Nat.le_of_eq g4.symm)
  rw [← g4] at A4 D4 st4
  have O4 := O3.ext E4
  have F4_coder : fk8 Z h4 b4 (.int 0) := D4 (Or.inr (own_w hw 31 rfl)) (ty := .byte) (by decide)
  have F4_value : fk9 Z h4 b4 .null := D4 (Or.inr (own_w hw 33 rfl)) (ty := (.array .byte)) (by decide)
  refine own_st st4 ?_
  show gs T4 m 301 #[vi p1, vi p2, vi p3, vi p4, vi p5, vi p6, vi kk1, vr wf, vi w, vi le, vi 1, vr a11, vr b1, .unset] [(.ref b4), (.ref wf)]
  refine own_st (fun _ kS => XS.dup X4.here hx rfl (hb hby at_301) rfl rfl kS) ?_
  refine oaload X4 hx hby at_302 rfl rfl ?_
  refine oN 2 X4 hx hZ hby hml hown (own_w hw 8 rfl) (own_w hw 9 rfl) (own_w hw 7 rfl) (own_w hw 10 rfl) (rm_init1_1 l Z a0 hw [] b4 b1 k1 c0 zCS h4 n0 (Nat.le_trans (Nat.le_trans (Nat.le_trans Z0 E1.1) (Keep.of_wr W3).1) E4.1) O4 A4 ge_b4 F4_value F4_coder (Ne.symm ne_b1_b4) (Arv.ext RP E4) hC0 S_CS P_CS) e4 rfl (by decide) own_pd12 at_304 rfl rfl rfl (fun T5 L5 v5 X5 hQ5 => ?_)
  obtain ⟨tN_5, kN_5, rfl, Nq5, Kc5, P5_0, P5_1, P5_2, P5_3⟩ := hQ5
  have N5 := Fr.app N3 Nq5
  have O5 := O4.keep Kc5 (allS ge_b4 all0)
  show gs T5 m 307 #[vi p1, vi p2, vi p3, vi p4, vi p5, vi p6, vi kk1, vr wf, vi w, vi le, vi 1, vr a11, vr b1, .unset] [(.ref b4), (.ref wf)]
  rcases hW with ⟨rfl, rfl⟩ | ⟨rfl, rfl⟩ | ⟨rfl, rfl⟩ | ⟨rfl, rfl⟩ | ⟨rfl, rfl⟩
  · skip
    show gs T5 m 307 #[vi p1, vi p2, vi p3, vi p4, vi p5, vi p6, vi kk1, vr wf, vi 1, vi 0, vi 1, vr a11, vr b1, .unset] [(.ref b4), (.ref wf)]
    refine oV 0 X5 hx hZ hby hml hown (own_w hw 34 rfl) (own_w hw 35 rfl) (own_w hw 37 rfl) (own_w hw 36 rfl) (rm_enc_1_1_0 l Z a0 hw [] wf b4 tN_5 kN_5 (nar .byte (c0.toInt8.toInt32)) zCS fm T5.heap n0 (Nat.le_trans (Nat.le_trans (Nat.le_trans (Nat.le_trans Z0 E1.1) (Keep.of_wr W3).1) E4.1) Kc5.1) O5 Fw Fl P5_0 P5_2 P5_1 P5_3 S_CS P_CS S_SF P_SF) (own_w hw 38 rfl) (own_w hw 2 rfl) rfl (Exa.ext O5.2 Ef) (by decide) own_pd13 at_307 rfl rfl rfl (fun T6 L6 v6 X6 hQ6 => ?_)
    obtain ⟨tN_6, kN_6, rfl, Nq6, Kc6, P6_0, P6_1⟩ := hQ6
    have N6 := Fr.app N5 Nq6
    have ne_a11_tN_6 : a11 ≠ tN_6 := Nat.ne_of_lt (Nat.lt_of_lt_of_le ((Arv.ext ((Arv.ext R_C E1).other W3 ne_a11_b1) E4).keep Kc5 (ninS ne_a11_b4 nin0)).lt P6_0)
    have ne_b1_tN_6 : b1 ≠ tN_6 := Nat.ne_of_lt (Nat.lt_of_lt_of_le ((Arv.ext RP E4).keep Kc5 (ninS ne_b1_b4 nin0)).lt P6_0)
    have ne_b4_tN_6 : b4 ≠ tN_6 := Nat.ne_of_lt (Nat.lt_of_lt_of_le P5_0.lt P6_0)
    have ne_tN_5_tN_6 : tN_5 ≠ tN_6 := Nat.ne_of_lt (Nat.lt_of_lt_of_le P5_3.lt P6_0)
    have ge_tN_6 : n0 ≤ tN_6 := Nat.le_trans (Nat.le_trans (Nat.le_trans (Nat.le_trans (Nat.le_trans Z0 E1.1) (Keep.of_wr W3).1) E4.1) Kc5.1) P6_0
    have O6 := O5.keep Kc6 all0
    show gs T6 m 310 #[vi p1, vi p2, vi p3, vi p4, vi p5, vi p6, vi kk1, vr wf, vi 1, vi 0, vi 1, vr a11, vr b1, .unset] [(.ref tN_6)]
    refine own_st (fun _ kS => XS.astore X6.here hx rfl (hb hby at_310) rfl rfl (l' := #[vi p1, vi p2, vi p3, vi p4, vi p5, vi p6, vi kk1, vr wf, vi 1, vi 0, vi 1, vr a11, vr b1, vr tN_6]) rfl kS) ?_
    refine oaload X6 hx hby at_312 rfl rfl ?_
    show gs T6 m 314 #[vi p1, vi p2, vi p3, vi p4, vi p5, vi p6, vi kk1, vr wf, vi 1, vi 0, vi 1, vr a11, vr b1, vr tN_6] [(.ref tN_6)]
    obtain ⟨cl7, Ar7, qa7, qs7, qn7, qh7, qg7⟩ := id P6_1
    refine own_st (fun _ kS => X6.arraylength hx (Ar7.1) (State.isArrayOf_alike hZ.alike Ar7.2.1) (g := (mkF m 314 #[vi p1, vi p2, vi p3, vi p4, vi p5, vi p6, vi kk1, vr wf, vi 1, vi 0, vi 1, vr a11, vr b1, vr tN_6] [(.ref tN_6)])) rfl rfl (hb hby at_314) _ kS) ?_
    rw [len_of qs7 qn7]
    show gs T6 m 315 #[vi p1, vi p2, vi p3, vi p4, vi p5, vi p6, vi kk1, vr wf, vi 1, vi 0, vi 1, vr a11, vr b1, vr tN_6] [(.int 1)]
    refine oiload X6 hx hby at_315 rfl ?_
    refine oiload X6 hx hby at_317 rfl ?_
    refine own_st (fun _ kS => XS.imul X6.here hx rfl (hb hby at_319) rfl kS) ?_
    show gs T6 m 320 #[vi p1, vi p2, vi p3, vi p4, vi p5, vi p6, vi kk1, vr wf, vi 1, vi 0, vi 1, vr a11, vr b1, vr tN_6] [(.int 1), (.int 1)]
    refine own_st (fun _ kS => XS.icmpYes X6.here hx rfl (pc0 := 320) (pc' := 325) rfl (hb hby at_320) rfl (teq (by decide : (1 : Int32) = (1 : Int32))).1 (by decide) (by decide) kS) ?_
    show gs T6 m 325 #[vi p1, vi p2, vi p3, vi p4, vi p5, vi p6, vi kk1, vr wf, vi 1, vi 0, vi 1, vr a11, vr b1, vr tN_6] []
    obtain ⟨cB, Tb, vB⟩ := own_tab2 P6_1 (fun i => by match i with | 0 => exact ⟨_, rfl⟩ | _ + 1 => exact ⟨_, rfl⟩)
    obtain ⟨cC, Tc, vC⟩ := own_tab2 (((Arv.ext ((Arv.ext R_C E1).other W3 ne_a11_b1) E4).keep Kc5 (ninS ne_a11_b4 nin0)).keep Kc6 nin0) (fun i => by match i with | 0 => exact ⟨_, rfl⟩ | 1 => exact ⟨_, rfl⟩ | 2 => exact ⟨_, rfl⟩ | 3 => exact ⟨_, rfl⟩ | _ + 4 => exact ⟨_, rfl⟩)
    have hA0 : own_at 1 0 0 1 cB cC := Or.inr ⟨by decide, by decide, by decide, Or.inr (Or.inr (Or.inl ⟨rfl, by decide, by decide, (vB 0 _ (by decide) rfl).trans ((own_enc c0).trans (congrArg (fun z => z.toInt8.toInt32) ((congrArg (atv cC) (by decide : (0 : Int32) / 1 = 0)).trans (vC 0 _ (by decide) rfl)).symm))⟩))⟩
    exact sg_T hx hby hml hown hlk hret hZ hw (Nat.le_trans (Nat.le_trans (Nat.le_trans (Nat.le_trans (Nat.le_trans Z0 E1.1) (Keep.of_wr W3).1) E4.1) Kc5.1) Kc6.1) hS (Nat.le_trans (Nat.le_trans (Nat.le_trans (Nat.le_trans (Nat.le_trans hk0 E1.1) (Keep.of_wr W3).1) E4.1) Kc5.1) Kc6.1) (X6.more (by decide) (by decide)) rfl N6 O6 p1 p2 p3 p4 p5 p6 kk1 wf (1 : Int32) (0 : Int32) (1 : Int32) a11 b1 tN_6 cB cC (1 : Int32) Tb Tc hA0 (Or.inl (by decide)) (Or.inl (by decide)) (Or.inl (by decide)) (Or.inl (by decide)) (Or.inl (by decide)) (Or.inl (by decide)) (Or.inl (by decide)) (Or.inl (by decide)) (Or.inl (by decide)) (Or.inl (by decide)) (Or.inl (by decide)) (Or.inl (by decide)) (Or.inl (by decide)) (Or.inl (by decide)) (Or.inl (by decide))
  · skip
    show gs T5 m 307 #[vi p1, vi p2, vi p3, vi p4, vi p5, vi p6, vi kk1, vr wf, vi 4, vi 0, vi 1, vr a11, vr b1, .unset] [(.ref b4), (.ref wf)]
    refine oV 0 X5 hx hZ hby hml hown (own_w hw 34 rfl) (own_w hw 35 rfl) (own_w hw 37 rfl) (own_w hw 36 rfl) (rm_enc_1_4_0 l Z a0 hw [] wf b4 tN_5 kN_5 (nar .byte (c0.toInt8.toInt32)) zCS fm T5.heap n0 (Nat.le_trans (Nat.le_trans (Nat.le_trans (Nat.le_trans Z0 E1.1) (Keep.of_wr W3).1) E4.1) Kc5.1) O5 Fw Fl P5_0 P5_2 P5_1 P5_3 S_CS P_CS S_SF P_SF) (own_w hw 38 rfl) (own_w hw 2 rfl) rfl (Exa.ext O5.2 Ef) (by decide) own_pd13 at_307 rfl rfl rfl (fun T8 L8 v8 X8 hQ8 => ?_)
    obtain ⟨tN_8, kN_8, rfl, Nq8, Kc8, P8_0, P8_1⟩ := hQ8
    have N8 := Fr.app N5 Nq8
    have ne_a11_tN_8 : a11 ≠ tN_8 := Nat.ne_of_lt (Nat.lt_of_lt_of_le ((Arv.ext ((Arv.ext R_C E1).other W3 ne_a11_b1) E4).keep Kc5 (ninS ne_a11_b4 nin0)).lt P8_0)
    have ne_b1_tN_8 : b1 ≠ tN_8 := Nat.ne_of_lt (Nat.lt_of_lt_of_le ((Arv.ext RP E4).keep Kc5 (ninS ne_b1_b4 nin0)).lt P8_0)
    have ne_b4_tN_8 : b4 ≠ tN_8 := Nat.ne_of_lt (Nat.lt_of_lt_of_le P5_0.lt P8_0)
    have ne_tN_5_tN_8 : tN_5 ≠ tN_8 := Nat.ne_of_lt (Nat.lt_of_lt_of_le P5_3.lt P8_0)
    have ge_tN_8 : n0 ≤ tN_8 := Nat.le_trans (Nat.le_trans (Nat.le_trans (Nat.le_trans (Nat.le_trans Z0 E1.1) (Keep.of_wr W3).1) E4.1) Kc5.1) P8_0
    have O8 := O5.keep Kc8 all0
    show gs T8 m 310 #[vi p1, vi p2, vi p3, vi p4, vi p5, vi p6, vi kk1, vr wf, vi 4, vi 0, vi 1, vr a11, vr b1, .unset] [(.ref tN_8)]
    refine own_st (fun _ kS => XS.astore X8.here hx rfl (hb hby at_310) rfl rfl (l' := #[vi p1, vi p2, vi p3, vi p4, vi p5, vi p6, vi kk1, vr wf, vi 4, vi 0, vi 1, vr a11, vr b1, vr tN_8]) rfl kS) ?_
    refine oaload X8 hx hby at_312 rfl rfl ?_
    show gs T8 m 314 #[vi p1, vi p2, vi p3, vi p4, vi p5, vi p6, vi kk1, vr wf, vi 4, vi 0, vi 1, vr a11, vr b1, vr tN_8] [(.ref tN_8)]
    obtain ⟨cl9, Ar9, qa9, qs9, qn9, qh9, qg9⟩ := id P8_1
    refine own_st (fun _ kS => X8.arraylength hx (Ar9.1) (State.isArrayOf_alike hZ.alike Ar9.2.1) (g := (mkF m 314 #[vi p1, vi p2, vi p3, vi p4, vi p5, vi p6, vi kk1, vr wf, vi 4, vi 0, vi 1, vr a11, vr b1, vr tN_8] [(.ref tN_8)])) rfl rfl (hb hby at_314) _ kS) ?_
    rw [len_of qs9 qn9]
    show gs T8 m 315 #[vi p1, vi p2, vi p3, vi p4, vi p5, vi p6, vi kk1, vr wf, vi 4, vi 0, vi 1, vr a11, vr b1, vr tN_8] [(.int 4)]
    refine oiload X8 hx hby at_315 rfl ?_
    refine oiload X8 hx hby at_317 rfl ?_
    refine own_st (fun _ kS => XS.imul X8.here hx rfl (hb hby at_319) rfl kS) ?_
    show gs T8 m 320 #[vi p1, vi p2, vi p3, vi p4, vi p5, vi p6, vi kk1, vr wf, vi 4, vi 0, vi 1, vr a11, vr b1, vr tN_8] [(.int 4), (.int 4)]
    refine own_st (fun _ kS => XS.icmpYes X8.here hx rfl (pc0 := 320) (pc' := 325) rfl (hb hby at_320) rfl (teq (by decide : (4 : Int32) = (4 : Int32))).1 (by decide) (by decide) kS) ?_
    show gs T8 m 325 #[vi p1, vi p2, vi p3, vi p4, vi p5, vi p6, vi kk1, vr wf, vi 4, vi 0, vi 1, vr a11, vr b1, vr tN_8] []
    obtain ⟨cB, Tb, vB⟩ := own_tab2 P8_1 (fun i => by match i with | 0 => exact ⟨_, rfl⟩ | 1 => exact ⟨_, rfl⟩ | 2 => exact ⟨_, rfl⟩ | 3 => exact ⟨_, rfl⟩ | _ + 4 => exact ⟨_, rfl⟩)
    obtain ⟨cC, Tc, vC⟩ := own_tab2 (((Arv.ext ((Arv.ext R_C E1).other W3 ne_a11_b1) E4).keep Kc5 (ninS ne_a11_b4 nin0)).keep Kc8 nin0) (fun i => by match i with | 0 => exact ⟨_, rfl⟩ | 1 => exact ⟨_, rfl⟩ | 2 => exact ⟨_, rfl⟩ | 3 => exact ⟨_, rfl⟩ | _ + 4 => exact ⟨_, rfl⟩)
    have hA0 : own_at 4 0 0 4 cB cC := Or.inr ⟨by decide, by decide, by decide, Or.inr (Or.inr (Or.inr ⟨rfl, by decide, vB 0 _ (by decide) rfl⟩))⟩
    have hA1 : own_at 4 0 1 4 cB cC := Or.inr ⟨by decide, by decide, by decide, Or.inr (Or.inr (Or.inr ⟨rfl, by decide, vB 1 _ (by decide) rfl⟩))⟩
    have hA2 : own_at 4 0 2 4 cB cC := Or.inr ⟨by decide, by decide, by decide, Or.inr (Or.inr (Or.inr ⟨rfl, by decide, vB 2 _ (by decide) rfl⟩))⟩
    have hA3 : own_at 4 0 3 4 cB cC := Or.inr ⟨by decide, by decide, by decide, Or.inr (Or.inr (Or.inl ⟨rfl, by decide, by decide, (vB 3 _ (by decide) rfl).trans ((own_enc c0).trans (congrArg (fun z => z.toInt8.toInt32) ((congrArg (atv cC) (by decide : (3 : Int32) / 4 = 0)).trans (vC 0 _ (by decide) rfl)).symm))⟩))⟩
    exact sg_T hx hby hml hown hlk hret hZ hw (Nat.le_trans (Nat.le_trans (Nat.le_trans (Nat.le_trans (Nat.le_trans Z0 E1.1) (Keep.of_wr W3).1) E4.1) Kc5.1) Kc8.1) hS (Nat.le_trans (Nat.le_trans (Nat.le_trans (Nat.le_trans (Nat.le_trans hk0 E1.1) (Keep.of_wr W3).1) E4.1) Kc5.1) Kc8.1) (X8.more (by decide) (by decide)) rfl N8 O8 p1 p2 p3 p4 p5 p6 kk1 wf (4 : Int32) (0 : Int32) (1 : Int32) a11 b1 tN_8 cB cC (4 : Int32) Tb Tc hA0 hA1 hA2 hA3 (Or.inl (by decide)) (Or.inl (by decide)) (Or.inl (by decide)) (Or.inl (by decide)) (Or.inl (by decide)) (Or.inl (by decide)) (Or.inl (by decide)) (Or.inl (by decide)) (Or.inl (by decide)) (Or.inl (by decide)) (Or.inl (by decide)) (Or.inl (by decide))
  · skip
    show gs T5 m 307 #[vi p1, vi p2, vi p3, vi p4, vi p5, vi p6, vi kk1, vr wf, vi 4, vi 1, vi 1, vr a11, vr b1, .unset] [(.ref b4), (.ref wf)]
    refine oV 0 X5 hx hZ hby hml hown (own_w hw 34 rfl) (own_w hw 35 rfl) (own_w hw 37 rfl) (own_w hw 36 rfl) (rm_enc_1_4_1 l Z a0 hw [] wf b4 tN_5 kN_5 (nar .byte (c0.toInt8.toInt32)) zCS fm T5.heap n0 (Nat.le_trans (Nat.le_trans (Nat.le_trans (Nat.le_trans Z0 E1.1) (Keep.of_wr W3).1) E4.1) Kc5.1) O5 Fw Fl P5_0 P5_2 P5_1 P5_3 S_CS P_CS S_SF P_SF) (own_w hw 38 rfl) (own_w hw 2 rfl) rfl (Exa.ext O5.2 Ef) (by decide) own_pd13 at_307 rfl rfl rfl (fun T10 L10 v10 X10 hQ10 => ?_)
    obtain ⟨tN_10, kN_10, rfl, Nq10, Kc10, P10_0, P10_1⟩ := hQ10
    have N10 := Fr.app N5 Nq10
    have ne_a11_tN_10 : a11 ≠ tN_10 := Nat.ne_of_lt (Nat.lt_of_lt_of_le ((Arv.ext ((Arv.ext R_C E1).other W3 ne_a11_b1) E4).keep Kc5 (ninS ne_a11_b4 nin0)).lt P10_0)
    have ne_b1_tN_10 : b1 ≠ tN_10 := Nat.ne_of_lt (Nat.lt_of_lt_of_le ((Arv.ext RP E4).keep Kc5 (ninS ne_b1_b4 nin0)).lt P10_0)
    have ne_b4_tN_10 : b4 ≠ tN_10 := Nat.ne_of_lt (Nat.lt_of_lt_of_le P5_0.lt P10_0)
    have ne_tN_5_tN_10 : tN_5 ≠ tN_10 := Nat.ne_of_lt (Nat.lt_of_lt_of_le P5_3.lt P10_0)
    have ge_tN_10 : n0 ≤ tN_10 := Nat.le_trans (Nat.le_trans (Nat.le_trans (Nat.le_trans (Nat.le_trans Z0 E1.1) (Keep.of_wr W3).1) E4.1) Kc5.1) P10_0
    have O10 := O5.keep Kc10 all0
    show gs T10 m 310 #[vi p1, vi p2, vi p3, vi p4, vi p5, vi p6, vi kk1, vr wf, vi 4, vi 1, vi 1, vr a11, vr b1, .unset] [(.ref tN_10)]
    refine own_st (fun _ kS => XS.astore X10.here hx rfl (hb hby at_310) rfl rfl (l' := #[vi p1, vi p2, vi p3, vi p4, vi p5, vi p6, vi kk1, vr wf, vi 4, vi 1, vi 1, vr a11, vr b1, vr tN_10]) rfl kS) ?_
    refine oaload X10 hx hby at_312 rfl rfl ?_
    show gs T10 m 314 #[vi p1, vi p2, vi p3, vi p4, vi p5, vi p6, vi kk1, vr wf, vi 4, vi 1, vi 1, vr a11, vr b1, vr tN_10] [(.ref tN_10)]
    obtain ⟨cl11, Ar11, qa11, qs11, qn11, qh11, qg11⟩ := id P10_1
    refine own_st (fun _ kS => X10.arraylength hx (Ar11.1) (State.isArrayOf_alike hZ.alike Ar11.2.1) (g := (mkF m 314 #[vi p1, vi p2, vi p3, vi p4, vi p5, vi p6, vi kk1, vr wf, vi 4, vi 1, vi 1, vr a11, vr b1, vr tN_10] [(.ref tN_10)])) rfl rfl (hb hby at_314) _ kS) ?_
    rw [len_of qs11 qn11]
    show gs T10 m 315 #[vi p1, vi p2, vi p3, vi p4, vi p5, vi p6, vi kk1, vr wf, vi 4, vi 1, vi 1, vr a11, vr b1, vr tN_10] [(.int 4)]
    refine oiload X10 hx hby at_315 rfl ?_
    refine oiload X10 hx hby at_317 rfl ?_
    refine own_st (fun _ kS => XS.imul X10.here hx rfl (hb hby at_319) rfl kS) ?_
    show gs T10 m 320 #[vi p1, vi p2, vi p3, vi p4, vi p5, vi p6, vi kk1, vr wf, vi 4, vi 1, vi 1, vr a11, vr b1, vr tN_10] [(.int 4), (.int 4)]
    refine own_st (fun _ kS => XS.icmpYes X10.here hx rfl (pc0 := 320) (pc' := 325) rfl (hb hby at_320) rfl (teq (by decide : (4 : Int32) = (4 : Int32))).1 (by decide) (by decide) kS) ?_
    show gs T10 m 325 #[vi p1, vi p2, vi p3, vi p4, vi p5, vi p6, vi kk1, vr wf, vi 4, vi 1, vi 1, vr a11, vr b1, vr tN_10] []
    obtain ⟨cB, Tb, vB⟩ := own_tab2 P10_1 (fun i => by match i with | 0 => exact ⟨_, rfl⟩ | 1 => exact ⟨_, rfl⟩ | 2 => exact ⟨_, rfl⟩ | 3 => exact ⟨_, rfl⟩ | _ + 4 => exact ⟨_, rfl⟩)
    obtain ⟨cC, Tc, vC⟩ := own_tab2 (((Arv.ext ((Arv.ext R_C E1).other W3 ne_a11_b1) E4).keep Kc5 (ninS ne_a11_b4 nin0)).keep Kc10 nin0) (fun i => by match i with | 0 => exact ⟨_, rfl⟩ | 1 => exact ⟨_, rfl⟩ | 2 => exact ⟨_, rfl⟩ | 3 => exact ⟨_, rfl⟩ | _ + 4 => exact ⟨_, rfl⟩)
    have hA0 : own_at 4 1 0 4 cB cC := Or.inr ⟨by decide, by decide, by decide, Or.inl ⟨rfl, by decide, by decide, (vB 0 _ (by decide) rfl).trans ((own_enc c0).trans (congrArg (fun z => z.toInt8.toInt32) ((congrArg (atv cC) (by decide : (0 : Int32) / 4 = 0)).trans (vC 0 _ (by decide) rfl)).symm))⟩⟩
    have hA1 : own_at 4 1 1 4 cB cC := Or.inr ⟨by decide, by decide, by decide, Or.inr (Or.inl ⟨rfl, by decide, vB 1 _ (by decide) rfl⟩)⟩
    have hA2 : own_at 4 1 2 4 cB cC := Or.inr ⟨by decide, by decide, by decide, Or.inr (Or.inl ⟨rfl, by decide, vB 2 _ (by decide) rfl⟩)⟩
    have hA3 : own_at 4 1 3 4 cB cC := Or.inr ⟨by decide, by decide, by decide, Or.inr (Or.inl ⟨rfl, by decide, vB 3 _ (by decide) rfl⟩)⟩
    exact sg_T hx hby hml hown hlk hret hZ hw (Nat.le_trans (Nat.le_trans (Nat.le_trans (Nat.le_trans (Nat.le_trans Z0 E1.1) (Keep.of_wr W3).1) E4.1) Kc5.1) Kc10.1) hS (Nat.le_trans (Nat.le_trans (Nat.le_trans (Nat.le_trans (Nat.le_trans hk0 E1.1) (Keep.of_wr W3).1) E4.1) Kc5.1) Kc10.1) (X10.more (by decide) (by decide)) rfl N10 O10 p1 p2 p3 p4 p5 p6 kk1 wf (4 : Int32) (1 : Int32) (1 : Int32) a11 b1 tN_10 cB cC (4 : Int32) Tb Tc hA0 hA1 hA2 hA3 (Or.inl (by decide)) (Or.inl (by decide)) (Or.inl (by decide)) (Or.inl (by decide)) (Or.inl (by decide)) (Or.inl (by decide)) (Or.inl (by decide)) (Or.inl (by decide)) (Or.inl (by decide)) (Or.inl (by decide)) (Or.inl (by decide)) (Or.inl (by decide))
  · skip
    show gs T5 m 307 #[vi p1, vi p2, vi p3, vi p4, vi p5, vi p6, vi kk1, vr wf, vi 2, vi 0, vi 1, vr a11, vr b1, .unset] [(.ref b4), (.ref wf)]
    refine oV 0 X5 hx hZ hby hml hown (own_w hw 34 rfl) (own_w hw 35 rfl) (own_w hw 37 rfl) (own_w hw 36 rfl) (rm_enc_1_2_0 l Z a0 hw [] wf b4 tN_5 kN_5 (nar .byte (c0.toInt8.toInt32)) zCS fm T5.heap n0 (Nat.le_trans (Nat.le_trans (Nat.le_trans (Nat.le_trans Z0 E1.1) (Keep.of_wr W3).1) E4.1) Kc5.1) O5 Fw Fl P5_0 P5_2 P5_1 P5_3 S_CS P_CS S_SF P_SF) (own_w hw 38 rfl) (own_w hw 2 rfl) rfl (Exa.ext O5.2 Ef) (by decide) own_pd13 at_307 rfl rfl rfl (fun T12 L12 v12 X12 hQ12 => ?_)
    obtain ⟨tN_12, kN_12, rfl, Nq12, Kc12, P12_0, P12_1⟩ := hQ12
    have N12 := Fr.app N5 Nq12
    have ne_a11_tN_12 : a11 ≠ tN_12 := Nat.ne_of_lt (Nat.lt_of_lt_of_le ((Arv.ext ((Arv.ext R_C E1).other W3 ne_a11_b1) E4).keep Kc5 (ninS ne_a11_b4 nin0)).lt P12_0)
    have ne_b1_tN_12 : b1 ≠ tN_12 := Nat.ne_of_lt (Nat.lt_of_lt_of_le ((Arv.ext RP E4).keep Kc5 (ninS ne_b1_b4 nin0)).lt P12_0)
    have ne_b4_tN_12 : b4 ≠ tN_12 := Nat.ne_of_lt (Nat.lt_of_lt_of_le P5_0.lt P12_0)
    have ne_tN_5_tN_12 : tN_5 ≠ tN_12 := Nat.ne_of_lt (Nat.lt_of_lt_of_le P5_3.lt P12_0)
    have ge_tN_12 : n0 ≤ tN_12 := Nat.le_trans (Nat.le_trans (Nat.le_trans (Nat.le_trans (Nat.le_trans Z0 E1.1) (Keep.of_wr W3).1) E4.1) Kc5.1) P12_0
    have O12 := O5.keep Kc12 all0
    show gs T12 m 310 #[vi p1, vi p2, vi p3, vi p4, vi p5, vi p6, vi kk1, vr wf, vi 2, vi 0, vi 1, vr a11, vr b1, .unset] [(.ref tN_12)]
    refine own_st (fun _ kS => XS.astore X12.here hx rfl (hb hby at_310) rfl rfl (l' := #[vi p1, vi p2, vi p3, vi p4, vi p5, vi p6, vi kk1, vr wf, vi 2, vi 0, vi 1, vr a11, vr b1, vr tN_12]) rfl kS) ?_
    refine oaload X12 hx hby at_312 rfl rfl ?_
    show gs T12 m 314 #[vi p1, vi p2, vi p3, vi p4, vi p5, vi p6, vi kk1, vr wf, vi 2, vi 0, vi 1, vr a11, vr b1, vr tN_12] [(.ref tN_12)]
    obtain ⟨cl13, Ar13, qa13, qs13, qn13, qh13, qg13⟩ := id P12_1
    refine own_st (fun _ kS => X12.arraylength hx (Ar13.1) (State.isArrayOf_alike hZ.alike Ar13.2.1) (g := (mkF m 314 #[vi p1, vi p2, vi p3, vi p4, vi p5, vi p6, vi kk1, vr wf, vi 2, vi 0, vi 1, vr a11, vr b1, vr tN_12] [(.ref tN_12)])) rfl rfl (hb hby at_314) _ kS) ?_
    rw [len_of qs13 qn13]
    show gs T12 m 315 #[vi p1, vi p2, vi p3, vi p4, vi p5, vi p6, vi kk1, vr wf, vi 2, vi 0, vi 1, vr a11, vr b1, vr tN_12] [(.int 2)]
    refine oiload X12 hx hby at_315 rfl ?_
    refine oiload X12 hx hby at_317 rfl ?_
    refine own_st (fun _ kS => XS.imul X12.here hx rfl (hb hby at_319) rfl kS) ?_
    show gs T12 m 320 #[vi p1, vi p2, vi p3, vi p4, vi p5, vi p6, vi kk1, vr wf, vi 2, vi 0, vi 1, vr a11, vr b1, vr tN_12] [(.int 2), (.int 2)]
    refine own_st (fun _ kS => XS.icmpYes X12.here hx rfl (pc0 := 320) (pc' := 325) rfl (hb hby at_320) rfl (teq (by decide : (2 : Int32) = (2 : Int32))).1 (by decide) (by decide) kS) ?_
    show gs T12 m 325 #[vi p1, vi p2, vi p3, vi p4, vi p5, vi p6, vi kk1, vr wf, vi 2, vi 0, vi 1, vr a11, vr b1, vr tN_12] []
    obtain ⟨cB, Tb, vB⟩ := own_tab2 P12_1 (fun i => by match i with | 0 => exact ⟨_, rfl⟩ | 1 => exact ⟨_, rfl⟩ | _ + 2 => exact ⟨_, rfl⟩)
    obtain ⟨cC, Tc, vC⟩ := own_tab2 (((Arv.ext ((Arv.ext R_C E1).other W3 ne_a11_b1) E4).keep Kc5 (ninS ne_a11_b4 nin0)).keep Kc12 nin0) (fun i => by match i with | 0 => exact ⟨_, rfl⟩ | 1 => exact ⟨_, rfl⟩ | 2 => exact ⟨_, rfl⟩ | 3 => exact ⟨_, rfl⟩ | _ + 4 => exact ⟨_, rfl⟩)
    have hA0 : own_at 2 0 0 2 cB cC := Or.inr ⟨by decide, by decide, by decide, Or.inr (Or.inr (Or.inr ⟨rfl, by decide, vB 0 _ (by decide) rfl⟩))⟩
    have hA1 : own_at 2 0 1 2 cB cC := Or.inr ⟨by decide, by decide, by decide, Or.inr (Or.inr (Or.inl ⟨rfl, by decide, by decide, (vB 1 _ (by decide) rfl).trans ((own_enc c0).trans (congrArg (fun z => z.toInt8.toInt32) ((congrArg (atv cC) (by decide : (1 : Int32) / 2 = 0)).trans (vC 0 _ (by decide) rfl)).symm))⟩))⟩
    exact sg_T hx hby hml hown hlk hret hZ hw (Nat.le_trans (Nat.le_trans (Nat.le_trans (Nat.le_trans (Nat.le_trans Z0 E1.1) (Keep.of_wr W3).1) E4.1) Kc5.1) Kc12.1) hS (Nat.le_trans (Nat.le_trans (Nat.le_trans (Nat.le_trans (Nat.le_trans hk0 E1.1) (Keep.of_wr W3).1) E4.1) Kc5.1) Kc12.1) (X12.more (by decide) (by decide)) rfl N12 O12 p1 p2 p3 p4 p5 p6 kk1 wf (2 : Int32) (0 : Int32) (1 : Int32) a11 b1 tN_12 cB cC (2 : Int32) Tb Tc hA0 hA1 (Or.inl (by decide)) (Or.inl (by decide)) (Or.inl (by decide)) (Or.inl (by decide)) (Or.inl (by decide)) (Or.inl (by decide)) (Or.inl (by decide)) (Or.inl (by decide)) (Or.inl (by decide)) (Or.inl (by decide)) (Or.inl (by decide)) (Or.inl (by decide)) (Or.inl (by decide)) (Or.inl (by decide))
  · skip
    show gs T5 m 307 #[vi p1, vi p2, vi p3, vi p4, vi p5, vi p6, vi kk1, vr wf, vi 2, vi 1, vi 1, vr a11, vr b1, .unset] [(.ref b4), (.ref wf)]
    refine oV 0 X5 hx hZ hby hml hown (own_w hw 34 rfl) (own_w hw 35 rfl) (own_w hw 37 rfl) (own_w hw 36 rfl) (rm_enc_1_2_1 l Z a0 hw [] wf b4 tN_5 kN_5 (nar .byte (c0.toInt8.toInt32)) zCS fm T5.heap n0 (Nat.le_trans (Nat.le_trans (Nat.le_trans (Nat.le_trans Z0 E1.1) (Keep.of_wr W3).1) E4.1) Kc5.1) O5 Fw Fl P5_0 P5_2 P5_1 P5_3 S_CS P_CS S_SF P_SF) (own_w hw 38 rfl) (own_w hw 2 rfl) rfl (Exa.ext O5.2 Ef) (by decide) own_pd13 at_307 rfl rfl rfl (fun T14 L14 v14 X14 hQ14 => ?_)
    obtain ⟨tN_14, kN_14, rfl, Nq14, Kc14, P14_0, P14_1⟩ := hQ14
    have N14 := Fr.app N5 Nq14
    have ne_a11_tN_14 : a11 ≠ tN_14 := Nat.ne_of_lt (Nat.lt_of_lt_of_le ((Arv.ext ((Arv.ext R_C E1).other W3 ne_a11_b1) E4).keep Kc5 (ninS ne_a11_b4 nin0)).lt P14_0)
    have ne_b1_tN_14 : b1 ≠ tN_14 := Nat.ne_of_lt (Nat.lt_of_lt_of_le ((Arv.ext RP E4).keep Kc5 (ninS ne_b1_b4 nin0)).lt P14_0)
    have ne_b4_tN_14 : b4 ≠ tN_14 := Nat.ne_of_lt (Nat.lt_of_lt_of_le P5_0.lt P14_0)
    have ne_tN_5_tN_14 : tN_5 ≠ tN_14 := Nat.ne_of_lt (Nat.lt_of_lt_of_le P5_3.lt P14_0)
    have ge_tN_14 : n0 ≤ tN_14 := Nat.le_trans (Nat.le_trans (Nat.le_trans (Nat.le_trans (Nat.le_trans Z0 E1.1) (Keep.of_wr W3).1) E4.1) Kc5.1) P14_0
    have O14 := O5.keep Kc14 all0
    show gs T14 m 310 #[vi p1, vi p2, vi p3, vi p4, vi p5, vi p6, vi kk1, vr wf, vi 2, vi 1, vi 1, vr a11, vr b1, .unset] [(.ref tN_14)]
    refine own_st (fun _ kS => XS.astore X14.here hx rfl (hb hby at_310) rfl rfl (l' := #[vi p1, vi p2, vi p3, vi p4, vi p5, vi p6, vi kk1, vr wf, vi 2, vi 1, vi 1, vr a11, vr b1, vr tN_14]) rfl kS) ?_
    refine oaload X14 hx hby at_312 rfl rfl ?_
    show gs T14 m 314 #[vi p1, vi p2, vi p3, vi p4, vi p5, vi p6, vi kk1, vr wf, vi 2, vi 1, vi 1, vr a11, vr b1, vr tN_14] [(.ref tN_14)]
    obtain ⟨cl15, Ar15, qa15, qs15, qn15, qh15, qg15⟩ := id P14_1
    refine own_st (fun _ kS => X14.arraylength hx (Ar15.1) (State.isArrayOf_alike hZ.alike Ar15.2.1) (g := (mkF m 314 #[vi p1, vi p2, vi p3, vi p4, vi p5, vi p6, vi kk1, vr wf, vi 2, vi 1, vi 1, vr a11, vr b1, vr tN_14] [(.ref tN_14)])) rfl rfl (hb hby at_314) _ kS) ?_
    rw [len_of qs15 qn15]
    show gs T14 m 315 #[vi p1, vi p2, vi p3, vi p4, vi p5, vi p6, vi kk1, vr wf, vi 2, vi 1, vi 1, vr a11, vr b1, vr tN_14] [(.int 2)]
    refine oiload X14 hx hby at_315 rfl ?_
    refine oiload X14 hx hby at_317 rfl ?_
    refine own_st (fun _ kS => XS.imul X14.here hx rfl (hb hby at_319) rfl kS) ?_
    show gs T14 m 320 #[vi p1, vi p2, vi p3, vi p4, vi p5, vi p6, vi kk1, vr wf, vi 2, vi 1, vi 1, vr a11, vr b1, vr tN_14] [(.int 2), (.int 2)]
    refine own_st (fun _ kS => XS.icmpYes X14.here hx rfl (pc0 := 320) (pc' := 325) rfl (hb hby at_320) rfl (teq (by decide : (2 : Int32) = (2 : Int32))).1 (by decide) (by decide) kS) ?_
    show gs T14 m 325 #[vi p1, vi p2, vi p3, vi p4, vi p5, vi p6, vi kk1, vr wf, vi 2, vi 1, vi 1, vr a11, vr b1, vr tN_14] []
    obtain ⟨cB, Tb, vB⟩ := own_tab2 P14_1 (fun i => by match i with | 0 => exact ⟨_, rfl⟩ | 1 => exact ⟨_, rfl⟩ | _ + 2 => exact ⟨_, rfl⟩)
    obtain ⟨cC, Tc, vC⟩ := own_tab2 (((Arv.ext ((Arv.ext R_C E1).other W3 ne_a11_b1) E4).keep Kc5 (ninS ne_a11_b4 nin0)).keep Kc14 nin0) (fun i => by match i with | 0 => exact ⟨_, rfl⟩ | 1 => exact ⟨_, rfl⟩ | 2 => exact ⟨_, rfl⟩ | 3 => exact ⟨_, rfl⟩ | _ + 4 => exact ⟨_, rfl⟩)
    have hA0 : own_at 2 1 0 2 cB cC := Or.inr ⟨by decide, by decide, by decide, Or.inl ⟨rfl, by decide, by decide, (vB 0 _ (by decide) rfl).trans ((own_enc c0).trans (congrArg (fun z => z.toInt8.toInt32) ((congrArg (atv cC) (by decide : (0 : Int32) / 2 = 0)).trans (vC 0 _ (by decide) rfl)).symm))⟩⟩
    have hA1 : own_at 2 1 1 2 cB cC := Or.inr ⟨by decide, by decide, by decide, Or.inr (Or.inl ⟨rfl, by decide, vB 1 _ (by decide) rfl⟩)⟩
    exact sg_T hx hby hml hown hlk hret hZ hw (Nat.le_trans (Nat.le_trans (Nat.le_trans (Nat.le_trans (Nat.le_trans Z0 E1.1) (Keep.of_wr W3).1) E4.1) Kc5.1) Kc14.1) hS (Nat.le_trans (Nat.le_trans (Nat.le_trans (Nat.le_trans (Nat.le_trans hk0 E1.1) (Keep.of_wr W3).1) E4.1) Kc5.1) Kc14.1) (X14.more (by decide) (by decide)) rfl N14 O14 p1 p2 p3 p4 p5 p6 kk1 wf (2 : Int32) (1 : Int32) (1 : Int32) a11 b1 tN_14 cB cC (2 : Int32) Tb Tc hA0 hA1 (Or.inl (by decide)) (Or.inl (by decide)) (Or.inl (by decide)) (Or.inl (by decide)) (Or.inl (by decide)) (Or.inl (by decide)) (Or.inl (by decide)) (Or.inl (by decide)) (Or.inl (by decide)) (Or.inl (by decide)) (Or.inl (by decide)) (Or.inl (by decide)) (Or.inl (by decide)) (Or.inl (by decide))
theorem sg_L2 {p : Program} {l : Launch} {e : Env} {s : State} {m : MethodId} {args : Array Value} {below : List Frame} {meth : Method} {c : Code} {T0 : State} {locs : List Loc} {Z : State} {a0 : Array Value} {h0 : Heap} {n0 : Nat} {vm0 : Vm} {kv0 : Nat} (hx : p.tables.exec = Jvm.exec) (hby : c.code = code) (hml : c.maxLocals = 14) (hown : (s.setVm vm0).vm.findClass "com/example/provenir/provenir/TextEncodingEncodePinLaw" = some m.cls) (hlk : meth.locks = false) (hret : meth.sig.returnType = some .boolean) (hZ : Z.Warmed39 (s.setVm vm0).vm) (hw : HW a0 Z) (Z0 : n0 ≤ h0.size) (hS : s.Since vm0 kv0) (hk0 : kv0 ≤ h0.size)
    (X0 : Stand p l e room_1 (s.setVm vm0) m args below meth c T0 locs 1 4) (e0 : T0.heap = h0) (N0 : Fr n0 locs) (O0 : Old Z n0 h0) (p1 : Int32) (p2 : Int32) (p3 : Int32) (p4 : Int32) (p5 : Int32) (p6 : Int32) (kk1 : Int32) (wf : Addr) (w : Int32) (le : Int32) (a11 : Addr) (kC : ClassId) (c0 : Int32) (c1 : Int32) (c2 : Int32) (c3 : Int32) (zCS : Int32) (fm : Value) (R_C : Arv Z h0 a11 kC .char (4 : Int32) [(.int c0), (.int c1), (.int c2), (.int c3)] (.int 0)) (g_C : n0 ≤ a11) (Ef : ek13 Z Z.heap wf) (Fw : fk10 Z Z.heap wf (.int w)) (Fl : fk11 Z Z.heap wf (.int le)) (S_CS : sk0 Z Z.heap (.int zCS)) (P_CS : ¬ zCS = 0) (S_SF : sk1 Z Z.heap fm) (P_SF : fm.isRef = true) (hC0 : ¬ ((255 : Int32) < c0)) (hC1 : ¬ ((255 : Int32) < c1)) (hC2 : ¬ ((255 : Int32) < c2)) (hC3 : ¬ ((255 : Int32) < c3)) (hn0 : nar .char c0 = c0) (hn1 : nar .char c1 = c1) (hW : (w = 1 ∧ le = 0) ∨ (w = 4 ∧ le = 0) ∨ (w = 4 ∧ le = 1) ∨ (w = 2 ∧ le = 0) ∨ (w = 2 ∧ le = 1)) :
    own_G p.tables e below (own_EW s (Q_law n0) room_1.cells room_1.slots) (T0.setTop (mkF m 166 #[vi p1, vi p2, vi p3, vi p4, vi p5, vi p6, vi kk1, vr wf, vi w, vi le, vi 2, vr a11, .unset, .unset] [])) := by
  show gs T0 m 166 #[vi p1, vi p2, vi p3, vi p4, vi p5, vi p6, vi kk1, vr wf, vi w, vi le, vi 2, vr a11, .unset, .unset] []
  refine oiload X0 hx hby at_166 rfl ?_
  refine own_st (fun _ kS => XS.ifYes X0.here hx rfl (pc0 := 168) (pc' := 179) rfl (hb hby at_168) rfl ((if0 _ _).trans (feq (by decide : ¬ ((2 : Int32) = (0 : Int32)))).2) (by decide) (by decide) kS) ?_
  show gs T0 m 179 #[vi p1, vi p2, vi p3, vi p4, vi p5, vi p6, vi kk1, vr wf, vi w, vi le, vi 2, vr a11, .unset, .unset] []
  refine oiload X0 hx hby at_179 rfl ?_
  refine oiconst X0 hx hby at_181 ?_
  refine own_st (fun _ kS => XS.icmpYes X0.here hx rfl (pc0 := 182) (pc' := 200) rfl (hb hby at_182) rfl (feq (by decide : ¬ ((2 : Int32) = (1 : Int32)))).2 (by decide) (by decide) kS) ?_
  show gs T0 m 200 #[vi p1, vi p2, vi p3, vi p4, vi p5, vi p6, vi kk1, vr wf, vi w, vi le, vi 2, vr a11, .unset, .unset] []
  refine oiload X0 hx hby at_200 rfl ?_
  refine oiconst X0 hx hby at_202 ?_
  refine own_st (fun _ kS => XS.icmpNo X0.here hx rfl (hb hby at_203) rfl (teq (by decide : (2 : Int32) = (2 : Int32))).2 kS) ?_
  show gs T0 m 206 #[vi p1, vi p2, vi p3, vi p4, vi p5, vi p6, vi kk1, vr wf, vi w, vi le, vi 2, vr a11, .unset, .unset] []
  refine oiconst X0 hx hby at_206 ?_
  show gs T0 m 207 #[vi p1, vi p2, vi p3, vi p4, vi p5, vi p6, vi kk1, vr wf, vi w, vi le, vi 2, vr a11, .unset, .unset] [(.int 2)]
  obtain ⟨T1, h1, k1, X1, e1, E1, A1, st1⟩ := newP X0 hx hZ (own_w hw 4 rfl) e0 (g := (mkF m 207 #[vi p1, vi p2, vi p3, vi p4, vi p5, vi p6, vi kk1, vr wf, vi w, vi le, vi 2, vr a11, .unset, .unset] [(.int 2)])) rfl (hb hby at_207) rfl (by decide) (cap := 2) (by decide) (by decide) (by decide) (by decide)
  obtain ⟨b1, g1⟩ : ∃ z, z = h0.size := ⟨_, rfl⟩
  have ne_a11_b1 : a11 ≠ b1 := Nat.ne_of_lt (Nat.lt_of_lt_of_eq R_C.lt g1.symm)
  have ge_b1 : n0 ≤ b1 := Nat.le_trans Z0 (Nat.le_of_eq g1.symm)
  rw [← g1] at A1 st1
  have O1 := O0.ext E1
  have R1 : Arv Z h1 b1 k1 .char (2 : Int32) [(.int 0), (.int 0)] (.int 0) := (Arv.new A1 (by decide)).pad (pad_rep [] (.int 0) 2)
  refine own_st st1 ?_
  show gs T1 m 209 #[vi p1, vi p2, vi p3, vi p4, vi p5, vi p6, vi kk1, vr wf, vi w, vi le, vi 2, vr a11, .unset, .unset] [(.ref b1)]
  refine own_st (fun _ kS => XS.dup X1.here hx rfl (hb hby at_209) rfl rfl kS) ?_
  refine oiconst X1 hx hby at_210 ?_
  refine oaload X1 hx hby at_211 rfl rfl ?_
  refine oiconst X1 hx hby at_213 ?_
  show gs T1 m 214 #[vi p1, vi p2, vi p3, vi p4, vi p5, vi p6, vi kk1, vr wf, vi w, vi le, vi 2, vr a11, .unset, .unset] [(.int 0), (.ref a11), (.int 0), (.ref b1), (.ref b1)]
  obtain ⟨cl2, Ar2, qa2, qs2, qn2, qh2, qg2⟩ := id (Arv.ext R_C E1)
  refine own_st (fun _ kS => X1.caload hx (j := (0 : Int32)) (v := (.int c0)) (by rw [e1]; exact Ar2.1) (State.isArrayOf_alike hZ.alike Ar2.2.1) Ar2.2.2 (inb_of qs2 ⟨by decide, by decide⟩) (qh2.at (inb_of qs2 ⟨by decide, by decide⟩) rfl) (g := (mkF m 214 #[vi p1, vi p2, vi p3, vi p4, vi p5, vi p6, vi kk1, vr wf, vi w, vi le, vi 2, vr a11, .unset, .unset] [(.int 0), (.ref a11), (.int 0), (.ref b1), (.ref b1)])) rfl rfl (hb hby at_214) _ kS) ?_
  show gs T1 m 215 #[vi p1, vi p2, vi p3, vi p4, vi p5, vi p6, vi kk1, vr wf, vi w, vi le, vi 2, vr a11, .unset, .unset] [(.int c0), (.int 0), (.ref b1), (.ref b1)]
  obtain ⟨cl3, Ar3, qa3, qs3, qn3, qh3, qg3⟩ := id R1
  obtain ⟨T3, h3, X3, e3, W3, st3⟩ := stC X1 hx hZ e1 Ar3 (j := (0 : Int32)) (inb_of qs3 ⟨by decide, by decide⟩) (g := (mkF m 215 #[vi p1, vi p2, vi p3, vi p4, vi p5, vi p6, vi kk1, vr wf, vi w, vi le, vi 2, vr a11, .unset, .unset] [(.int c0), (.int 0), (.ref b1), (.ref b1)])) rfl rfl (hb hby at_215)
  have N3 := Fr.snoc X3 N0 ge_b1
  have O3 := O1.wr W3 ge_b1
  have R3 : Arv Z h3 b1 k1 .char (2 : Int32) [(.int (nar .char c0)), (.int 0)] (.int 0) := Arv.set Ar3 qa3 qs3 qn3 qh3 qg3 (fits_nar_char _) W3 0 rfl (Nat.le_of_ble_eq_true rfl)
  refine own_st st3 ?_
  show gs T3 m 216 #[vi p1, vi p2, vi p3, vi p4, vi p5, vi p6, vi kk1, vr wf, vi w, vi le, vi 2, vr a11, .unset, .unset] [(.ref b1)]
  refine own_st (fun _ kS => XS.dup X3.here hx rfl (hb hby at_216) rfl rfl kS) ?_
  refine oiconst X3 hx hby at_217 ?_
  refine oaload X3 hx hby at_218 rfl rfl ?_
  refine oiconst X3 hx hby at_220 ?_
  show gs T3 m 221 #[vi p1, vi p2, vi p3, vi p4, vi p5, vi p6, vi kk1, vr wf, vi w, vi le, vi 2, vr a11, .unset, .unset] [(.int 1), (.ref a11), (.int 1), (.ref b1), (.ref b1)]
  obtain ⟨cl4, Ar4, qa4, qs4, qn4, qh4, qg4⟩ := id ((Arv.ext R_C E1).other W3 ne_a11_b1)
  refine own_st (fun _ kS => X3.caload hx (j := (1 : Int32)) (v := (.int c1)) (by rw [e3]; exact Ar4.1) (State.isArrayOf_alike hZ.alike Ar4.2.1) Ar4.2.2 (inb_of qs4 ⟨by decide, by decide⟩) (qh4.at (inb_of qs4 ⟨by decide, by decide⟩) rfl) (g := (mkF m 221 #[vi p1, vi p2, vi p3, vi p4, vi p5, vi p6, vi kk1, vr wf, vi w, vi le, vi 2, vr a11, .unset, .unset] [(.int 1), (.ref a11), (.int 1), (.ref b1), (.ref b1)])) rfl rfl (hb hby at_221) _ kS) ?_
  show gs T3 m 222 #[vi p1, vi p2, vi p3, vi p4, vi p5, vi p6, vi kk1, vr wf, vi w, vi le, vi 2, vr a11, .unset, .unset] [(.int c1), (.int 1), (.ref b1), (.ref b1)]
  obtain ⟨cl5, Ar5, qa5, qs5, qn5, qh5, qg5⟩ := id R3
  obtain ⟨T5, h5, X5, e5, W5, st5⟩ := stC X3 hx hZ e3 Ar5 (j := (1 : Int32)) (inb_of qs5 ⟨by decide, by decide⟩) (g := (mkF m 222 #[vi p1, vi p2, vi p3, vi p4, vi p5, vi p6, vi kk1, vr wf, vi w, vi le, vi 2, vr a11, .unset, .unset] [(.int c1), (.int 1), (.ref b1), (.ref b1)])) rfl rfl (hb hby at_222)
  have N5 := Fr.snoc X5 N3 ge_b1
  have O5 := O3.wr W5 ge_b1
  have R5 : Arv Z h5 b1 k1 .char (2 : Int32) [(.int (nar .char c0)), (.int (nar .char c1))] (.int 0) := Arv.set Ar5 qa5 qs5 qn5 qh5 qg5 (fits_nar_char _) W5 1 rfl (Nat.le_of_ble_eq_true rfl)
  refine own_st st5 ?_
  show gs T5 m 223 #[vi p1, vi p2, vi p3, vi p4, vi p5, vi p6, vi kk1, vr wf, vi w, vi le, vi 2, vr a11, .unset, .unset] [(.ref b1)]
  refine own_st (fun _ kS => XS.astore X5.here hx rfl (hb hby at_223) rfl rfl (l' := #[vi p1, vi p2, vi p3, vi p4, vi p5, vi p6, vi kk1, vr wf, vi w, vi le, vi 2, vr a11, vr b1, .unset]) rfl kS) ?_
  refine own_st (fun _ kS => XS.goto X5.here hx rfl (pc0 := 225) (pc' := 296) rfl (hb hby at_225) (by decide) (by decide) kS) ?_
  show gs T5 m 296 #[vi p1, vi p2, vi p3, vi p4, vi p5, vi p6, vi kk1, vr wf, vi w, vi le, vi 2, vr a11, vr b1, .unset] []
  have RP : Arv Z h5 b1 k1 .char (2 : Int32) [(.int c0), (.int c1)] (.int 0) := by
    have z := R5
    rw [hn0, hn1] at z
    exact z
  refine oaload X5 hx hby at_296 rfl rfl ?_
  show gs T5 m 298 #[vi p1, vi p2, vi p3, vi p4, vi p5, vi p6, vi kk1, vr wf, vi w, vi le, vi 2, vr a11, vr b1, .unset] [(.ref wf)]
  obtain ⟨T6, h6, X6, e6, E6, A6, D6, -, st6⟩ := newO X5 hx hZ hown (own_w hw 5 rfl) (own_w hw 6 rfl) (own_w hw 7 rfl) e5 (g := (mkF m 298 #[vi p1, vi p2, vi p3, vi p4, vi p5, vi p6, vi kk1, vr wf, vi w, vi le, vi 2, vr a11, vr b1, .unset] [(.ref wf)])) rfl (hb hby at_298) (by decide) (by decide)
  obtain ⟨b6, g6⟩ : ∃ z, z = h5.size := ⟨_, rfl⟩
  have ne_a11_b6 : a11 ≠ b6 := Nat.ne_of_lt (Nat.lt_of_lt_of_eq (((Arv.ext R_C E1).other W3 ne_a11_b1).other W5 ne_a11_b1).lt g6.symm)
  have ne_b1_b6 : b1 ≠ b6 := Nat.ne_of_lt (Nat.lt_of_lt_of_eq RP.lt g6.symm)
  have ge_b6 : n0 ≤ b6 := Nat.le_trans (Nat.le_trans (Nat.le_trans (Nat.le_trans Z0 E1.1) (Keep.of_wr W3).1) (Keep.of_wr W5).1) (Nat.le_of_eq g6.symm)
  rw [← g6] at A6 D6 st6
  have O6 := O5.ext E6
  have F6_coder : fk8 Z h6 b6 (.int 0) := D6 (Or.inr (own_w hw 31 rfl)) (ty := .byte) (by decide)
  have F6_value : fk9 Z h6 b6 .null := D6 (Or.inr (own_w hw 33 rfl)) (ty := (.array .byte)) (by decide)
  refine own_st st6 ?_
  show gs T6 m 301 #[vi p1, vi p2, vi p3, vi p4, vi p5, vi p6, vi kk1, vr wf, vi w, vi le, vi 2, vr a11, vr b1, .unset] [(.ref b6), (.ref wf)]
  refine own_st (fun _ kS => XS.dup X6.here hx rfl (hb hby at_301) rfl rfl kS) ?_
  refine oaload X6 hx hby at_302 rfl rfl ?_
  refine oN 2 X6 hx hZ hby hml hown (own_w hw 8 rfl) (own_w hw 9 rfl) (own_w hw 7 rfl) (own_w hw 10 rfl) (rm_init1_2 l Z a0 hw [] b6 b1 k1 c0 c1 zCS h6 n0 (Nat.le_trans (Nat.le_trans (Nat.le_trans (Nat.le_trans Z0 E1.1) (Keep.of_wr W3).1) (Keep.of_wr W5).1) E6.1) O6 A6 ge_b6 F6_value F6_coder (Ne.symm ne_b1_b6) (Arv.ext RP E6) hC0 hC1 S_CS P_CS) e6 rfl (by decide) own_pd12 at_304 rfl rfl rfl (fun T7 L7 v7 X7 hQ7 => ?_)
  obtain ⟨tN_7, kN_7, rfl, Nq7, Kc7, P7_0, P7_1, P7_2, P7_3⟩ := hQ7
  have N7 := Fr.app N5 Nq7
  have O7 := O6.keep Kc7 (allS ge_b6 all0)
  show gs T7 m 307 #[vi p1, vi p2, vi p3, vi p4, vi p5, vi p6, vi kk1, vr wf, vi w, vi le, vi 2, vr a11, vr b1, .unset] [(.ref b6), (.ref wf)]
  rcases hW with ⟨rfl, rfl⟩ | ⟨rfl, rfl⟩ | ⟨rfl, rfl⟩ | ⟨rfl, rfl⟩ | ⟨rfl, rfl⟩
  · skip
    show gs T7 m 307 #[vi p1, vi p2, vi p3, vi p4, vi p5, vi p6, vi kk1, vr wf, vi 1, vi 0, vi 2, vr a11, vr b1, .unset] [(.ref b6), (.ref wf)]
    refine oV 0 X7 hx hZ hby hml hown (own_w hw 34 rfl) (own_w hw 35 rfl) (own_w hw 37 rfl) (own_w hw 36 rfl) (rm_enc_2_1_0 l Z a0 hw [] wf b6 tN_7 kN_7 (nar .byte (c0.toInt8.toInt32)) (nar .byte (c1.toInt8.toInt32)) zCS fm T7.heap n0 (Nat.le_trans (Nat.le_trans (Nat.le_trans (Nat.le_trans (Nat.le_trans Z0 E1.1) (Keep.of_wr W3).1) (Keep.of_wr W5).1) E6.1) Kc7.1) O7 Fw Fl P7_0 P7_2 P7_1 P7_3 S_CS P_CS S_SF P_SF) (own_w hw 38 rfl) (own_w hw 2 rfl) rfl (Exa.ext O7.2 Ef) (by decide) own_pd13 at_307 rfl rfl rfl (fun T8 L8 v8 X8 hQ8 => ?_)
    obtain ⟨tN_8, kN_8, rfl, Nq8, Kc8, P8_0, P8_1⟩ := hQ8
    have N8 := Fr.app N7 Nq8
    have ne_a11_tN_8 : a11 ≠ tN_8 := Nat.ne_of_lt (Nat.lt_of_lt_of_le ((Arv.ext (((Arv.ext R_C E1).other W3 ne_a11_b1).other W5 ne_a11_b1) E6).keep Kc7 (ninS ne_a11_b6 nin0)).lt P8_0)
    have ne_b1_tN_8 : b1 ≠ tN_8 := Nat.ne_of_lt (Nat.lt_of_lt_of_le ((Arv.ext RP E6).keep Kc7 (ninS ne_b1_b6 nin0)).lt P8_0)
    have ne_b6_tN_8 : b6 ≠ tN_8 := Nat.ne_of_lt (Nat.lt_of_lt_of_le P7_0.lt P8_0)
    have ne_tN_7_tN_8 : tN_7 ≠ tN_8 := Nat.ne_of_lt (Nat.lt_of_lt_of_le P7_3.lt P8_0)
    have ge_tN_8 : n0 ≤ tN_8 := Nat.le_trans (Nat.le_trans (Nat.le_trans (Nat.le_trans (Nat.le_trans (Nat.le_trans Z0 E1.1) (Keep.of_wr W3).1) (Keep.of_wr W5).1) E6.1) Kc7.1) P8_0
    have O8 := O7.keep Kc8 all0
    show gs T8 m 310 #[vi p1, vi p2, vi p3, vi p4, vi p5, vi p6, vi kk1, vr wf, vi 1, vi 0, vi 2, vr a11, vr b1, .unset] [(.ref tN_8)]
    refine own_st (fun _ kS => XS.astore X8.here hx rfl (hb hby at_310) rfl rfl (l' := #[vi p1, vi p2, vi p3, vi p4, vi p5, vi p6, vi kk1, vr wf, vi 1, vi 0, vi 2, vr a11, vr b1, vr tN_8]) rfl kS) ?_
    refine oaload X8 hx hby at_312 rfl rfl ?_
    show gs T8 m 314 #[vi p1, vi p2, vi p3, vi p4, vi p5, vi p6, vi kk1, vr wf, vi 1, vi 0, vi 2, vr a11, vr b1, vr tN_8] [(.ref tN_8)]
    obtain ⟨cl9, Ar9, qa9, qs9, qn9, qh9, qg9⟩ := id P8_1
    refine own_st (fun _ kS => X8.arraylength hx (Ar9.1) (State.isArrayOf_alike hZ.alike Ar9.2.1) (g := (mkF m 314 #[vi p1, vi p2, vi p3, vi p4, vi p5, vi p6, vi kk1, vr wf, vi 1, vi 0, vi 2, vr a11, vr b1, vr tN_8] [(.ref tN_8)])) rfl rfl (hb hby at_314) _ kS) ?_
    rw [len_of qs9 qn9]
    show gs T8 m 315 #[vi p1, vi p2, vi p3, vi p4, vi p5, vi p6, vi kk1, vr wf, vi 1, vi 0, vi 2, vr a11, vr b1, vr tN_8] [(.int 2)]
    refine oiload X8 hx hby at_315 rfl ?_
    refine oiload X8 hx hby at_317 rfl ?_
    refine own_st (fun _ kS => XS.imul X8.here hx rfl (hb hby at_319) rfl kS) ?_
    show gs T8 m 320 #[vi p1, vi p2, vi p3, vi p4, vi p5, vi p6, vi kk1, vr wf, vi 1, vi 0, vi 2, vr a11, vr b1, vr tN_8] [(.int 2), (.int 2)]
    refine own_st (fun _ kS => XS.icmpYes X8.here hx rfl (pc0 := 320) (pc' := 325) rfl (hb hby at_320) rfl (teq (by decide : (2 : Int32) = (2 : Int32))).1 (by decide) (by decide) kS) ?_
    show gs T8 m 325 #[vi p1, vi p2, vi p3, vi p4, vi p5, vi p6, vi kk1, vr wf, vi 1, vi 0, vi 2, vr a11, vr b1, vr tN_8] []
    obtain ⟨cB, Tb, vB⟩ := own_tab2 P8_1 (fun i => by match i with | 0 => exact ⟨_, rfl⟩ | 1 => exact ⟨_, rfl⟩ | _ + 2 => exact ⟨_, rfl⟩)
    obtain ⟨cC, Tc, vC⟩ := own_tab2 (((Arv.ext (((Arv.ext R_C E1).other W3 ne_a11_b1).other W5 ne_a11_b1) E6).keep Kc7 (ninS ne_a11_b6 nin0)).keep Kc8 nin0) (fun i => by match i with | 0 => exact ⟨_, rfl⟩ | 1 => exact ⟨_, rfl⟩ | 2 => exact ⟨_, rfl⟩ | 3 => exact ⟨_, rfl⟩ | _ + 4 => exact ⟨_, rfl⟩)
    have hA0 : own_at 1 0 0 2 cB cC := Or.inr ⟨by decide, by decide, by decide, Or.inr (Or.inr (Or.inl ⟨rfl, by decide, by decide, (vB 0 _ (by decide) rfl).trans ((own_enc c0).trans (congrArg (fun z => z.toInt8.toInt32) ((congrArg (atv cC) (by decide : (0 : Int32) / 1 = 0)).trans (vC 0 _ (by decide) rfl)).symm))⟩))⟩
    have hA1 : own_at 1 0 1 2 cB cC := Or.inr ⟨by decide, by decide, by decide, Or.inr (Or.inr (Or.inl ⟨rfl, by decide, by decide, (vB 1 _ (by decide) rfl).trans ((own_enc c1).trans (congrArg (fun z => z.toInt8.toInt32) ((congrArg (atv cC) (by decide : (1 : Int32) / 1 = 1)).trans (vC 1 _ (by decide) rfl)).symm))⟩))⟩
    exact sg_T hx hby hml hown hlk hret hZ hw (Nat.le_trans (Nat.le_trans (Nat.le_trans (Nat.le_trans (Nat.le_trans (Nat.le_trans Z0 E1.1) (Keep.of_wr W3).1) (Keep.of_wr W5).1) E6.1) Kc7.1) Kc8.1) hS (Nat.le_trans (Nat.le_trans (Nat.le_trans (Nat.le_trans (Nat.le_trans (Nat.le_trans hk0 E1.1) (Keep.of_wr W3).1) (Keep.of_wr W5).1) E6.1) Kc7.1) Kc8.1) (X8.more (by decide) (by decide)) rfl N8 O8 p1 p2 p3 p4 p5 p6 kk1 wf (1 : Int32) (0 : Int32) (2 : Int32) a11 b1 tN_8 cB cC (2 : Int32) Tb Tc hA0 hA1 (Or.inl (by decide)) (Or.inl (by decide)) (Or.inl (by decide)) (Or.inl (by decide)) (Or.inl (by decide)) (Or.inl (by decide)) (Or.inl (by decide)) (Or.inl (by decide)) (Or.inl (by decide)) (Or.inl (by decide)) (Or.inl (by decide)) (Or.inl (by decide)) (Or.inl (by decide)) (Or.inl (by decide))
  · skip
    show gs T7 m 307 #[vi p1, vi p2, vi p3, vi p4, vi p5, vi p6, vi kk1, vr wf, vi 4, vi 0, vi 2, vr a11, vr b1, .unset] [(.ref b6), (.ref wf)]
    refine oV 0 X7 hx hZ hby hml hown (own_w hw 34 rfl) (own_w hw 35 rfl) (own_w hw 37 rfl) (own_w hw 36 rfl) (rm_enc_2_4_0 l Z a0 hw [] wf b6 tN_7 kN_7 (nar .byte (c0.toInt8.toInt32)) (nar .byte (c1.toInt8.toInt32)) zCS fm T7.heap n0 (Nat.le_trans (Nat.le_trans (Nat.le_trans (Nat.le_trans (Nat.le_trans Z0 E1.1) (Keep.of_wr W3).1) (Keep.of_wr W5).1) E6.1) Kc7.1) O7 Fw Fl P7_0 P7_2 P7_1 P7_3 S_CS P_CS S_SF P_SF) (own_w hw 38 rfl) (own_w hw 2 rfl) rfl (Exa.ext O7.2 Ef) (by decide) own_pd13 at_307 rfl rfl rfl (fun T10 L10 v10 X10 hQ10 => ?_)
    obtain ⟨tN_10, kN_10, rfl, Nq10, Kc10, P10_0, P10_1⟩ := hQ10
    have N10 := Fr.app N7 Nq10
    have ne_a11_tN_10 : a11 ≠ tN_10 := Nat.ne_of_lt (Nat.lt_of_lt_of_le ((Arv.ext (((Arv.ext R_C E1).other W3 ne_a11_b1).other W5 ne_a11_b1) E6).keep Kc7 (ninS ne_a11_b6 nin0)).lt P10_0)
    have ne_b1_tN_10 : b1 ≠ tN_10 := Nat.ne_of_lt (Nat.lt_of_lt_of_le ((Arv.ext RP E6).keep Kc7 (ninS ne_b1_b6 nin0)).lt P10_0)
    have ne_b6_tN_10 : b6 ≠ tN_10 := Nat.ne_of_lt (Nat.lt_of_lt_of_le P7_0.lt P10_0)
    have ne_tN_7_tN_10 : tN_7 ≠ tN_10 := Nat.ne_of_lt (Nat.lt_of_lt_of_le P7_3.lt P10_0)
    have ge_tN_10 : n0 ≤ tN_10 := Nat.le_trans (Nat.le_trans (Nat.le_trans (Nat.le_trans (Nat.le_trans (Nat.le_trans Z0 E1.1) (Keep.of_wr W3).1) (Keep.of_wr W5).1) E6.1) Kc7.1) P10_0
    have O10 := O7.keep Kc10 all0
    show gs T10 m 310 #[vi p1, vi p2, vi p3, vi p4, vi p5, vi p6, vi kk1, vr wf, vi 4, vi 0, vi 2, vr a11, vr b1, .unset] [(.ref tN_10)]
    refine own_st (fun _ kS => XS.astore X10.here hx rfl (hb hby at_310) rfl rfl (l' := #[vi p1, vi p2, vi p3, vi p4, vi p5, vi p6, vi kk1, vr wf, vi 4, vi 0, vi 2, vr a11, vr b1, vr tN_10]) rfl kS) ?_
    refine oaload X10 hx hby at_312 rfl rfl ?_
    show gs T10 m 314 #[vi p1, vi p2, vi p3, vi p4, vi p5, vi p6, vi kk1, vr wf, vi 4, vi 0, vi 2, vr a11, vr b1, vr tN_10] [(.ref tN_10)]
    obtain ⟨cl11, Ar11, qa11, qs11, qn11, qh11, qg11⟩ := id P10_1
    refine own_st (fun _ kS => X10.arraylength hx (Ar11.1) (State.isArrayOf_alike hZ.alike Ar11.2.1) (g := (mkF m 314 #[vi p1, vi p2, vi p3, vi p4, vi p5, vi p6, vi kk1, vr wf, vi 4, vi 0, vi 2, vr a11, vr b1, vr tN_10] [(.ref tN_10)])) rfl rfl (hb hby at_314) _ kS) ?_
    rw [len_of qs11 qn11]
    show gs T10 m 315 #[vi p1, vi p2, vi p3, vi p4, vi p5, vi p6, vi kk1, vr wf, vi 4, vi 0, vi 2, vr a11, vr b1, vr tN_10] [(.int 8)]
    refine oiload X10 hx hby at_315 rfl ?_
    refine oiload X10 hx hby at_317 rfl ?_
    refine own_st (fun _ kS => XS.imul X10.here hx rfl (hb hby at_319) rfl kS) ?_
    show gs T10 m 320 #[vi p1, vi p2, vi p3, vi p4, vi p5, vi p6, vi kk1, vr wf, vi 4, vi 0, vi 2, vr a11, vr b1, vr tN_10] [(.int 8), (.int 8)]
    refine own_st (fun _ kS => XS.icmpYes X10.here hx rfl (pc0 := 320) (pc' := 325) rfl (hb hby at_320) rfl (teq (by decide : (8 : Int32) = (8 : Int32))).1 (by decide) (by decide) kS) ?_
    show gs T10 m 325 #[vi p1, vi p2, vi p3, vi p4, vi p5, vi p6, vi kk1, vr wf, vi 4, vi 0, vi 2, vr a11, vr b1, vr tN_10] []
    obtain ⟨cB, Tb, vB⟩ := own_tab2 P10_1 (fun i => by match i with | 0 => exact ⟨_, rfl⟩ | 1 => exact ⟨_, rfl⟩ | 2 => exact ⟨_, rfl⟩ | 3 => exact ⟨_, rfl⟩ | 4 => exact ⟨_, rfl⟩ | 5 => exact ⟨_, rfl⟩ | 6 => exact ⟨_, rfl⟩ | 7 => exact ⟨_, rfl⟩ | _ + 8 => exact ⟨_, rfl⟩)
    obtain ⟨cC, Tc, vC⟩ := own_tab2 (((Arv.ext (((Arv.ext R_C E1).other W3 ne_a11_b1).other W5 ne_a11_b1) E6).keep Kc7 (ninS ne_a11_b6 nin0)).keep Kc10 nin0) (fun i => by match i with | 0 => exact ⟨_, rfl⟩ | 1 => exact ⟨_, rfl⟩ | 2 => exact ⟨_, rfl⟩ | 3 => exact ⟨_, rfl⟩ | _ + 4 => exact ⟨_, rfl⟩)
    have hA0 : own_at 4 0 0 8 cB cC := Or.inr ⟨by decide, by decide, by decide, Or.inr (Or.inr (Or.inr ⟨rfl, by decide, vB 0 _ (by decide) rfl⟩))⟩
    have hA1 : own_at 4 0 1 8 cB cC := Or.inr ⟨by decide, by decide, by decide, Or.inr (Or.inr (Or.inr ⟨rfl, by decide, vB 1 _ (by decide) rfl⟩))⟩
    have hA2 : own_at 4 0 2 8 cB cC := Or.inr ⟨by decide, by decide, by decide, Or.inr (Or.inr (Or.inr ⟨rfl, by decide, vB 2 _ (by decide) rfl⟩))⟩
    have hA3 : own_at 4 0 3 8 cB cC := Or.inr ⟨by decide, by decide, by decide, Or.inr (Or.inr (Or.inl ⟨rfl, by decide, by decide, (vB 3 _ (by decide) rfl).trans ((own_enc c0).trans (congrArg (fun z => z.toInt8.toInt32) ((congrArg (atv cC) (by decide : (3 : Int32) / 4 = 0)).trans (vC 0 _ (by decide) rfl)).symm))⟩))⟩
    have hA4 : own_at 4 0 4 8 cB cC := Or.inr ⟨by decide, by decide, by decide, Or.inr (Or.inr (Or.inr ⟨rfl, by decide, vB 4 _ (by decide) rfl⟩))⟩
    have hA5 : own_at 4 0 5 8 cB cC := Or.inr ⟨by decide, by decide, by decide, Or.inr (Or.inr (Or.inr ⟨rfl, by decide, vB 5 _ (by decide) rfl⟩))⟩
    have hA6 : own_at 4 0 6 8 cB cC := Or.inr ⟨by decide, by decide, by decide, Or.inr (Or.inr (Or.inr ⟨rfl, by decide, vB 6 _ (by decide) rfl⟩))⟩
    have hA7 : own_at 4 0 7 8 cB cC := Or.inr ⟨by decide, by decide, by decide, Or.inr (Or.inr (Or.inl ⟨rfl, by decide, by decide, (vB 7 _ (by decide) rfl).trans ((own_enc c1).trans (congrArg (fun z => z.toInt8.toInt32) ((congrArg (atv cC) (by decide : (7 : Int32) / 4 = 1)).trans (vC 1 _ (by decide) rfl)).symm))⟩))⟩
    exact sg_T hx hby hml hown hlk hret hZ hw (Nat.le_trans (Nat.le_trans (Nat.le_trans (Nat.le_trans (Nat.le_trans (Nat.le_trans Z0 E1.1) (Keep.of_wr W3).1) (Keep.of_wr W5).1) E6.1) Kc7.1) Kc10.1) hS (Nat.le_trans (Nat.le_trans (Nat.le_trans (Nat.le_trans (Nat.le_trans (Nat.le_trans hk0 E1.1) (Keep.of_wr W3).1) (Keep.of_wr W5).1) E6.1) Kc7.1) Kc10.1) (X10.more (by decide) (by decide)) rfl N10 O10 p1 p2 p3 p4 p5 p6 kk1 wf (4 : Int32) (0 : Int32) (2 : Int32) a11 b1 tN_10 cB cC (8 : Int32) Tb Tc hA0 hA1 hA2 hA3 hA4 hA5 hA6 hA7 (Or.inl (by decide)) (Or.inl (by decide)) (Or.inl (by decide)) (Or.inl (by decide)) (Or.inl (by decide)) (Or.inl (by decide)) (Or.inl (by decide)) (Or.inl (by decide))
  · skip
    show gs T7 m 307 #[vi p1, vi p2, vi p3, vi p4, vi p5, vi p6, vi kk1, vr wf, vi 4, vi 1, vi 2, vr a11, vr b1, .unset] [(.ref b6), (.ref wf)]
    refine oV 0 X7 hx hZ hby hml hown (own_w hw 34 rfl) (own_w hw 35 rfl) (own_w hw 37 rfl) (own_w hw 36 rfl) (rm_enc_2_4_1 l Z a0 hw [] wf b6 tN_7 kN_7 (nar .byte (c0.toInt8.toInt32)) (nar .byte (c1.toInt8.toInt32)) zCS fm T7.heap n0 (Nat.le_trans (Nat.le_trans (Nat.le_trans (Nat.le_trans (Nat.le_trans Z0 E1.1) (Keep.of_wr W3).1) (Keep.of_wr W5).1) E6.1) Kc7.1) O7 Fw Fl P7_0 P7_2 P7_1 P7_3 S_CS P_CS S_SF P_SF) (own_w hw 38 rfl) (own_w hw 2 rfl) rfl (Exa.ext O7.2 Ef) (by decide) own_pd13 at_307 rfl rfl rfl (fun T12 L12 v12 X12 hQ12 => ?_)
    obtain ⟨tN_12, kN_12, rfl, Nq12, Kc12, P12_0, P12_1⟩ := hQ12
    have N12 := Fr.app N7 Nq12
    have ne_a11_tN_12 : a11 ≠ tN_12 := Nat.ne_of_lt (Nat.lt_of_lt_of_le ((Arv.ext (((Arv.ext R_C E1).other W3 ne_a11_b1).other W5 ne_a11_b1) E6).keep Kc7 (ninS ne_a11_b6 nin0)).lt P12_0)
    have ne_b1_tN_12 : b1 ≠ tN_12 := Nat.ne_of_lt (Nat.lt_of_lt_of_le ((Arv.ext RP E6).keep Kc7 (ninS ne_b1_b6 nin0)).lt P12_0)
    have ne_b6_tN_12 : b6 ≠ tN_12 := Nat.ne_of_lt (Nat.lt_of_lt_of_le P7_0.lt P12_0)
    have ne_tN_7_tN_12 : tN_7 ≠ tN_12 := Nat.ne_of_lt (Nat.lt_of_lt_of_le P7_3.lt P12_0)
    have ge_tN_12 : n0 ≤ tN_12 := Nat.le_trans (Nat.le_trans (Nat.le_trans (Nat.le_trans (Nat.le_trans (Nat.le_trans Z0 E1.1) (Keep.of_wr W3).1) (Keep.of_wr W5).1) E6.1) Kc7.1) P12_0
    have O12 := O7.keep Kc12 all0
    show gs T12 m 310 #[vi p1, vi p2, vi p3, vi p4, vi p5, vi p6, vi kk1, vr wf, vi 4, vi 1, vi 2, vr a11, vr b1, .unset] [(.ref tN_12)]
    refine own_st (fun _ kS => XS.astore X12.here hx rfl (hb hby at_310) rfl rfl (l' := #[vi p1, vi p2, vi p3, vi p4, vi p5, vi p6, vi kk1, vr wf, vi 4, vi 1, vi 2, vr a11, vr b1, vr tN_12]) rfl kS) ?_
    refine oaload X12 hx hby at_312 rfl rfl ?_
    show gs T12 m 314 #[vi p1, vi p2, vi p3, vi p4, vi p5, vi p6, vi kk1, vr wf, vi 4, vi 1, vi 2, vr a11, vr b1, vr tN_12] [(.ref tN_12)]
    obtain ⟨cl13, Ar13, qa13, qs13, qn13, qh13, qg13⟩ := id P12_1
    refine own_st (fun _ kS => X12.arraylength hx (Ar13.1) (State.isArrayOf_alike hZ.alike Ar13.2.1) (g := (mkF m 314 #[vi p1, vi p2, vi p3, vi p4, vi p5, vi p6, vi kk1, vr wf, vi 4, vi 1, vi 2, vr a11, vr b1, vr tN_12] [(.ref tN_12)])) rfl rfl (hb hby at_314) _ kS) ?_
    rw [len_of qs13 qn13]
    show gs T12 m 315 #[vi p1, vi p2, vi p3, vi p4, vi p5, vi p6, vi kk1, vr wf, vi 4, vi 1, vi 2, vr a11, vr b1, vr tN_12] [(.int 8)]
    refine oiload X12 hx hby at_315 rfl ?_
    refine oiload X12 hx hby at_317 rfl ?_
    refine own_st (fun _ kS => XS.imul X12.here hx rfl (hb hby at_319) rfl kS) ?_
    show gs T12 m 320 #[vi p1, vi p2, vi p3, vi p4, vi p5, vi p6, vi kk1, vr wf, vi 4, vi 1, vi 2, vr a11, vr b1, vr tN_12] [(.int 8), (.int 8)]
    refine own_st (fun _ kS => XS.icmpYes X12.here hx rfl (pc0 := 320) (pc' := 325) rfl (hb hby at_320) rfl (teq (by decide : (8 : Int32) = (8 : Int32))).1 (by decide) (by decide) kS) ?_
    show gs T12 m 325 #[vi p1, vi p2, vi p3, vi p4, vi p5, vi p6, vi kk1, vr wf, vi 4, vi 1, vi 2, vr a11, vr b1, vr tN_12] []
    obtain ⟨cB, Tb, vB⟩ := own_tab2 P12_1 (fun i => by match i with | 0 => exact ⟨_, rfl⟩ | 1 => exact ⟨_, rfl⟩ | 2 => exact ⟨_, rfl⟩ | 3 => exact ⟨_, rfl⟩ | 4 => exact ⟨_, rfl⟩ | 5 => exact ⟨_, rfl⟩ | 6 => exact ⟨_, rfl⟩ | 7 => exact ⟨_, rfl⟩ | _ + 8 => exact ⟨_, rfl⟩)
    obtain ⟨cC, Tc, vC⟩ := own_tab2 (((Arv.ext (((Arv.ext R_C E1).other W3 ne_a11_b1).other W5 ne_a11_b1) E6).keep Kc7 (ninS ne_a11_b6 nin0)).keep Kc12 nin0) (fun i => by match i with | 0 => exact ⟨_, rfl⟩ | 1 => exact ⟨_, rfl⟩ | 2 => exact ⟨_, rfl⟩ | 3 => exact ⟨_, rfl⟩ | _ + 4 => exact ⟨_, rfl⟩)
    have hA0 : own_at 4 1 0 8 cB cC := Or.inr ⟨by decide, by decide, by decide, Or.inl ⟨rfl, by decide, by decide, (vB 0 _ (by decide) rfl).trans ((own_enc c0).trans (congrArg (fun z => z.toInt8.toInt32) ((congrArg (atv cC) (by decide : (0 : Int32) / 4 = 0)).trans (vC 0 _ (by decide) rfl)).symm))⟩⟩
    have hA1 : own_at 4 1 1 8 cB cC := Or.inr ⟨by decide, by decide, by decide, Or.inr (Or.inl ⟨rfl, by decide, vB 1 _ (by decide) rfl⟩)⟩
    have hA2 : own_at 4 1 2 8 cB cC := Or.inr ⟨by decide, by decide, by decide, Or.inr (Or.inl ⟨rfl, by decide, vB 2 _ (by decide) rfl⟩)⟩
    have hA3 : own_at 4 1 3 8 cB cC := Or.inr ⟨by decide, by decide, by decide, Or.inr (Or.inl ⟨rfl, by decide, vB 3 _ (by decide) rfl⟩)⟩
    have hA4 : own_at 4 1 4 8 cB cC := Or.inr ⟨by decide, by decide, by decide, Or.inl ⟨rfl, by decide, by decide, (vB 4 _ (by decide) rfl).trans ((own_enc c1).trans (congrArg (fun z => z.toInt8.toInt32) ((congrArg (atv cC) (by decide : (4 : Int32) / 4 = 1)).trans (vC 1 _ (by decide) rfl)).symm))⟩⟩
    have hA5 : own_at 4 1 5 8 cB cC := Or.inr ⟨by decide, by decide, by decide, Or.inr (Or.inl ⟨rfl, by decide, vB 5 _ (by decide) rfl⟩)⟩
    have hA6 : own_at 4 1 6 8 cB cC := Or.inr ⟨by decide, by decide, by decide, Or.inr (Or.inl ⟨rfl, by decide, vB 6 _ (by decide) rfl⟩)⟩
    have hA7 : own_at 4 1 7 8 cB cC := Or.inr ⟨by decide, by decide, by decide, Or.inr (Or.inl ⟨rfl, by decide, vB 7 _ (by decide) rfl⟩)⟩
    exact sg_T hx hby hml hown hlk hret hZ hw (Nat.le_trans (Nat.le_trans (Nat.le_trans (Nat.le_trans (Nat.le_trans (Nat.le_trans Z0 E1.1) (Keep.of_wr W3).1) (Keep.of_wr W5).1) E6.1) Kc7.1) Kc12.1) hS (Nat.le_trans (Nat.le_trans (Nat.le_trans (Nat.le_trans (Nat.le_trans (Nat.le_trans hk0 E1.1) (Keep.of_wr W3).1) (Keep.of_wr W5).1) E6.1) Kc7.1) Kc12.1) (X12.more (by decide) (by decide)) rfl N12 O12 p1 p2 p3 p4 p5 p6 kk1 wf (4 : Int32) (1 : Int32) (2 : Int32) a11 b1 tN_12 cB cC (8 : Int32) Tb Tc hA0 hA1 hA2 hA3 hA4 hA5 hA6 hA7 (Or.inl (by decide)) (Or.inl (by decide)) (Or.inl (by decide)) (Or.inl (by decide)) (Or.inl (by decide)) (Or.inl (by decide)) (Or.inl (by decide)) (Or.inl (by decide))
  · skip
    show gs T7 m 307 #[vi p1, vi p2, vi p3, vi p4, vi p5, vi p6, vi kk1, vr wf, vi 2, vi 0, vi 2, vr a11, vr b1, .unset] [(.ref b6), (.ref wf)]
    refine oV 0 X7 hx hZ hby hml hown (own_w hw 34 rfl) (own_w hw 35 rfl) (own_w hw 37 rfl) (own_w hw 36 rfl) (rm_enc_2_2_0 l Z a0 hw [] wf b6 tN_7 kN_7 (nar .byte (c0.toInt8.toInt32)) (nar .byte (c1.toInt8.toInt32)) zCS fm T7.heap n0 (Nat.le_trans (Nat.le_trans (Nat.le_trans (Nat.le_trans (Nat.le_trans Z0 E1.1) (Keep.of_wr W3).1) (Keep.of_wr W5).1) E6.1) Kc7.1) O7 Fw Fl P7_0 P7_2 P7_1 P7_3 S_CS P_CS S_SF P_SF) (own_w hw 38 rfl) (own_w hw 2 rfl) rfl (Exa.ext O7.2 Ef) (by decide) own_pd13 at_307 rfl rfl rfl (fun T14 L14 v14 X14 hQ14 => ?_)
    obtain ⟨tN_14, kN_14, rfl, Nq14, Kc14, P14_0, P14_1⟩ := hQ14
    have N14 := Fr.app N7 Nq14
    have ne_a11_tN_14 : a11 ≠ tN_14 := Nat.ne_of_lt (Nat.lt_of_lt_of_le ((Arv.ext (((Arv.ext R_C E1).other W3 ne_a11_b1).other W5 ne_a11_b1) E6).keep Kc7 (ninS ne_a11_b6 nin0)).lt P14_0)
    have ne_b1_tN_14 : b1 ≠ tN_14 := Nat.ne_of_lt (Nat.lt_of_lt_of_le ((Arv.ext RP E6).keep Kc7 (ninS ne_b1_b6 nin0)).lt P14_0)
    have ne_b6_tN_14 : b6 ≠ tN_14 := Nat.ne_of_lt (Nat.lt_of_lt_of_le P7_0.lt P14_0)
    have ne_tN_7_tN_14 : tN_7 ≠ tN_14 := Nat.ne_of_lt (Nat.lt_of_lt_of_le P7_3.lt P14_0)
    have ge_tN_14 : n0 ≤ tN_14 := Nat.le_trans (Nat.le_trans (Nat.le_trans (Nat.le_trans (Nat.le_trans (Nat.le_trans Z0 E1.1) (Keep.of_wr W3).1) (Keep.of_wr W5).1) E6.1) Kc7.1) P14_0
    have O14 := O7.keep Kc14 all0
    show gs T14 m 310 #[vi p1, vi p2, vi p3, vi p4, vi p5, vi p6, vi kk1, vr wf, vi 2, vi 0, vi 2, vr a11, vr b1, .unset] [(.ref tN_14)]
    refine own_st (fun _ kS => XS.astore X14.here hx rfl (hb hby at_310) rfl rfl (l' := #[vi p1, vi p2, vi p3, vi p4, vi p5, vi p6, vi kk1, vr wf, vi 2, vi 0, vi 2, vr a11, vr b1, vr tN_14]) rfl kS) ?_
    refine oaload X14 hx hby at_312 rfl rfl ?_
    show gs T14 m 314 #[vi p1, vi p2, vi p3, vi p4, vi p5, vi p6, vi kk1, vr wf, vi 2, vi 0, vi 2, vr a11, vr b1, vr tN_14] [(.ref tN_14)]
    obtain ⟨cl15, Ar15, qa15, qs15, qn15, qh15, qg15⟩ := id P14_1
    refine own_st (fun _ kS => X14.arraylength hx (Ar15.1) (State.isArrayOf_alike hZ.alike Ar15.2.1) (g := (mkF m 314 #[vi p1, vi p2, vi p3, vi p4, vi p5, vi p6, vi kk1, vr wf, vi 2, vi 0, vi 2, vr a11, vr b1, vr tN_14] [(.ref tN_14)])) rfl rfl (hb hby at_314) _ kS) ?_
    rw [len_of qs15 qn15]
    show gs T14 m 315 #[vi p1, vi p2, vi p3, vi p4, vi p5, vi p6, vi kk1, vr wf, vi 2, vi 0, vi 2, vr a11, vr b1, vr tN_14] [(.int 4)]
    refine oiload X14 hx hby at_315 rfl ?_
    refine oiload X14 hx hby at_317 rfl ?_
    refine own_st (fun _ kS => XS.imul X14.here hx rfl (hb hby at_319) rfl kS) ?_
    show gs T14 m 320 #[vi p1, vi p2, vi p3, vi p4, vi p5, vi p6, vi kk1, vr wf, vi 2, vi 0, vi 2, vr a11, vr b1, vr tN_14] [(.int 4), (.int 4)]
    refine own_st (fun _ kS => XS.icmpYes X14.here hx rfl (pc0 := 320) (pc' := 325) rfl (hb hby at_320) rfl (teq (by decide : (4 : Int32) = (4 : Int32))).1 (by decide) (by decide) kS) ?_
    show gs T14 m 325 #[vi p1, vi p2, vi p3, vi p4, vi p5, vi p6, vi kk1, vr wf, vi 2, vi 0, vi 2, vr a11, vr b1, vr tN_14] []
    obtain ⟨cB, Tb, vB⟩ := own_tab2 P14_1 (fun i => by match i with | 0 => exact ⟨_, rfl⟩ | 1 => exact ⟨_, rfl⟩ | 2 => exact ⟨_, rfl⟩ | 3 => exact ⟨_, rfl⟩ | _ + 4 => exact ⟨_, rfl⟩)
    obtain ⟨cC, Tc, vC⟩ := own_tab2 (((Arv.ext (((Arv.ext R_C E1).other W3 ne_a11_b1).other W5 ne_a11_b1) E6).keep Kc7 (ninS ne_a11_b6 nin0)).keep Kc14 nin0) (fun i => by match i with | 0 => exact ⟨_, rfl⟩ | 1 => exact ⟨_, rfl⟩ | 2 => exact ⟨_, rfl⟩ | 3 => exact ⟨_, rfl⟩ | _ + 4 => exact ⟨_, rfl⟩)
    have hA0 : own_at 2 0 0 4 cB cC := Or.inr ⟨by decide, by decide, by decide, Or.inr (Or.inr (Or.inr ⟨rfl, by decide, vB 0 _ (by decide) rfl⟩))⟩
    have hA1 : own_at 2 0 1 4 cB cC := Or.inr ⟨by decide, by decide, by decide, Or.inr (Or.inr (Or.inl ⟨rfl, by decide, by decide, (vB 1 _ (by decide) rfl).trans ((own_enc c0).trans (congrArg (fun z => z.toInt8.toInt32) ((congrArg (atv cC) (by decide : (1 : Int32) / 2 = 0)).trans (vC 0 _ (by decide) rfl)).symm))⟩))⟩
    have hA2 : own_at 2 0 2 4 cB cC := Or.inr ⟨by decide, by decide, by decide, Or.inr (Or.inr (Or.inr ⟨rfl, by decide, vB 2 _ (by decide) rfl⟩))⟩
    have hA3 : own_at 2 0 3 4 cB cC := Or.inr ⟨by decide, by decide, by decide, Or.inr (Or.inr (Or.inl ⟨rfl, by decide, by decide, (vB 3 _ (by decide) rfl).trans ((own_enc c1).trans (congrArg (fun z => z.toInt8.toInt32) ((congrArg (atv cC) (by decide : (3 : Int32) / 2 = 1)).trans (vC 1 _ (by decide) rfl)).symm))⟩))⟩
    exact sg_T hx hby hml hown hlk hret hZ hw (Nat.le_trans (Nat.le_trans (Nat.le_trans (Nat.le_trans (Nat.le_trans (Nat.le_trans Z0 E1.1) (Keep.of_wr W3).1) (Keep.of_wr W5).1) E6.1) Kc7.1) Kc14.1) hS (Nat.le_trans (Nat.le_trans (Nat.le_trans (Nat.le_trans (Nat.le_trans (Nat.le_trans hk0 E1.1) (Keep.of_wr W3).1) (Keep.of_wr W5).1) E6.1) Kc7.1) Kc14.1) (X14.more (by decide) (by decide)) rfl N14 O14 p1 p2 p3 p4 p5 p6 kk1 wf (2 : Int32) (0 : Int32) (2 : Int32) a11 b1 tN_14 cB cC (4 : Int32) Tb Tc hA0 hA1 hA2 hA3 (Or.inl (by decide)) (Or.inl (by decide)) (Or.inl (by decide)) (Or.inl (by decide)) (Or.inl (by decide)) (Or.inl (by decide)) (Or.inl (by decide)) (Or.inl (by decide)) (Or.inl (by decide)) (Or.inl (by decide)) (Or.inl (by decide)) (Or.inl (by decide))
  · skip
    show gs T7 m 307 #[vi p1, vi p2, vi p3, vi p4, vi p5, vi p6, vi kk1, vr wf, vi 2, vi 1, vi 2, vr a11, vr b1, .unset] [(.ref b6), (.ref wf)]
    refine oV 0 X7 hx hZ hby hml hown (own_w hw 34 rfl) (own_w hw 35 rfl) (own_w hw 37 rfl) (own_w hw 36 rfl) (rm_enc_2_2_1 l Z a0 hw [] wf b6 tN_7 kN_7 (nar .byte (c0.toInt8.toInt32)) (nar .byte (c1.toInt8.toInt32)) zCS fm T7.heap n0 (Nat.le_trans (Nat.le_trans (Nat.le_trans (Nat.le_trans (Nat.le_trans Z0 E1.1) (Keep.of_wr W3).1) (Keep.of_wr W5).1) E6.1) Kc7.1) O7 Fw Fl P7_0 P7_2 P7_1 P7_3 S_CS P_CS S_SF P_SF) (own_w hw 38 rfl) (own_w hw 2 rfl) rfl (Exa.ext O7.2 Ef) (by decide) own_pd13 at_307 rfl rfl rfl (fun T16 L16 v16 X16 hQ16 => ?_)
    obtain ⟨tN_16, kN_16, rfl, Nq16, Kc16, P16_0, P16_1⟩ := hQ16
    have N16 := Fr.app N7 Nq16
    have ne_a11_tN_16 : a11 ≠ tN_16 := Nat.ne_of_lt (Nat.lt_of_lt_of_le ((Arv.ext (((Arv.ext R_C E1).other W3 ne_a11_b1).other W5 ne_a11_b1) E6).keep Kc7 (ninS ne_a11_b6 nin0)).lt P16_0)
    have ne_b1_tN_16 : b1 ≠ tN_16 := Nat.ne_of_lt (Nat.lt_of_lt_of_le ((Arv.ext RP E6).keep Kc7 (ninS ne_b1_b6 nin0)).lt P16_0)
    have ne_b6_tN_16 : b6 ≠ tN_16 := Nat.ne_of_lt (Nat.lt_of_lt_of_le P7_0.lt P16_0)
    have ne_tN_7_tN_16 : tN_7 ≠ tN_16 := Nat.ne_of_lt (Nat.lt_of_lt_of_le P7_3.lt P16_0)
    have ge_tN_16 : n0 ≤ tN_16 := Nat.le_trans (Nat.le_trans (Nat.le_trans (Nat.le_trans (Nat.le_trans (Nat.le_trans Z0 E1.1) (Keep.of_wr W3).1) (Keep.of_wr W5).1) E6.1) Kc7.1) P16_0
    have O16 := O7.keep Kc16 all0
    show gs T16 m 310 #[vi p1, vi p2, vi p3, vi p4, vi p5, vi p6, vi kk1, vr wf, vi 2, vi 1, vi 2, vr a11, vr b1, .unset] [(.ref tN_16)]
    refine own_st (fun _ kS => XS.astore X16.here hx rfl (hb hby at_310) rfl rfl (l' := #[vi p1, vi p2, vi p3, vi p4, vi p5, vi p6, vi kk1, vr wf, vi 2, vi 1, vi 2, vr a11, vr b1, vr tN_16]) rfl kS) ?_
    refine oaload X16 hx hby at_312 rfl rfl ?_
    show gs T16 m 314 #[vi p1, vi p2, vi p3, vi p4, vi p5, vi p6, vi kk1, vr wf, vi 2, vi 1, vi 2, vr a11, vr b1, vr tN_16] [(.ref tN_16)]
    obtain ⟨cl17, Ar17, qa17, qs17, qn17, qh17, qg17⟩ := id P16_1
    refine own_st (fun _ kS => X16.arraylength hx (Ar17.1) (State.isArrayOf_alike hZ.alike Ar17.2.1) (g := (mkF m 314 #[vi p1, vi p2, vi p3, vi p4, vi p5, vi p6, vi kk1, vr wf, vi 2, vi 1, vi 2, vr a11, vr b1, vr tN_16] [(.ref tN_16)])) rfl rfl (hb hby at_314) _ kS) ?_
    rw [len_of qs17 qn17]
    show gs T16 m 315 #[vi p1, vi p2, vi p3, vi p4, vi p5, vi p6, vi kk1, vr wf, vi 2, vi 1, vi 2, vr a11, vr b1, vr tN_16] [(.int 4)]
    refine oiload X16 hx hby at_315 rfl ?_
    refine oiload X16 hx hby at_317 rfl ?_
    refine own_st (fun _ kS => XS.imul X16.here hx rfl (hb hby at_319) rfl kS) ?_
    show gs T16 m 320 #[vi p1, vi p2, vi p3, vi p4, vi p5, vi p6, vi kk1, vr wf, vi 2, vi 1, vi 2, vr a11, vr b1, vr tN_16] [(.int 4), (.int 4)]
    refine own_st (fun _ kS => XS.icmpYes X16.here hx rfl (pc0 := 320) (pc' := 325) rfl (hb hby at_320) rfl (teq (by decide : (4 : Int32) = (4 : Int32))).1 (by decide) (by decide) kS) ?_
    show gs T16 m 325 #[vi p1, vi p2, vi p3, vi p4, vi p5, vi p6, vi kk1, vr wf, vi 2, vi 1, vi 2, vr a11, vr b1, vr tN_16] []
    obtain ⟨cB, Tb, vB⟩ := own_tab2 P16_1 (fun i => by match i with | 0 => exact ⟨_, rfl⟩ | 1 => exact ⟨_, rfl⟩ | 2 => exact ⟨_, rfl⟩ | 3 => exact ⟨_, rfl⟩ | _ + 4 => exact ⟨_, rfl⟩)
    obtain ⟨cC, Tc, vC⟩ := own_tab2 (((Arv.ext (((Arv.ext R_C E1).other W3 ne_a11_b1).other W5 ne_a11_b1) E6).keep Kc7 (ninS ne_a11_b6 nin0)).keep Kc16 nin0) (fun i => by match i with | 0 => exact ⟨_, rfl⟩ | 1 => exact ⟨_, rfl⟩ | 2 => exact ⟨_, rfl⟩ | 3 => exact ⟨_, rfl⟩ | _ + 4 => exact ⟨_, rfl⟩)
    have hA0 : own_at 2 1 0 4 cB cC := Or.inr ⟨by decide, by decide, by decide, Or.inl ⟨rfl, by decide, by decide, (vB 0 _ (by decide) rfl).trans ((own_enc c0).trans (congrArg (fun z => z.toInt8.toInt32) ((congrArg (atv cC) (by decide : (0 : Int32) / 2 = 0)).trans (vC 0 _ (by decide) rfl)).symm))⟩⟩
    have hA1 : own_at 2 1 1 4 cB cC := Or.inr ⟨by decide, by decide, by decide, Or.inr (Or.inl ⟨rfl, by decide, vB 1 _ (by decide) rfl⟩)⟩
    have hA2 : own_at 2 1 2 4 cB cC := Or.inr ⟨by decide, by decide, by decide, Or.inl ⟨rfl, by decide, by decide, (vB 2 _ (by decide) rfl).trans ((own_enc c1).trans (congrArg (fun z => z.toInt8.toInt32) ((congrArg (atv cC) (by decide : (2 : Int32) / 2 = 1)).trans (vC 1 _ (by decide) rfl)).symm))⟩⟩
    have hA3 : own_at 2 1 3 4 cB cC := Or.inr ⟨by decide, by decide, by decide, Or.inr (Or.inl ⟨rfl, by decide, vB 3 _ (by decide) rfl⟩)⟩
    exact sg_T hx hby hml hown hlk hret hZ hw (Nat.le_trans (Nat.le_trans (Nat.le_trans (Nat.le_trans (Nat.le_trans (Nat.le_trans Z0 E1.1) (Keep.of_wr W3).1) (Keep.of_wr W5).1) E6.1) Kc7.1) Kc16.1) hS (Nat.le_trans (Nat.le_trans (Nat.le_trans (Nat.le_trans (Nat.le_trans (Nat.le_trans hk0 E1.1) (Keep.of_wr W3).1) (Keep.of_wr W5).1) E6.1) Kc7.1) Kc16.1) (X16.more (by decide) (by decide)) rfl N16 O16 p1 p2 p3 p4 p5 p6 kk1 wf (2 : Int32) (1 : Int32) (2 : Int32) a11 b1 tN_16 cB cC (4 : Int32) Tb Tc hA0 hA1 hA2 hA3 (Or.inl (by decide)) (Or.inl (by decide)) (Or.inl (by decide)) (Or.inl (by decide)) (Or.inl (by decide)) (Or.inl (by decide)) (Or.inl (by decide)) (Or.inl (by decide)) (Or.inl (by decide)) (Or.inl (by decide)) (Or.inl (by decide)) (Or.inl (by decide))
theorem sg_L3 {p : Program} {l : Launch} {e : Env} {s : State} {m : MethodId} {args : Array Value} {below : List Frame} {meth : Method} {c : Code} {T0 : State} {locs : List Loc} {Z : State} {a0 : Array Value} {h0 : Heap} {n0 : Nat} {vm0 : Vm} {kv0 : Nat} (hx : p.tables.exec = Jvm.exec) (hby : c.code = code) (hml : c.maxLocals = 14) (hown : (s.setVm vm0).vm.findClass "com/example/provenir/provenir/TextEncodingEncodePinLaw" = some m.cls) (hlk : meth.locks = false) (hret : meth.sig.returnType = some .boolean) (hZ : Z.Warmed39 (s.setVm vm0).vm) (hw : HW a0 Z) (Z0 : n0 ≤ h0.size) (hS : s.Since vm0 kv0) (hk0 : kv0 ≤ h0.size)
    (X0 : Stand p l e room_1 (s.setVm vm0) m args below meth c T0 locs 1 4) (e0 : T0.heap = h0) (N0 : Fr n0 locs) (O0 : Old Z n0 h0) (p1 : Int32) (p2 : Int32) (p3 : Int32) (p4 : Int32) (p5 : Int32) (p6 : Int32) (kk1 : Int32) (wf : Addr) (w : Int32) (le : Int32) (a11 : Addr) (kC : ClassId) (c0 : Int32) (c1 : Int32) (c2 : Int32) (c3 : Int32) (zCS : Int32) (fm : Value) (R_C : Arv Z h0 a11 kC .char (4 : Int32) [(.int c0), (.int c1), (.int c2), (.int c3)] (.int 0)) (g_C : n0 ≤ a11) (Ef : ek13 Z Z.heap wf) (Fw : fk10 Z Z.heap wf (.int w)) (Fl : fk11 Z Z.heap wf (.int le)) (S_CS : sk0 Z Z.heap (.int zCS)) (P_CS : ¬ zCS = 0) (S_SF : sk1 Z Z.heap fm) (P_SF : fm.isRef = true) (hC0 : ¬ ((255 : Int32) < c0)) (hC1 : ¬ ((255 : Int32) < c1)) (hC2 : ¬ ((255 : Int32) < c2)) (hC3 : ¬ ((255 : Int32) < c3)) (hn0 : nar .char c0 = c0) (hn1 : nar .char c1 = c1) (hn2 : nar .char c2 = c2) (hW : (w = 1 ∧ le = 0) ∨ (w = 4 ∧ le = 0) ∨ (w = 4 ∧ le = 1) ∨ (w = 2 ∧ le = 0) ∨ (w = 2 ∧ le = 1)) :
    own_G p.tables e below (own_EW s (Q_law n0) room_1.cells room_1.slots) (T0.setTop (mkF m 166 #[vi p1, vi p2, vi p3, vi p4, vi p5, vi p6, vi kk1, vr wf, vi w, vi le, vi 3, vr a11, .unset, .unset] [])) := by
  show gs T0 m 166 #[vi p1, vi p2, vi p3, vi p4, vi p5, vi p6, vi kk1, vr wf, vi w, vi le, vi 3, vr a11, .unset, .unset] []
  refine oiload X0 hx hby at_166 rfl ?_
  refine own_st (fun _ kS => XS.ifYes X0.here hx rfl (pc0 := 168) (pc' := 179) rfl (hb hby at_168) rfl ((if0 _ _).trans (feq (by decide : ¬ ((3 : Int32) = (0 : Int32)))).2) (by decide) (by decide) kS) ?_
  show gs T0 m 179 #[vi p1, vi p2, vi p3, vi p4, vi p5, vi p6, vi kk1, vr wf, vi w, vi le, vi 3, vr a11, .unset, .unset] []
  refine oiload X0 hx hby at_179 rfl ?_
  refine oiconst X0 hx hby at_181 ?_
  refine own_st (fun _ kS => XS.icmpYes X0.here hx rfl (pc0 := 182) (pc' := 200) rfl (hb hby at_182) rfl (feq (by decide : ¬ ((3 : Int32) = (1 : Int32)))).2 (by decide) (by decide) kS) ?_
  show gs T0 m 200 #[vi p1, vi p2, vi p3, vi p4, vi p5, vi p6, vi kk1, vr wf, vi w, vi le, vi 3, vr a11, .unset, .unset] []
  refine oiload X0 hx hby at_200 rfl ?_
  refine oiconst X0 hx hby at_202 ?_
  refine own_st (fun _ kS => XS.icmpYes X0.here hx rfl (pc0 := 203) (pc' := 228) rfl (hb hby at_203) rfl (feq (by decide : ¬ ((3 : Int32) = (2 : Int32)))).2 (by decide) (by decide) kS) ?_
  show gs T0 m 228 #[vi p1, vi p2, vi p3, vi p4, vi p5, vi p6, vi kk1, vr wf, vi w, vi le, vi 3, vr a11, .unset, .unset] []
  refine oiload X0 hx hby at_228 rfl ?_
  refine oiconst X0 hx hby at_230 ?_
  refine own_st (fun _ kS => XS.icmpNo X0.here hx rfl (hb hby at_231) rfl (teq (by decide : (3 : Int32) = (3 : Int32))).2 kS) ?_
  show gs T0 m 234 #[vi p1, vi p2, vi p3, vi p4, vi p5, vi p6, vi kk1, vr wf, vi w, vi le, vi 3, vr a11, .unset, .unset] []
  refine oiconst X0 hx hby at_234 ?_
  show gs T0 m 235 #[vi p1, vi p2, vi p3, vi p4, vi p5, vi p6, vi kk1, vr wf, vi w, vi le, vi 3, vr a11, .unset, .unset] [(.int 3)]
  obtain ⟨T1, h1, k1, X1, e1, E1, A1, st1⟩ := newP X0 hx hZ (own_w hw 4 rfl) e0 (g := (mkF m 235 #[vi p1, vi p2, vi p3, vi p4, vi p5, vi p6, vi kk1, vr wf, vi w, vi le, vi 3, vr a11, .unset, .unset] [(.int 3)])) rfl (hb hby at_235) rfl (by decide) (cap := 3) (by decide) (by decide) (by decide) (by decide)
  obtain ⟨b1, g1⟩ : ∃ z, z = h0.size := ⟨_, rfl⟩
  have ne_a11_b1 : a11 ≠ b1 := Nat.ne_of_lt (Nat.lt_of_lt_of_eq R_C.lt g1.symm)
  have ge_b1 : n0 ≤ b1 := Nat.le_trans Z0 (Nat.le_of_eq g1.symm)
  rw [← g1] at A1 st1
  have O1 := O0.ext E1
  have R1 : Arv Z h1 b1 k1 .char (3 : Int32) [(.int 0), (.int 0), (.int 0)] (.int 0) := (Arv.new A1 (by decide)).pad (pad_rep [] (.int 0) 3)
  refine own_st st1 ?_
  show gs T1 m 237 #[vi p1, vi p2, vi p3, vi p4, vi p5, vi p6, vi kk1, vr wf, vi w, vi le, vi 3, vr a11, .unset, .unset] [(.ref b1)]
  refine own_st (fun _ kS => XS.dup X1.here hx rfl (hb hby at_237) rfl rfl kS) ?_
  refine oiconst X1 hx hby at_238 ?_
  refine oaload X1 hx hby at_239 rfl rfl ?_
  refine oiconst X1 hx hby at_241 ?_
  show gs T1 m 242 #[vi p1, vi p2, vi p3, vi p4, vi p5, vi p6, vi kk1, vr wf, vi w, vi le, vi 3, vr a11, .unset, .unset] [(.int 0), (.ref a11), (.int 0), (.ref b1), (.ref b1)]
  obtain ⟨cl2, Ar2, qa2, qs2, qn2, qh2, qg2⟩ := id (Arv.ext R_C E1)
  refine own_st (fun _ kS => X1.caload hx (j := (0 : Int32)) (v := (.int c0)) (by rw [e1]; exact Ar2.1) (State.isArrayOf_alike hZ.alike Ar2.2.1) Ar2.2.2 (inb_of qs2 ⟨by decide, by decide⟩) (qh2.at (inb_of qs2 ⟨by decide, by decide⟩) rfl) (g := (mkF m 242 #[vi p1, vi p2, vi p3, vi p4, vi p5, vi p6, vi kk1, vr wf, vi w, vi le, vi 3, vr a11, .unset, .unset] [(.int 0), (.ref a11), (.int 0), (.ref b1), (.ref b1)])) rfl rfl (hb hby at_242) _ kS) ?_
  show gs T1 m 243 #[vi p1, vi p2, vi p3, vi p4, vi p5, vi p6, vi kk1, vr wf, vi w, vi le, vi 3, vr a11, .unset, .unset] [(.int c0), (.int 0), (.ref b1), (.ref b1)]
  obtain ⟨cl3, Ar3, qa3, qs3, qn3, qh3, qg3⟩ := id R1
  obtain ⟨T3, h3, X3, e3, W3, st3⟩ := stC X1 hx hZ e1 Ar3 (j := (0 : Int32)) (inb_of qs3 ⟨by decide, by decide⟩) (g := (mkF m 243 #[vi p1, vi p2, vi p3, vi p4, vi p5, vi p6, vi kk1, vr wf, vi w, vi le, vi 3, vr a11, .unset, .unset] [(.int c0), (.int 0), (.ref b1), (.ref b1)])) rfl rfl (hb hby at_243)
  have N3 := Fr.snoc X3 N0 ge_b1
  have O3 := O1.wr W3 ge_b1
  have R3 : Arv Z h3 b1 k1 .char (3 : Int32) [(.int (nar .char c0)), (.int 0), (.int 0)] (.int 0) := Arv.set Ar3 qa3 qs3 qn3 qh3 qg3 (fits_nar_char _) W3 0 rfl (Nat.le_of_ble_eq_true rfl)
  refine own_st st3 ?_
  show gs T3 m 244 #[vi p1, vi p2, vi p3, vi p4, vi p5, vi p6, vi kk1, vr wf, vi w, vi le, vi 3, vr a11, .unset, .unset] [(.ref b1)]
  refine own_st (fun _ kS => XS.dup X3.here hx rfl (hb hby at_244) rfl rfl kS) ?_
  refine oiconst X3 hx hby at_245 ?_
  refine oaload X3 hx hby at_246 rfl rfl ?_
  refine oiconst X3 hx hby at_248 ?_
  show gs T3 m 249 #[vi p1, vi p2, vi p3, vi p4, vi p5, vi p6, vi kk1, vr wf, vi w, vi le, vi 3, vr a11, .unset, .unset] [(.int 1), (.ref a11), (.int 1), (.ref b1), (.ref b1)]
  obtain ⟨cl4, Ar4, qa4, qs4, qn4, qh4, qg4⟩ := id ((Arv.ext R_C E1).other W3 ne_a11_b1)
  refine own_st (fun _ kS => X3.caload hx (j := (1 : Int32)) (v := (.int c1)) (by rw [e3]; exact Ar4.1) (State.isArrayOf_alike hZ.alike Ar4.2.1) Ar4.2.2 (inb_of qs4 ⟨by decide, by decide⟩) (qh4.at (inb_of qs4 ⟨by decide, by decide⟩) rfl) (g := (mkF m 249 #[vi p1, vi p2, vi p3, vi p4, vi p5, vi p6, vi kk1, vr wf, vi w, vi le, vi 3, vr a11, .unset, .unset] [(.int 1), (.ref a11), (.int 1), (.ref b1), (.ref b1)])) rfl rfl (hb hby at_249) _ kS) ?_
  show gs T3 m 250 #[vi p1, vi p2, vi p3, vi p4, vi p5, vi p6, vi kk1, vr wf, vi w, vi le, vi 3, vr a11, .unset, .unset] [(.int c1), (.int 1), (.ref b1), (.ref b1)]
  obtain ⟨cl5, Ar5, qa5, qs5, qn5, qh5, qg5⟩ := id R3
  obtain ⟨T5, h5, X5, e5, W5, st5⟩ := stC X3 hx hZ e3 Ar5 (j := (1 : Int32)) (inb_of qs5 ⟨by decide, by decide⟩) (g := (mkF m 250 #[vi p1, vi p2, vi p3, vi p4, vi p5, vi p6, vi kk1, vr wf, vi w, vi le, vi 3, vr a11, .unset, .unset] [(.int c1), (.int 1), (.ref b1), (.ref b1)])) rfl rfl (hb hby at_250)
  have N5 := Fr.snoc X5 N3 ge_b1
  have O5 := O3.wr W5 ge_b1
  have R5 : Arv Z h5 b1 k1 .char (3 : Int32) [(.int (nar .char c0)), (.int (nar .char c1)), (.int 0)] (.int 0) := Arv.set Ar5 qa5 qs5 qn5 qh5 qg5 (fits_nar_char _) W5 1 rfl (Nat.le_of_ble_eq_true rfl)
  refine own_st st5 ?_
  show gs T5 m 251 #[vi p1, vi p2, vi p3, vi p4, vi p5, vi p6, vi kk1, vr wf, vi w, vi le, vi 3, vr a11, .unset, .unset] [(.ref b1)]
  refine own_st (fun _ kS => XS.dup X5.here hx rfl (hb hby at_251) rfl rfl kS) ?_
  refine oiconst X5 hx hby at_252 ?_
  refine oaload X5 hx hby at_253 rfl rfl ?_
  refine oiconst X5 hx hby at_255 ?_
  show gs T5 m 256 #[vi p1, vi p2, vi p3, vi p4, vi p5, vi p6, vi kk1, vr wf, vi w, vi le, vi 3, vr a11, .unset, .unset] [(.int 2), (.ref a11), (.int 2), (.ref b1), (.ref b1)]
  obtain ⟨cl6, Ar6, qa6, qs6, qn6, qh6, qg6⟩ := id (((Arv.ext R_C E1).other W3 ne_a11_b1).other W5 ne_a11_b1)
  refine own_st (fun _ kS => X5.caload hx (j := (2 : Int32)) (v := (.int c2)) (by rw [e5]; exact Ar6.1) (State.isArrayOf_alike hZ.alike Ar6.2.1) Ar6.2.2 (inb_of qs6 ⟨by decide, by decide⟩) (qh6.at (inb_of qs6 ⟨by decide, by decide⟩) rfl) (g := (mkF m 256 #[vi p1, vi p2, vi p3, vi p4, vi p5, vi p6, vi kk1, vr wf, vi w, vi le, vi 3, vr a11, .unset, .unset] [(.int 2), (.ref a11), (.int 2), (.ref b1), (.ref b1)])) rfl rfl (hb hby at_256) _ kS) ?_
  show gs T5 m 257 #[vi p1, vi p2, vi p3, vi p4, vi p5, vi p6, vi kk1, vr wf, vi w, vi le, vi 3, vr a11, .unset, .unset] [(.int c2), (.int 2), (.ref b1), (.ref b1)]
  obtain ⟨cl7, Ar7, qa7, qs7, qn7, qh7, qg7⟩ := id R5
  obtain ⟨T7, h7, X7, e7, W7, st7⟩ := stC X5 hx hZ e5 Ar7 (j := (2 : Int32)) (inb_of qs7 ⟨by decide, by decide⟩) (g := (mkF m 257 #[vi p1, vi p2, vi p3, vi p4, vi p5, vi p6, vi kk1, vr wf, vi w, vi le, vi 3, vr a11, .unset, .unset] [(.int c2), (.int 2), (.ref b1), (.ref b1)])) rfl rfl (hb hby at_257)
  have N7 := Fr.snoc X7 N5 ge_b1
  have O7 := O5.wr W7 ge_b1
  have R7 : Arv Z h7 b1 k1 .char (3 : Int32) [(.int (nar .char c0)), (.int (nar .char c1)), (.int (nar .char c2))] (.int 0) := Arv.set Ar7 qa7 qs7 qn7 qh7 qg7 (fits_nar_char _) W7 2 rfl (Nat.le_of_ble_eq_true rfl)
  refine own_st st7 ?_
  show gs T7 m 258 #[vi p1, vi p2, vi p3, vi p4, vi p5, vi p6, vi kk1, vr wf, vi w, vi le, vi 3, vr a11, .unset, .unset] [(.ref b1)]
  refine own_st (fun _ kS => XS.astore X7.here hx rfl (hb hby at_258) rfl rfl (l' := #[vi p1, vi p2, vi p3, vi p4, vi p5, vi p6, vi kk1, vr wf, vi w, vi le, vi 3, vr a11, vr b1, .unset]) rfl kS) ?_
  refine own_st (fun _ kS => XS.goto X7.here hx rfl (pc0 := 260) (pc' := 296) rfl (hb hby at_260) (by decide) (by decide) kS) ?_
  show gs T7 m 296 #[vi p1, vi p2, vi p3, vi p4, vi p5, vi p6, vi kk1, vr wf, vi w, vi le, vi 3, vr a11, vr b1, .unset] []
  have RP : Arv Z h7 b1 k1 .char (3 : Int32) [(.int c0), (.int c1), (.int c2)] (.int 0) := by
    have z := R7
    rw [hn0, hn1, hn2] at z
    exact z
  refine oaload X7 hx hby at_296 rfl rfl ?_
  show gs T7 m 298 #[vi p1, vi p2, vi p3, vi p4, vi p5, vi p6, vi kk1, vr wf, vi w, vi le, vi 3, vr a11, vr b1, .unset] [(.ref wf)]
  obtain ⟨T8, h8, X8, e8, E8, A8, D8, -, st8⟩ := newO X7 hx hZ hown (own_w hw 5 rfl) (own_w hw 6 rfl) (own_w hw 7 rfl) e7 (g := (mkF m 298 #[vi p1, vi p2, vi p3, vi p4, vi p5, vi p6, vi kk1, vr wf, vi w, vi le, vi 3, vr a11, vr b1, .unset] [(.ref wf)])) rfl (hb hby at_298) (by decide) (by decide)
  obtain ⟨b8, g8⟩ : ∃ z, z = h7.size := ⟨_, rfl⟩
  have ne_a11_b8 : a11 ≠ b8 := Nat.ne_of_lt (Nat.lt_of_lt_of_eq ((((Arv.ext R_C E1).other W3 ne_a11_b1).other W5 ne_a11_b1).other W7 ne_a11_b1).lt g8.symm)
  have ne_b1_b8 : b1 ≠ b8 := Nat.ne_of_lt (Nat.lt_of_lt_of_eq RP.lt g8.symm)
  have ge_b8 : n0 ≤ b8 := Nat.le_trans (Nat.le_trans (Nat.le_trans (Nat.le_trans (Nat.le_trans Z0 E1.1) (Keep.of_wr W3).1) (Keep.of_wr W5).1) (Keep.of_wr W7).1) (Nat.le_of_eq g8.symm)
  rw [← g8] at A8 D8 st8
  have O8 := O7.ext E8
  have F8_coder : fk8 Z h8 b8 (.int 0) := D8 (Or.inr (own_w hw 31 rfl)) (ty := .byte) (by decide)
  have F8_value : fk9 Z h8 b8 .null := D8 (Or.inr (own_w hw 33 rfl)) (ty := (.array .byte)) (by decide)
  refine own_st st8 ?_
  show gs T8 m 301 #[vi p1, vi p2, vi p3, vi p4, vi p5, vi p6, vi kk1, vr wf, vi w, vi le, vi 3, vr a11, vr b1, .unset] [(.ref b8), (.ref wf)]
  refine own_st (fun _ kS => XS.dup X8.here hx rfl (hb hby at_301) rfl rfl kS) ?_
  refine oaload X8 hx hby at_302 rfl rfl ?_
  refine oN 2 X8 hx hZ hby hml hown (own_w hw 8 rfl) (own_w hw 9 rfl) (own_w hw 7 rfl) (own_w hw 10 rfl) (rm_init1_3 l Z a0 hw [] b8 b1 k1 c0 c1 c2 zCS h8 n0 (Nat.le_trans (Nat.le_trans (Nat.le_trans (Nat.le_trans (Nat.le_trans Z0 E1.1) (Keep.of_wr W3).1) (Keep.of_wr W5).1) (Keep.of_wr W7).1) E8.1) O8 A8 ge_b8 F8_value F8_coder (Ne.symm ne_b1_b8) (Arv.ext RP E8) hC0 hC1 hC2 S_CS P_CS) e8 rfl (by decide) own_pd12 at_304 rfl rfl rfl (fun T9 L9 v9 X9 hQ9 => ?_)
  obtain ⟨tN_9, kN_9, rfl, Nq9, Kc9, P9_0, P9_1, P9_2, P9_3⟩ := hQ9
  have N9 := Fr.app N7 Nq9
  have O9 := O8.keep Kc9 (allS ge_b8 all0)
  show gs T9 m 307 #[vi p1, vi p2, vi p3, vi p4, vi p5, vi p6, vi kk1, vr wf, vi w, vi le, vi 3, vr a11, vr b1, .unset] [(.ref b8), (.ref wf)]
  rcases hW with ⟨rfl, rfl⟩ | ⟨rfl, rfl⟩ | ⟨rfl, rfl⟩ | ⟨rfl, rfl⟩ | ⟨rfl, rfl⟩
  · skip
    show gs T9 m 307 #[vi p1, vi p2, vi p3, vi p4, vi p5, vi p6, vi kk1, vr wf, vi 1, vi 0, vi 3, vr a11, vr b1, .unset] [(.ref b8), (.ref wf)]
    refine oV 0 X9 hx hZ hby hml hown (own_w hw 34 rfl) (own_w hw 35 rfl) (own_w hw 37 rfl) (own_w hw 36 rfl) (rm_enc_3_1_0 l Z a0 hw [] wf b8 tN_9 kN_9 (nar .byte (c0.toInt8.toInt32)) (nar .byte (c1.toInt8.toInt32)) (nar .byte (c2.toInt8.toInt32)) zCS fm T9.heap n0 (Nat.le_trans (Nat.le_trans (Nat.le_trans (Nat.le_trans (Nat.le_trans (Nat.le_trans Z0 E1.1) (Keep.of_wr W3).1) (Keep.of_wr W5).1) (Keep.of_wr W7).1) E8.1) Kc9.1) O9 Fw Fl P9_0 P9_2 P9_1 P9_3 S_CS P_CS S_SF P_SF) (own_w hw 38 rfl) (own_w hw 2 rfl) rfl (Exa.ext O9.2 Ef) (by decide) own_pd13 at_307 rfl rfl rfl (fun T10 L10 v10 X10 hQ10 => ?_)
    obtain ⟨tN_10, kN_10, rfl, Nq10, Kc10, P10_0, P10_1⟩ := hQ10
    have N10 := Fr.app N9 Nq10
    have ne_a11_tN_10 : a11 ≠ tN_10 := Nat.ne_of_lt (Nat.lt_of_lt_of_le ((Arv.ext ((((Arv.ext R_C E1).other W3 ne_a11_b1).other W5 ne_a11_b1).other W7 ne_a11_b1) E8).keep Kc9 (ninS ne_a11_b8 nin0)).lt P10_0)
    have ne_b1_tN_10 : b1 ≠ tN_10 := Nat.ne_of_lt (Nat.lt_of_lt_of_le ((Arv.ext RP E8).keep Kc9 (ninS ne_b1_b8 nin0)).lt P10_0)
    have ne_b8_tN_10 : b8 ≠ tN_10 := Nat.ne_of_lt (Nat.lt_of_lt_of_le P9_0.lt P10_0)
    have ne_tN_9_tN_10 : tN_9 ≠ tN_10 := Nat.ne_of_lt (Nat.lt_of_lt_of_le P9_3.lt P10_0)
    have ge_tN_10 : n0 ≤ tN_10 := Nat.le_trans (Nat.le_trans (Nat.le_trans (Nat.le_trans (Nat.le_trans (Nat.le_trans (Nat.le_trans Z0 E1.1) (Keep.of_wr W3).1) (Keep.of_wr W5).1) (Keep.of_wr W7).1) E8.1) Kc9.1) P10_0
    have O10 := O9.keep Kc10 all0
    show gs T10 m 310 #[vi p1, vi p2, vi p3, vi p4, vi p5, vi p6, vi kk1, vr wf, vi 1, vi 0, vi 3, vr a11, vr b1, .unset] [(.ref tN_10)]
    refine own_st (fun _ kS => XS.astore X10.here hx rfl (hb hby at_310) rfl rfl (l' := #[vi p1, vi p2, vi p3, vi p4, vi p5, vi p6, vi kk1, vr wf, vi 1, vi 0, vi 3, vr a11, vr b1, vr tN_10]) rfl kS) ?_
    refine oaload X10 hx hby at_312 rfl rfl ?_
    show gs T10 m 314 #[vi p1, vi p2, vi p3, vi p4, vi p5, vi p6, vi kk1, vr wf, vi 1, vi 0, vi 3, vr a11, vr b1, vr tN_10] [(.ref tN_10)]
    obtain ⟨cl11, Ar11, qa11, qs11, qn11, qh11, qg11⟩ := id P10_1
    refine own_st (fun _ kS => X10.arraylength hx (Ar11.1) (State.isArrayOf_alike hZ.alike Ar11.2.1) (g := (mkF m 314 #[vi p1, vi p2, vi p3, vi p4, vi p5, vi p6, vi kk1, vr wf, vi 1, vi 0, vi 3, vr a11, vr b1, vr tN_10] [(.ref tN_10)])) rfl rfl (hb hby at_314) _ kS) ?_
    rw [len_of qs11 qn11]
    show gs T10 m 315 #[vi p1, vi p2, vi p3, vi p4, vi p5, vi p6, vi kk1, vr wf, vi 1, vi 0, vi 3, vr a11, vr b1, vr tN_10] [(.int 3)]
    refine oiload X10 hx hby at_315 rfl ?_
    refine oiload X10 hx hby at_317 rfl ?_
    refine own_st (fun _ kS => XS.imul X10.here hx rfl (hb hby at_319) rfl kS) ?_
    show gs T10 m 320 #[vi p1, vi p2, vi p3, vi p4, vi p5, vi p6, vi kk1, vr wf, vi 1, vi 0, vi 3, vr a11, vr b1, vr tN_10] [(.int 3), (.int 3)]
    refine own_st (fun _ kS => XS.icmpYes X10.here hx rfl (pc0 := 320) (pc' := 325) rfl (hb hby at_320) rfl (teq (by decide : (3 : Int32) = (3 : Int32))).1 (by decide) (by decide) kS) ?_
    show gs T10 m 325 #[vi p1, vi p2, vi p3, vi p4, vi p5, vi p6, vi kk1, vr wf, vi 1, vi 0, vi 3, vr a11, vr b1, vr tN_10] []
    obtain ⟨cB, Tb, vB⟩ := own_tab2 P10_1 (fun i => by match i with | 0 => exact ⟨_, rfl⟩ | 1 => exact ⟨_, rfl⟩ | 2 => exact ⟨_, rfl⟩ | _ + 3 => exact ⟨_, rfl⟩)
    obtain ⟨cC, Tc, vC⟩ := own_tab2 (((Arv.ext ((((Arv.ext R_C E1).other W3 ne_a11_b1).other W5 ne_a11_b1).other W7 ne_a11_b1) E8).keep Kc9 (ninS ne_a11_b8 nin0)).keep Kc10 nin0) (fun i => by match i with | 0 => exact ⟨_, rfl⟩ | 1 => exact ⟨_, rfl⟩ | 2 => exact ⟨_, rfl⟩ | 3 => exact ⟨_, rfl⟩ | _ + 4 => exact ⟨_, rfl⟩)
    have hA0 : own_at 1 0 0 3 cB cC := Or.inr ⟨by decide, by decide, by decide, Or.inr (Or.inr (Or.inl ⟨rfl, by decide, by decide, (vB 0 _ (by decide) rfl).trans ((own_enc c0).trans (congrArg (fun z => z.toInt8.toInt32) ((congrArg (atv cC) (by decide : (0 : Int32) / 1 = 0)).trans (vC 0 _ (by decide) rfl)).symm))⟩))⟩
    have hA1 : own_at 1 0 1 3 cB cC := Or.inr ⟨by decide, by decide, by decide, Or.inr (Or.inr (Or.inl ⟨rfl, by decide, by decide, (vB 1 _ (by decide) rfl).trans ((own_enc c1).trans (congrArg (fun z => z.toInt8.toInt32) ((congrArg (atv cC) (by decide : (1 : Int32) / 1 = 1)).trans (vC 1 _ (by decide) rfl)).symm))⟩))⟩
    have hA2 : own_at 1 0 2 3 cB cC := Or.inr ⟨by decide, by decide, by decide, Or.inr (Or.inr (Or.inl ⟨rfl, by decide, by decide, (vB 2 _ (by decide) rfl).trans ((own_enc c2).trans (congrArg (fun z => z.toInt8.toInt32) ((congrArg (atv cC) (by decide : (2 : Int32) / 1 = 2)).trans (vC 2 _ (by decide) rfl)).symm))⟩))⟩
    exact sg_T hx hby hml hown hlk hret hZ hw (Nat.le_trans (Nat.le_trans (Nat.le_trans (Nat.le_trans (Nat.le_trans (Nat.le_trans (Nat.le_trans Z0 E1.1) (Keep.of_wr W3).1) (Keep.of_wr W5).1) (Keep.of_wr W7).1) E8.1) Kc9.1) Kc10.1) hS (Nat.le_trans (Nat.le_trans (Nat.le_trans (Nat.le_trans (Nat.le_trans (Nat.le_trans (Nat.le_trans hk0 E1.1) (Keep.of_wr W3).1) (Keep.of_wr W5).1) (Keep.of_wr W7).1) E8.1) Kc9.1) Kc10.1) (X10.more (by decide) (by decide)) rfl N10 O10 p1 p2 p3 p4 p5 p6 kk1 wf (1 : Int32) (0 : Int32) (3 : Int32) a11 b1 tN_10 cB cC (3 : Int32) Tb Tc hA0 hA1 hA2 (Or.inl (by decide)) (Or.inl (by decide)) (Or.inl (by decide)) (Or.inl (by decide)) (Or.inl (by decide)) (Or.inl (by decide)) (Or.inl (by decide)) (Or.inl (by decide)) (Or.inl (by decide)) (Or.inl (by decide)) (Or.inl (by decide)) (Or.inl (by decide)) (Or.inl (by decide))
  · skip
    show gs T9 m 307 #[vi p1, vi p2, vi p3, vi p4, vi p5, vi p6, vi kk1, vr wf, vi 4, vi 0, vi 3, vr a11, vr b1, .unset] [(.ref b8), (.ref wf)]
    refine oV 0 X9 hx hZ hby hml hown (own_w hw 34 rfl) (own_w hw 35 rfl) (own_w hw 37 rfl) (own_w hw 36 rfl) (rm_enc_3_4_0 l Z a0 hw [] wf b8 tN_9 kN_9 (nar .byte (c0.toInt8.toInt32)) (nar .byte (c1.toInt8.toInt32)) (nar .byte (c2.toInt8.toInt32)) zCS fm T9.heap n0 (Nat.le_trans (Nat.le_trans (Nat.le_trans (Nat.le_trans (Nat.le_trans (Nat.le_trans Z0 E1.1) (Keep.of_wr W3).1) (Keep.of_wr W5).1) (Keep.of_wr W7).1) E8.1) Kc9.1) O9 Fw Fl P9_0 P9_2 P9_1 P9_3 S_CS P_CS S_SF P_SF) (own_w hw 38 rfl) (own_w hw 2 rfl) rfl (Exa.ext O9.2 Ef) (by decide) own_pd13 at_307 rfl rfl rfl (fun T12 L12 v12 X12 hQ12 => ?_)
    obtain ⟨tN_12, kN_12, rfl, Nq12, Kc12, P12_0, P12_1⟩ := hQ12
    have N12 := Fr.app N9 Nq12
    have ne_a11_tN_12 : a11 ≠ tN_12 := Nat.ne_of_lt (Nat.lt_of_lt_of_le ((Arv.ext ((((Arv.ext R_C E1).other W3 ne_a11_b1).other W5 ne_a11_b1).other W7 ne_a11_b1) E8).keep Kc9 (ninS ne_a11_b8 nin0)).lt P12_0)
    have ne_b1_tN_12 : b1 ≠ tN_12 := Nat.ne_of_lt (Nat.lt_of_lt_of_le ((Arv.ext RP E8).keep Kc9 (ninS ne_b1_b8 nin0)).lt P12_0)
    have ne_b8_tN_12 : b8 ≠ tN_12 := Nat.ne_of_lt (Nat.lt_of_lt_of_le P9_0.lt P12_0)
    have ne_tN_9_tN_12 : tN_9 ≠ tN_12 := Nat.ne_of_lt (Nat.lt_of_lt_of_le P9_3.lt P12_0)
    have ge_tN_12 : n0 ≤ tN_12 := Nat.le_trans (Nat.le_trans (Nat.le_trans (Nat.le_trans (Nat.le_trans (Nat.le_trans (Nat.le_trans Z0 E1.1) (Keep.of_wr W3).1) (Keep.of_wr W5).1) (Keep.of_wr W7).1) E8.1) Kc9.1) P12_0
    have O12 := O9.keep Kc12 all0
    show gs T12 m 310 #[vi p1, vi p2, vi p3, vi p4, vi p5, vi p6, vi kk1, vr wf, vi 4, vi 0, vi 3, vr a11, vr b1, .unset] [(.ref tN_12)]
    refine own_st (fun _ kS => XS.astore X12.here hx rfl (hb hby at_310) rfl rfl (l' := #[vi p1, vi p2, vi p3, vi p4, vi p5, vi p6, vi kk1, vr wf, vi 4, vi 0, vi 3, vr a11, vr b1, vr tN_12]) rfl kS) ?_
    refine oaload X12 hx hby at_312 rfl rfl ?_
    show gs T12 m 314 #[vi p1, vi p2, vi p3, vi p4, vi p5, vi p6, vi kk1, vr wf, vi 4, vi 0, vi 3, vr a11, vr b1, vr tN_12] [(.ref tN_12)]
    obtain ⟨cl13, Ar13, qa13, qs13, qn13, qh13, qg13⟩ := id P12_1
    refine own_st (fun _ kS => X12.arraylength hx (Ar13.1) (State.isArrayOf_alike hZ.alike Ar13.2.1) (g := (mkF m 314 #[vi p1, vi p2, vi p3, vi p4, vi p5, vi p6, vi kk1, vr wf, vi 4, vi 0, vi 3, vr a11, vr b1, vr tN_12] [(.ref tN_12)])) rfl rfl (hb hby at_314) _ kS) ?_
    rw [len_of qs13 qn13]
    show gs T12 m 315 #[vi p1, vi p2, vi p3, vi p4, vi p5, vi p6, vi kk1, vr wf, vi 4, vi 0, vi 3, vr a11, vr b1, vr tN_12] [(.int 12)]
    refine oiload X12 hx hby at_315 rfl ?_
    refine oiload X12 hx hby at_317 rfl ?_
    refine own_st (fun _ kS => XS.imul X12.here hx rfl (hb hby at_319) rfl kS) ?_
    show gs T12 m 320 #[vi p1, vi p2, vi p3, vi p4, vi p5, vi p6, vi kk1, vr wf, vi 4, vi 0, vi 3, vr a11, vr b1, vr tN_12] [(.int 12), (.int 12)]
    refine own_st (fun _ kS => XS.icmpYes X12.here hx rfl (pc0 := 320) (pc' := 325) rfl (hb hby at_320) rfl (teq (by decide : (12 : Int32) = (12 : Int32))).1 (by decide) (by decide) kS) ?_
    show gs T12 m 325 #[vi p1, vi p2, vi p3, vi p4, vi p5, vi p6, vi kk1, vr wf, vi 4, vi 0, vi 3, vr a11, vr b1, vr tN_12] []
    obtain ⟨cB, Tb, vB⟩ := own_tab2 P12_1 (fun i => by match i with | 0 => exact ⟨_, rfl⟩ | 1 => exact ⟨_, rfl⟩ | 2 => exact ⟨_, rfl⟩ | 3 => exact ⟨_, rfl⟩ | 4 => exact ⟨_, rfl⟩ | 5 => exact ⟨_, rfl⟩ | 6 => exact ⟨_, rfl⟩ | 7 => exact ⟨_, rfl⟩ | 8 => exact ⟨_, rfl⟩ | 9 => exact ⟨_, rfl⟩ | 10 => exact ⟨_, rfl⟩ | 11 => exact ⟨_, rfl⟩ | _ + 12 => exact ⟨_, rfl⟩)
    obtain ⟨cC, Tc, vC⟩ := own_tab2 (((Arv.ext ((((Arv.ext R_C E1).other W3 ne_a11_b1).other W5 ne_a11_b1).other W7 ne_a11_b1) E8).keep Kc9 (ninS ne_a11_b8 nin0)).keep Kc12 nin0) (fun i => by match i with | 0 => exact ⟨_, rfl⟩ | 1 => exact ⟨_, rfl⟩ | 2 => exact ⟨_, rfl⟩ | 3 => exact ⟨_, rfl⟩ | _ + 4 => exact ⟨_, rfl⟩)
    have hA0 : own_at 4 0 0 12 cB cC := Or.inr ⟨by decide, by decide, by decide, Or.inr (Or.inr (Or.inr ⟨rfl, by decide, vB 0 _ (by decide) rfl⟩))⟩
    have hA1 : own_at 4 0 1 12 cB cC := Or.inr ⟨by decide, by decide, by decide, Or.inr (Or.inr (Or.inr ⟨rfl, by decide, vB 1 _ (by decide) rfl⟩))⟩
    have hA2 : own_at 4 0 2 12 cB cC := Or.inr ⟨by decide, by decide, by decide, Or.inr (Or.inr (Or.inr ⟨rfl, by decide, vB 2 _ (by decide) rfl⟩))⟩
    have hA3 : own_at 4 0 3 12 cB cC := Or.inr ⟨by decide, by decide, by decide, Or.inr (Or.inr (Or.inl ⟨rfl, by decide, by decide, (vB 3 _ (by decide) rfl).trans ((own_enc c0).trans (congrArg (fun z => z.toInt8.toInt32) ((congrArg (atv cC) (by decide : (3 : Int32) / 4 = 0)).trans (vC 0 _ (by decide) rfl)).symm))⟩))⟩
    have hA4 : own_at 4 0 4 12 cB cC := Or.inr ⟨by decide, by decide, by decide, Or.inr (Or.inr (Or.inr ⟨rfl, by decide, vB 4 _ (by decide) rfl⟩))⟩
    have hA5 : own_at 4 0 5 12 cB cC := Or.inr ⟨by decide, by decide, by decide, Or.inr (Or.inr (Or.inr ⟨rfl, by decide, vB 5 _ (by decide) rfl⟩))⟩
    have hA6 : own_at 4 0 6 12 cB cC := Or.inr ⟨by decide, by decide, by decide, Or.inr (Or.inr (Or.inr ⟨rfl, by decide, vB 6 _ (by decide) rfl⟩))⟩
    have hA7 : own_at 4 0 7 12 cB cC := Or.inr ⟨by decide, by decide, by decide, Or.inr (Or.inr (Or.inl ⟨rfl, by decide, by decide, (vB 7 _ (by decide) rfl).trans ((own_enc c1).trans (congrArg (fun z => z.toInt8.toInt32) ((congrArg (atv cC) (by decide : (7 : Int32) / 4 = 1)).trans (vC 1 _ (by decide) rfl)).symm))⟩))⟩
    have hA8 : own_at 4 0 8 12 cB cC := Or.inr ⟨by decide, by decide, by decide, Or.inr (Or.inr (Or.inr ⟨rfl, by decide, vB 8 _ (by decide) rfl⟩))⟩
    have hA9 : own_at 4 0 9 12 cB cC := Or.inr ⟨by decide, by decide, by decide, Or.inr (Or.inr (Or.inr ⟨rfl, by decide, vB 9 _ (by decide) rfl⟩))⟩
    have hA10 : own_at 4 0 10 12 cB cC := Or.inr ⟨by decide, by decide, by decide, Or.inr (Or.inr (Or.inr ⟨rfl, by decide, vB 10 _ (by decide) rfl⟩))⟩
    have hA11 : own_at 4 0 11 12 cB cC := Or.inr ⟨by decide, by decide, by decide, Or.inr (Or.inr (Or.inl ⟨rfl, by decide, by decide, (vB 11 _ (by decide) rfl).trans ((own_enc c2).trans (congrArg (fun z => z.toInt8.toInt32) ((congrArg (atv cC) (by decide : (11 : Int32) / 4 = 2)).trans (vC 2 _ (by decide) rfl)).symm))⟩))⟩
    exact sg_T hx hby hml hown hlk hret hZ hw (Nat.le_trans (Nat.le_trans (Nat.le_trans (Nat.le_trans (Nat.le_trans (Nat.le_trans (Nat.le_trans Z0 E1.1) (Keep.of_wr W3).1) (Keep.of_wr W5).1) (Keep.of_wr W7).1) E8.1) Kc9.1) Kc12.1) hS (Nat.le_trans (Nat.le_trans (Nat.le_trans (Nat.le_trans (Nat.le_trans (Nat.le_trans (Nat.le_trans hk0 E1.1) (Keep.of_wr W3).1) (Keep.of_wr W5).1) (Keep.of_wr W7).1) E8.1) Kc9.1) Kc12.1) (X12.more (by decide) (by decide)) rfl N12 O12 p1 p2 p3 p4 p5 p6 kk1 wf (4 : Int32) (0 : Int32) (3 : Int32) a11 b1 tN_12 cB cC (12 : Int32) Tb Tc hA0 hA1 hA2 hA3 hA4 hA5 hA6 hA7 hA8 hA9 hA10 hA11 (Or.inl (by decide)) (Or.inl (by decide)) (Or.inl (by decide)) (Or.inl (by decide))
  · skip
    show gs T9 m 307 #[vi p1, vi p2, vi p3, vi p4, vi p5, vi p6, vi kk1, vr wf, vi 4, vi 1, vi 3, vr a11, vr b1, .unset] [(.ref b8), (.ref wf)]
    refine oV 0 X9 hx hZ hby hml hown (own_w hw 34 rfl) (own_w hw 35 rfl) (own_w hw 37 rfl) (own_w hw 36 rfl) (rm_enc_3_4_1 l Z a0 hw [] wf b8 tN_9 kN_9 (nar .byte (c0.toInt8.toInt32)) (nar .byte (c1.toInt8.toInt32)) (nar .byte (c2.toInt8.toInt32)) zCS fm T9.heap n0 (Nat.le_trans (Nat.le_trans (Nat.le_trans (Nat.le_trans (Nat.le_trans (Nat.le_trans Z0 E1.1) (Keep.of_wr W3).1) (Keep.of_wr W5).1) (Keep.of_wr W7).1) E8.1) Kc9.1) O9 Fw Fl P9_0 P9_2 P9_1 P9_3 S_CS P_CS S_SF P_SF) (own_w hw 38 rfl) (own_w hw 2 rfl) rfl (Exa.ext O9.2 Ef) (by decide) own_pd13 at_307 rfl rfl rfl (fun T14 L14 v14 X14 hQ14 => ?_)
    obtain ⟨tN_14, kN_14, rfl, Nq14, Kc14, P14_0, P14_1⟩ := hQ14
    have N14 := Fr.app N9 Nq14
    have ne_a11_tN_14 : a11 ≠ tN_14 := Nat.ne_of_lt (Nat.lt_of_lt_of_le ((Arv.ext ((((Arv.ext R_C E1).other W3 ne_a11_b1).other W5 ne_a11_b1).other W7 ne_a11_b1) E8).keep Kc9 (ninS ne_a11_b8 nin0)).lt P14_0)
    have ne_b1_tN_14 : b1 ≠ tN_14 := Nat.ne_of_lt (Nat.lt_of_lt_of_le ((Arv.ext RP E8).keep Kc9 (ninS ne_b1_b8 nin0)).lt P14_0)
    have ne_b8_tN_14 : b8 ≠ tN_14 := Nat.ne_of_lt (Nat.lt_of_lt_of_le P9_0.lt P14_0)
    have ne_tN_9_tN_14 : tN_9 ≠ tN_14 := Nat.ne_of_lt (Nat.lt_of_lt_of_le P9_3.lt P14_0)
    have ge_tN_14 : n0 ≤ tN_14 := Nat.le_trans (Nat.le_trans (Nat.le_trans (Nat.le_trans (Nat.le_trans (Nat.le_trans (Nat.le_trans Z0 E1.1) (Keep.of_wr W3).1) (Keep.of_wr W5).1) (Keep.of_wr W7).1) E8.1) Kc9.1) P14_0
    have O14 := O9.keep Kc14 all0
    show gs T14 m 310 #[vi p1, vi p2, vi p3, vi p4, vi p5, vi p6, vi kk1, vr wf, vi 4, vi 1, vi 3, vr a11, vr b1, .unset] [(.ref tN_14)]
    refine own_st (fun _ kS => XS.astore X14.here hx rfl (hb hby at_310) rfl rfl (l' := #[vi p1, vi p2, vi p3, vi p4, vi p5, vi p6, vi kk1, vr wf, vi 4, vi 1, vi 3, vr a11, vr b1, vr tN_14]) rfl kS) ?_
    refine oaload X14 hx hby at_312 rfl rfl ?_
    show gs T14 m 314 #[vi p1, vi p2, vi p3, vi p4, vi p5, vi p6, vi kk1, vr wf, vi 4, vi 1, vi 3, vr a11, vr b1, vr tN_14] [(.ref tN_14)]
    obtain ⟨cl15, Ar15, qa15, qs15, qn15, qh15, qg15⟩ := id P14_1
    refine own_st (fun _ kS => X14.arraylength hx (Ar15.1) (State.isArrayOf_alike hZ.alike Ar15.2.1) (g := (mkF m 314 #[vi p1, vi p2, vi p3, vi p4, vi p5, vi p6, vi kk1, vr wf, vi 4, vi 1, vi 3, vr a11, vr b1, vr tN_14] [(.ref tN_14)])) rfl rfl (hb hby at_314) _ kS) ?_
    rw [len_of qs15 qn15]
    show gs T14 m 315 #[vi p1, vi p2, vi p3, vi p4, vi p5, vi p6, vi kk1, vr wf, vi 4, vi 1, vi 3, vr a11, vr b1, vr tN_14] [(.int 12)]
    refine oiload X14 hx hby at_315 rfl ?_
    refine oiload X14 hx hby at_317 rfl ?_
    refine own_st (fun _ kS => XS.imul X14.here hx rfl (hb hby at_319) rfl kS) ?_
    show gs T14 m 320 #[vi p1, vi p2, vi p3, vi p4, vi p5, vi p6, vi kk1, vr wf, vi 4, vi 1, vi 3, vr a11, vr b1, vr tN_14] [(.int 12), (.int 12)]
    refine own_st (fun _ kS => XS.icmpYes X14.here hx rfl (pc0 := 320) (pc' := 325) rfl (hb hby at_320) rfl (teq (by decide : (12 : Int32) = (12 : Int32))).1 (by decide) (by decide) kS) ?_
    show gs T14 m 325 #[vi p1, vi p2, vi p3, vi p4, vi p5, vi p6, vi kk1, vr wf, vi 4, vi 1, vi 3, vr a11, vr b1, vr tN_14] []
    obtain ⟨cB, Tb, vB⟩ := own_tab2 P14_1 (fun i => by match i with | 0 => exact ⟨_, rfl⟩ | 1 => exact ⟨_, rfl⟩ | 2 => exact ⟨_, rfl⟩ | 3 => exact ⟨_, rfl⟩ | 4 => exact ⟨_, rfl⟩ | 5 => exact ⟨_, rfl⟩ | 6 => exact ⟨_, rfl⟩ | 7 => exact ⟨_, rfl⟩ | 8 => exact ⟨_, rfl⟩ | 9 => exact ⟨_, rfl⟩ | 10 => exact ⟨_, rfl⟩ | 11 => exact ⟨_, rfl⟩ | _ + 12 => exact ⟨_, rfl⟩)
    obtain ⟨cC, Tc, vC⟩ := own_tab2 (((Arv.ext ((((Arv.ext R_C E1).other W3 ne_a11_b1).other W5 ne_a11_b1).other W7 ne_a11_b1) E8).keep Kc9 (ninS ne_a11_b8 nin0)).keep Kc14 nin0) (fun i => by match i with | 0 => exact ⟨_, rfl⟩ | 1 => exact ⟨_, rfl⟩ | 2 => exact ⟨_, rfl⟩ | 3 => exact ⟨_, rfl⟩ | _ + 4 => exact ⟨_, rfl⟩)
    have hA0 : own_at 4 1 0 12 cB cC := Or.inr ⟨by decide, by decide, by decide, Or.inl ⟨rfl, by decide, by decide, (vB 0 _ (by decide) rfl).trans ((own_enc c0).trans (congrArg (fun z => z.toInt8.toInt32) ((congrArg (atv cC) (by decide : (0 : Int32) / 4 = 0)).trans (vC 0 _ (by decide) rfl)).symm))⟩⟩
    have hA1 : own_at 4 1 1 12 cB cC := Or.inr ⟨by decide, by decide, by decide, Or.inr (Or.inl ⟨rfl, by decide, vB 1 _ (by decide) rfl⟩)⟩
    have hA2 : own_at 4 1 2 12 cB cC := Or.inr ⟨by decide, by decide, by decide, Or.inr (Or.inl ⟨rfl, by decide, vB 2 _ (by decide) rfl⟩)⟩
    have hA3 : own_at 4 1 3 12 cB cC := Or.inr ⟨by decide, by decide, by decide, Or.inr (Or.inl ⟨rfl, by decide, vB 3 _ (by decide) rfl⟩)⟩
    have hA4 : own_at 4 1 4 12 cB cC := Or.inr ⟨by decide, by decide, by decide, Or.inl ⟨rfl, by decide, by decide, (vB 4 _ (by decide) rfl).trans ((own_enc c1).trans (congrArg (fun z => z.toInt8.toInt32) ((congrArg (atv cC) (by decide : (4 : Int32) / 4 = 1)).trans (vC 1 _ (by decide) rfl)).symm))⟩⟩
    have hA5 : own_at 4 1 5 12 cB cC := Or.inr ⟨by decide, by decide, by decide, Or.inr (Or.inl ⟨rfl, by decide, vB 5 _ (by decide) rfl⟩)⟩
    have hA6 : own_at 4 1 6 12 cB cC := Or.inr ⟨by decide, by decide, by decide, Or.inr (Or.inl ⟨rfl, by decide, vB 6 _ (by decide) rfl⟩)⟩
    have hA7 : own_at 4 1 7 12 cB cC := Or.inr ⟨by decide, by decide, by decide, Or.inr (Or.inl ⟨rfl, by decide, vB 7 _ (by decide) rfl⟩)⟩
    have hA8 : own_at 4 1 8 12 cB cC := Or.inr ⟨by decide, by decide, by decide, Or.inl ⟨rfl, by decide, by decide, (vB 8 _ (by decide) rfl).trans ((own_enc c2).trans (congrArg (fun z => z.toInt8.toInt32) ((congrArg (atv cC) (by decide : (8 : Int32) / 4 = 2)).trans (vC 2 _ (by decide) rfl)).symm))⟩⟩
    have hA9 : own_at 4 1 9 12 cB cC := Or.inr ⟨by decide, by decide, by decide, Or.inr (Or.inl ⟨rfl, by decide, vB 9 _ (by decide) rfl⟩)⟩
    have hA10 : own_at 4 1 10 12 cB cC := Or.inr ⟨by decide, by decide, by decide, Or.inr (Or.inl ⟨rfl, by decide, vB 10 _ (by decide) rfl⟩)⟩
    have hA11 : own_at 4 1 11 12 cB cC := Or.inr ⟨by decide, by decide, by decide, Or.inr (Or.inl ⟨rfl, by decide, vB 11 _ (by decide) rfl⟩)⟩
    exact sg_T hx hby hml hown hlk hret hZ hw (Nat.le_trans (Nat.le_trans (Nat.le_trans (Nat.le_trans (Nat.le_trans (Nat.le_trans (Nat.le_trans Z0 E1.1) (Keep.of_wr W3).1) (Keep.of_wr W5).1) (Keep.of_wr W7).1) E8.1) Kc9.1) Kc14.1) hS (Nat.le_trans (Nat.le_trans (Nat.le_trans (Nat.le_trans (Nat.le_trans (Nat.le_trans (Nat.le_trans hk0 E1.1) (Keep.of_wr W3).1) (Keep.of_wr W5).1) (Keep.of_wr W7).1) E8.1) Kc9.1) Kc14.1) (X14.more (by decide) (by decide)) rfl N14 O14 p1 p2 p3 p4 p5 p6 kk1 wf (4 : Int32) (1 : Int32) (3 : Int32) a11 b1 tN_14 cB cC (12 : Int32) Tb Tc hA0 hA1 hA2 hA3 hA4 hA5 hA6 hA7 hA8 hA9 hA10 hA11 (Or.inl (by decide)) (Or.inl (by decide)) (Or.inl (by decide)) (Or.inl (by decide))
  · skip
    show gs T9 m 307 #[vi p1, vi p2, vi p3, vi p4, vi p5, vi p6, vi kk1, vr wf, vi 2, vi 0, vi 3, vr a11, vr b1, .unset] [(.ref b8), (.ref wf)]
    refine oV 0 X9 hx hZ hby hml hown (own_w hw 34 rfl) (own_w hw 35 rfl) (own_w hw 37 rfl) (own_w hw 36 rfl) (rm_enc_3_2_0 l Z a0 hw [] wf b8 tN_9 kN_9 (nar .byte (c0.toInt8.toInt32)) (nar .byte (c1.toInt8.toInt32)) (nar .byte (c2.toInt8.toInt32)) zCS fm T9.heap n0 (Nat.le_trans (Nat.le_trans (Nat.le_trans (Nat.le_trans (Nat.le_trans (Nat.le_trans Z0 E1.1) (Keep.of_wr W3).1) (Keep.of_wr W5).1) (Keep.of_wr W7).1) E8.1) Kc9.1) O9 Fw Fl P9_0 P9_2 P9_1 P9_3 S_CS P_CS S_SF P_SF) (own_w hw 38 rfl) (own_w hw 2 rfl) rfl (Exa.ext O9.2 Ef) (by decide) own_pd13 at_307 rfl rfl rfl (fun T16 L16 v16 X16 hQ16 => ?_)
    obtain ⟨tN_16, kN_16, rfl, Nq16, Kc16, P16_0, P16_1⟩ := hQ16
    have N16 := Fr.app N9 Nq16
    have ne_a11_tN_16 : a11 ≠ tN_16 := Nat.ne_of_lt (Nat.lt_of_lt_of_le ((Arv.ext ((((Arv.ext R_C E1).other W3 ne_a11_b1).other W5 ne_a11_b1).other W7 ne_a11_b1) E8).keep Kc9 (ninS ne_a11_b8 nin0)).lt P16_0)
    have ne_b1_tN_16 : b1 ≠ tN_16 := Nat.ne_of_lt (Nat.lt_of_lt_of_le ((Arv.ext RP E8).keep Kc9 (ninS ne_b1_b8 nin0)).lt P16_0)
    have ne_b8_tN_16 : b8 ≠ tN_16 := Nat.ne_of_lt (Nat.lt_of_lt_of_le P9_0.lt P16_0)
    have ne_tN_9_tN_16 : tN_9 ≠ tN_16 := Nat.ne_of_lt (Nat.lt_of_lt_of_le P9_3.lt P16_0)
    have ge_tN_16 : n0 ≤ tN_16 := Nat.le_trans (Nat.le_trans (Nat.le_trans (Nat.le_trans (Nat.le_trans (Nat.le_trans (Nat.le_trans Z0 E1.1) (Keep.of_wr W3).1) (Keep.of_wr W5).1) (Keep.of_wr W7).1) E8.1) Kc9.1) P16_0
    have O16 := O9.keep Kc16 all0
    show gs T16 m 310 #[vi p1, vi p2, vi p3, vi p4, vi p5, vi p6, vi kk1, vr wf, vi 2, vi 0, vi 3, vr a11, vr b1, .unset] [(.ref tN_16)]
    refine own_st (fun _ kS => XS.astore X16.here hx rfl (hb hby at_310) rfl rfl (l' := #[vi p1, vi p2, vi p3, vi p4, vi p5, vi p6, vi kk1, vr wf, vi 2, vi 0, vi 3, vr a11, vr b1, vr tN_16]) rfl kS) ?_
    refine oaload X16 hx hby at_312 rfl rfl ?_
    show gs T16 m 314 #[vi p1, vi p2, vi p3, vi p4, vi p5, vi p6, vi kk1, vr wf, vi 2, vi 0, vi 3, vr a11, vr b1, vr tN_16] [(.ref tN_16)]
    obtain ⟨cl17, Ar17, qa17, qs17, qn17, qh17, qg17⟩ := id P16_1
    refine own_st (fun _ kS => X16.arraylength hx (Ar17.1) (State.isArrayOf_alike hZ.alike Ar17.2.1) (g := (mkF m 314 #[vi p1, vi p2, vi p3, vi p4, vi p5, vi p6, vi kk1, vr wf, vi 2, vi 0, vi 3, vr a11, vr b1, vr tN_16] [(.ref tN_16)])) rfl rfl (hb hby at_314) _ kS) ?_
    rw [len_of qs17 qn17]
    show gs T16 m 315 #[vi p1, vi p2, vi p3, vi p4, vi p5, vi p6, vi kk1, vr wf, vi 2, vi 0, vi 3, vr a11, vr b1, vr tN_16] [(.int 6)]
    refine oiload X16 hx hby at_315 rfl ?_
    refine oiload X16 hx hby at_317 rfl ?_
    refine own_st (fun _ kS => XS.imul X16.here hx rfl (hb hby at_319) rfl kS) ?_
    show gs T16 m 320 #[vi p1, vi p2, vi p3, vi p4, vi p5, vi p6, vi kk1, vr wf, vi 2, vi 0, vi 3, vr a11, vr b1, vr tN_16] [(.int 6), (.int 6)]
    refine own_st (fun _ kS => XS.icmpYes X16.here hx rfl (pc0 := 320) (pc' := 325) rfl (hb hby at_320) rfl (teq (by decide : (6 : Int32) = (6 : Int32))).1 (by decide) (by decide) kS) ?_
    show gs T16 m 325 #[vi p1, vi p2, vi p3, vi p4, vi p5, vi p6, vi kk1, vr wf, vi 2, vi 0, vi 3, vr a11, vr b1, vr tN_16] []
    obtain ⟨cB, Tb, vB⟩ := own_tab2 P16_1 (fun i => by match i with | 0 => exact ⟨_, rfl⟩ | 1 => exact ⟨_, rfl⟩ | 2 => exact ⟨_, rfl⟩ | 3 => exact ⟨_, rfl⟩ | 4 => exact ⟨_, rfl⟩ | 5 => exact ⟨_, rfl⟩ | _ + 6 => exact ⟨_, rfl⟩)
    obtain ⟨cC, Tc, vC⟩ := own_tab2 (((Arv.ext ((((Arv.ext R_C E1).other W3 ne_a11_b1).other W5 ne_a11_b1).other W7 ne_a11_b1) E8).keep Kc9 (ninS ne_a11_b8 nin0)).keep Kc16 nin0) (fun i => by match i with | 0 => exact ⟨_, rfl⟩ | 1 => exact ⟨_, rfl⟩ | 2 => exact ⟨_, rfl⟩ | 3 => exact ⟨_, rfl⟩ | _ + 4 => exact ⟨_, rfl⟩)
    have hA0 : own_at 2 0 0 6 cB cC := Or.inr ⟨by decide, by decide, by decide, Or.inr (Or.inr (Or.inr ⟨rfl, by decide, vB 0 _ (by decide) rfl⟩))⟩
    have hA1 : own_at 2 0 1 6 cB cC := Or.inr ⟨by decide, by decide, by decide, Or.inr (Or.inr (Or.inl ⟨rfl, by decide, by decide, (vB 1 _ (by decide) rfl).trans ((own_enc c0).trans (congrArg (fun z => z.toInt8.toInt32) ((congrArg (atv cC) (by decide : (1 : Int32) / 2 = 0)).trans (vC 0 _ (by decide) rfl)).symm))⟩))⟩
    have hA2 : own_at 2 0 2 6 cB cC := Or.inr ⟨by decide, by decide, by decide, Or.inr (Or.inr (Or.inr ⟨rfl, by decide, vB 2 _ (by decide) rfl⟩))⟩
    have hA3 : own_at 2 0 3 6 cB cC := Or.inr ⟨by decide, by decide, by decide, Or.inr (Or.inr (Or.inl ⟨rfl, by decide, by decide, (vB 3 _ (by decide) rfl).trans ((own_enc c1).trans (congrArg (fun z => z.toInt8.toInt32) ((congrArg (atv cC) (by decide : (3 : Int32) / 2 = 1)).trans (vC 1 _ (by decide) rfl)).symm))⟩))⟩
    have hA4 : own_at 2 0 4 6 cB cC := Or.inr ⟨by decide, by decide, by decide, Or.inr (Or.inr (Or.inr ⟨rfl, by decide, vB 4 _ (by decide) rfl⟩))⟩
    have hA5 : own_at 2 0 5 6 cB cC := Or.inr ⟨by decide, by decide, by decide, Or.inr (Or.inr (Or.inl ⟨rfl, by decide, by decide, (vB 5 _ (by decide) rfl).trans ((own_enc c2).trans (congrArg (fun z => z.toInt8.toInt32) ((congrArg (atv cC) (by decide : (5 : Int32) / 2 = 2)).trans (vC 2 _ (by decide) rfl)).symm))⟩))⟩
    exact sg_T hx hby hml hown hlk hret hZ hw (Nat.le_trans (Nat.le_trans (Nat.le_trans (Nat.le_trans (Nat.le_trans (Nat.le_trans (Nat.le_trans Z0 E1.1) (Keep.of_wr W3).1) (Keep.of_wr W5).1) (Keep.of_wr W7).1) E8.1) Kc9.1) Kc16.1) hS (Nat.le_trans (Nat.le_trans (Nat.le_trans (Nat.le_trans (Nat.le_trans (Nat.le_trans (Nat.le_trans hk0 E1.1) (Keep.of_wr W3).1) (Keep.of_wr W5).1) (Keep.of_wr W7).1) E8.1) Kc9.1) Kc16.1) (X16.more (by decide) (by decide)) rfl N16 O16 p1 p2 p3 p4 p5 p6 kk1 wf (2 : Int32) (0 : Int32) (3 : Int32) a11 b1 tN_16 cB cC (6 : Int32) Tb Tc hA0 hA1 hA2 hA3 hA4 hA5 (Or.inl (by decide)) (Or.inl (by decide)) (Or.inl (by decide)) (Or.inl (by decide)) (Or.inl (by decide)) (Or.inl (by decide)) (Or.inl (by decide)) (Or.inl (by decide)) (Or.inl (by decide)) (Or.inl (by decide))
  · skip
    show gs T9 m 307 #[vi p1, vi p2, vi p3, vi p4, vi p5, vi p6, vi kk1, vr wf, vi 2, vi 1, vi 3, vr a11, vr b1, .unset] [(.ref b8), (.ref wf)]
    refine oV 0 X9 hx hZ hby hml hown (own_w hw 34 rfl) (own_w hw 35 rfl) (own_w hw 37 rfl) (own_w hw 36 rfl) (rm_enc_3_2_1 l Z a0 hw [] wf b8 tN_9 kN_9 (nar .byte (c0.toInt8.toInt32)) (nar .byte (c1.toInt8.toInt32)) (nar .byte (c2.toInt8.toInt32)) zCS fm T9.heap n0 (Nat.le_trans (Nat.le_trans (Nat.le_trans (Nat.le_trans (Nat.le_trans (Nat.le_trans Z0 E1.1) (Keep.of_wr W3).1) (Keep.of_wr W5).1) (Keep.of_wr W7).1) E8.1) Kc9.1) O9 Fw Fl P9_0 P9_2 P9_1 P9_3 S_CS P_CS S_SF P_SF) (own_w hw 38 rfl) (own_w hw 2 rfl) rfl (Exa.ext O9.2 Ef) (by decide) own_pd13 at_307 rfl rfl rfl (fun T18 L18 v18 X18 hQ18 => ?_)
    obtain ⟨tN_18, kN_18, rfl, Nq18, Kc18, P18_0, P18_1⟩ := hQ18
    have N18 := Fr.app N9 Nq18
    have ne_a11_tN_18 : a11 ≠ tN_18 := Nat.ne_of_lt (Nat.lt_of_lt_of_le ((Arv.ext ((((Arv.ext R_C E1).other W3 ne_a11_b1).other W5 ne_a11_b1).other W7 ne_a11_b1) E8).keep Kc9 (ninS ne_a11_b8 nin0)).lt P18_0)
    have ne_b1_tN_18 : b1 ≠ tN_18 := Nat.ne_of_lt (Nat.lt_of_lt_of_le ((Arv.ext RP E8).keep Kc9 (ninS ne_b1_b8 nin0)).lt P18_0)
    have ne_b8_tN_18 : b8 ≠ tN_18 := Nat.ne_of_lt (Nat.lt_of_lt_of_le P9_0.lt P18_0)
    have ne_tN_9_tN_18 : tN_9 ≠ tN_18 := Nat.ne_of_lt (Nat.lt_of_lt_of_le P9_3.lt P18_0)
    have ge_tN_18 : n0 ≤ tN_18 := Nat.le_trans (Nat.le_trans (Nat.le_trans (Nat.le_trans (Nat.le_trans (Nat.le_trans (Nat.le_trans Z0 E1.1) (Keep.of_wr W3).1) (Keep.of_wr W5).1) (Keep.of_wr W7).1) E8.1) Kc9.1) P18_0
    have O18 := O9.keep Kc18 all0
    show gs T18 m 310 #[vi p1, vi p2, vi p3, vi p4, vi p5, vi p6, vi kk1, vr wf, vi 2, vi 1, vi 3, vr a11, vr b1, .unset] [(.ref tN_18)]
    refine own_st (fun _ kS => XS.astore X18.here hx rfl (hb hby at_310) rfl rfl (l' := #[vi p1, vi p2, vi p3, vi p4, vi p5, vi p6, vi kk1, vr wf, vi 2, vi 1, vi 3, vr a11, vr b1, vr tN_18]) rfl kS) ?_
    refine oaload X18 hx hby at_312 rfl rfl ?_
    show gs T18 m 314 #[vi p1, vi p2, vi p3, vi p4, vi p5, vi p6, vi kk1, vr wf, vi 2, vi 1, vi 3, vr a11, vr b1, vr tN_18] [(.ref tN_18)]
    obtain ⟨cl19, Ar19, qa19, qs19, qn19, qh19, qg19⟩ := id P18_1
    refine own_st (fun _ kS => X18.arraylength hx (Ar19.1) (State.isArrayOf_alike hZ.alike Ar19.2.1) (g := (mkF m 314 #[vi p1, vi p2, vi p3, vi p4, vi p5, vi p6, vi kk1, vr wf, vi 2, vi 1, vi 3, vr a11, vr b1, vr tN_18] [(.ref tN_18)])) rfl rfl (hb hby at_314) _ kS) ?_
    rw [len_of qs19 qn19]
    show gs T18 m 315 #[vi p1, vi p2, vi p3, vi p4, vi p5, vi p6, vi kk1, vr wf, vi 2, vi 1, vi 3, vr a11, vr b1, vr tN_18] [(.int 6)]
    refine oiload X18 hx hby at_315 rfl ?_
    refine oiload X18 hx hby at_317 rfl ?_
    refine own_st (fun _ kS => XS.imul X18.here hx rfl (hb hby at_319) rfl kS) ?_
    show gs T18 m 320 #[vi p1, vi p2, vi p3, vi p4, vi p5, vi p6, vi kk1, vr wf, vi 2, vi 1, vi 3, vr a11, vr b1, vr tN_18] [(.int 6), (.int 6)]
    refine own_st (fun _ kS => XS.icmpYes X18.here hx rfl (pc0 := 320) (pc' := 325) rfl (hb hby at_320) rfl (teq (by decide : (6 : Int32) = (6 : Int32))).1 (by decide) (by decide) kS) ?_
    show gs T18 m 325 #[vi p1, vi p2, vi p3, vi p4, vi p5, vi p6, vi kk1, vr wf, vi 2, vi 1, vi 3, vr a11, vr b1, vr tN_18] []
    obtain ⟨cB, Tb, vB⟩ := own_tab2 P18_1 (fun i => by match i with | 0 => exact ⟨_, rfl⟩ | 1 => exact ⟨_, rfl⟩ | 2 => exact ⟨_, rfl⟩ | 3 => exact ⟨_, rfl⟩ | 4 => exact ⟨_, rfl⟩ | 5 => exact ⟨_, rfl⟩ | _ + 6 => exact ⟨_, rfl⟩)
    obtain ⟨cC, Tc, vC⟩ := own_tab2 (((Arv.ext ((((Arv.ext R_C E1).other W3 ne_a11_b1).other W5 ne_a11_b1).other W7 ne_a11_b1) E8).keep Kc9 (ninS ne_a11_b8 nin0)).keep Kc18 nin0) (fun i => by match i with | 0 => exact ⟨_, rfl⟩ | 1 => exact ⟨_, rfl⟩ | 2 => exact ⟨_, rfl⟩ | 3 => exact ⟨_, rfl⟩ | _ + 4 => exact ⟨_, rfl⟩)
    have hA0 : own_at 2 1 0 6 cB cC := Or.inr ⟨by decide, by decide, by decide, Or.inl ⟨rfl, by decide, by decide, (vB 0 _ (by decide) rfl).trans ((own_enc c0).trans (congrArg (fun z => z.toInt8.toInt32) ((congrArg (atv cC) (by decide : (0 : Int32) / 2 = 0)).trans (vC 0 _ (by decide) rfl)).symm))⟩⟩
    have hA1 : own_at 2 1 1 6 cB cC := Or.inr ⟨by decide, by decide, by decide, Or.inr (Or.inl ⟨rfl, by decide, vB 1 _ (by decide) rfl⟩)⟩
    have hA2 : own_at 2 1 2 6 cB cC := Or.inr ⟨by decide, by decide, by decide, Or.inl ⟨rfl, by decide, by decide, (vB 2 _ (by decide) rfl).trans ((own_enc c1).trans (congrArg (fun z => z.toInt8.toInt32) ((congrArg (atv cC) (by decide : (2 : Int32) / 2 = 1)).trans (vC 1 _ (by decide) rfl)).symm))⟩⟩
    have hA3 : own_at 2 1 3 6 cB cC := Or.inr ⟨by decide, by decide, by decide, Or.inr (Or.inl ⟨rfl, by decide, vB 3 _ (by decide) rfl⟩)⟩
    have hA4 : own_at 2 1 4 6 cB cC := Or.inr ⟨by decide, by decide, by decide, Or.inl ⟨rfl, by decide, by decide, (vB 4 _ (by decide) rfl).trans ((own_enc c2).trans (congrArg (fun z => z.toInt8.toInt32) ((congrArg (atv cC) (by decide : (4 : Int32) / 2 = 2)).trans (vC 2 _ (by decide) rfl)).symm))⟩⟩
    have hA5 : own_at 2 1 5 6 cB cC := Or.inr ⟨by decide, by decide, by decide, Or.inr (Or.inl ⟨rfl, by decide, vB 5 _ (by decide) rfl⟩)⟩
    exact sg_T hx hby hml hown hlk hret hZ hw (Nat.le_trans (Nat.le_trans (Nat.le_trans (Nat.le_trans (Nat.le_trans (Nat.le_trans (Nat.le_trans Z0 E1.1) (Keep.of_wr W3).1) (Keep.of_wr W5).1) (Keep.of_wr W7).1) E8.1) Kc9.1) Kc18.1) hS (Nat.le_trans (Nat.le_trans (Nat.le_trans (Nat.le_trans (Nat.le_trans (Nat.le_trans (Nat.le_trans hk0 E1.1) (Keep.of_wr W3).1) (Keep.of_wr W5).1) (Keep.of_wr W7).1) E8.1) Kc9.1) Kc18.1) (X18.more (by decide) (by decide)) rfl N18 O18 p1 p2 p3 p4 p5 p6 kk1 wf (2 : Int32) (1 : Int32) (3 : Int32) a11 b1 tN_18 cB cC (6 : Int32) Tb Tc hA0 hA1 hA2 hA3 hA4 hA5 (Or.inl (by decide)) (Or.inl (by decide)) (Or.inl (by decide)) (Or.inl (by decide)) (Or.inl (by decide)) (Or.inl (by decide)) (Or.inl (by decide)) (Or.inl (by decide)) (Or.inl (by decide)) (Or.inl (by decide))
theorem sg_L4 {p : Program} {l : Launch} {e : Env} {s : State} {m : MethodId} {args : Array Value} {below : List Frame} {meth : Method} {c : Code} {T0 : State} {locs : List Loc} {Z : State} {a0 : Array Value} {h0 : Heap} {n0 : Nat} {vm0 : Vm} {kv0 : Nat} (hx : p.tables.exec = Jvm.exec) (hby : c.code = code) (hml : c.maxLocals = 14) (hown : (s.setVm vm0).vm.findClass "com/example/provenir/provenir/TextEncodingEncodePinLaw" = some m.cls) (hlk : meth.locks = false) (hret : meth.sig.returnType = some .boolean) (hZ : Z.Warmed39 (s.setVm vm0).vm) (hw : HW a0 Z) (Z0 : n0 ≤ h0.size) (hS : s.Since vm0 kv0) (hk0 : kv0 ≤ h0.size)
    (X0 : Stand p l e room_1 (s.setVm vm0) m args below meth c T0 locs 1 4) (e0 : T0.heap = h0) (N0 : Fr n0 locs) (O0 : Old Z n0 h0) (p1 : Int32) (p2 : Int32) (p3 : Int32) (p4 : Int32) (p5 : Int32) (p6 : Int32) (kk1 : Int32) (wf : Addr) (w : Int32) (le : Int32) (a11 : Addr) (kC : ClassId) (c0 : Int32) (c1 : Int32) (c2 : Int32) (c3 : Int32) (zCS : Int32) (fm : Value) (R_C : Arv Z h0 a11 kC .char (4 : Int32) [(.int c0), (.int c1), (.int c2), (.int c3)] (.int 0)) (g_C : n0 ≤ a11) (Ef : ek13 Z Z.heap wf) (Fw : fk10 Z Z.heap wf (.int w)) (Fl : fk11 Z Z.heap wf (.int le)) (S_CS : sk0 Z Z.heap (.int zCS)) (P_CS : ¬ zCS = 0) (S_SF : sk1 Z Z.heap fm) (P_SF : fm.isRef = true) (hC0 : ¬ ((255 : Int32) < c0)) (hC1 : ¬ ((255 : Int32) < c1)) (hC2 : ¬ ((255 : Int32) < c2)) (hC3 : ¬ ((255 : Int32) < c3)) (hn0 : nar .char c0 = c0) (hn1 : nar .char c1 = c1) (hn2 : nar .char c2 = c2) (hn3 : nar .char c3 = c3) (hW : (w = 1 ∧ le = 0) ∨ (w = 4 ∧ le = 0) ∨ (w = 4 ∧ le = 1) ∨ (w = 2 ∧ le = 0) ∨ (w = 2 ∧ le = 1)) :
    own_G p.tables e below (own_EW s (Q_law n0) room_1.cells room_1.slots) (T0.setTop (mkF m 166 #[vi p1, vi p2, vi p3, vi p4, vi p5, vi p6, vi kk1, vr wf, vi w, vi le, vi 4, vr a11, .unset, .unset] [])) := by
  show gs T0 m 166 #[vi p1, vi p2, vi p3, vi p4, vi p5, vi p6, vi kk1, vr wf, vi w, vi le, vi 4, vr a11, .unset, .unset] []
  refine oiload X0 hx hby at_166 rfl ?_
  refine own_st (fun _ kS => XS.ifYes X0.here hx rfl (pc0 := 168) (pc' := 179) rfl (hb hby at_168) rfl ((if0 _ _).trans (feq (by decide : ¬ ((4 : Int32) = (0 : Int32)))).2) (by decide) (by decide) kS) ?_
  show gs T0 m 179 #[vi p1, vi p2, vi p3, vi p4, vi p5, vi p6, vi kk1, vr wf, vi w, vi le, vi 4, vr a11, .unset, .unset] []
  refine oiload X0 hx hby at_179 rfl ?_
  refine oiconst X0 hx hby at_181 ?_
  refine own_st (fun _ kS => XS.icmpYes X0.here hx rfl (pc0 := 182) (pc' := 200) rfl (hb hby at_182) rfl (feq (by decide : ¬ ((4 : Int32) = (1 : Int32)))).2 (by decide) (by decide) kS) ?_
  show gs T0 m 200 #[vi p1, vi p2, vi p3, vi p4, vi p5, vi p6, vi kk1, vr wf, vi w, vi le, vi 4, vr a11, .unset, .unset] []
  refine oiload X0 hx hby at_200 rfl ?_
  refine oiconst X0 hx hby at_202 ?_
  refine own_st (fun _ kS => XS.icmpYes X0.here hx rfl (pc0 := 203) (pc' := 228) rfl (hb hby at_203) rfl (feq (by decide : ¬ ((4 : Int32) = (2 : Int32)))).2 (by decide) (by decide) kS) ?_
  show gs T0 m 228 #[vi p1, vi p2, vi p3, vi p4, vi p5, vi p6, vi kk1, vr wf, vi w, vi le, vi 4, vr a11, .unset, .unset] []
  refine oiload X0 hx hby at_228 rfl ?_
  refine oiconst X0 hx hby at_230 ?_
  refine own_st (fun _ kS => XS.icmpYes X0.here hx rfl (pc0 := 231) (pc' := 263) rfl (hb hby at_231) rfl (feq (by decide : ¬ ((4 : Int32) = (3 : Int32)))).2 (by decide) (by decide) kS) ?_
  show gs T0 m 263 #[vi p1, vi p2, vi p3, vi p4, vi p5, vi p6, vi kk1, vr wf, vi w, vi le, vi 4, vr a11, .unset, .unset] []
  refine oiconst X0 hx hby at_263 ?_
  show gs T0 m 264 #[vi p1, vi p2, vi p3, vi p4, vi p5, vi p6, vi kk1, vr wf, vi w, vi le, vi 4, vr a11, .unset, .unset] [(.int 4)]
  obtain ⟨T1, h1, k1, X1, e1, E1, A1, st1⟩ := newP X0 hx hZ (own_w hw 4 rfl) e0 (g := (mkF m 264 #[vi p1, vi p2, vi p3, vi p4, vi p5, vi p6, vi kk1, vr wf, vi w, vi le, vi 4, vr a11, .unset, .unset] [(.int 4)])) rfl (hb hby at_264) rfl (by decide) (cap := 4) (by decide) (by decide) (by decide) (by decide)
  obtain ⟨b1, g1⟩ : ∃ z, z = h0.size := ⟨_, rfl⟩
  have ne_a11_b1 : a11 ≠ b1 := Nat.ne_of_lt (Nat.lt_of_lt_of_eq R_C.lt g1.symm)
  have ge_b1 : n0 ≤ b1 := Nat.le_trans Z0 (Nat.le_of_eq g1.symm)
  rw [← g1] at A1 st1
  have O1 := O0.ext E1
  have R1 : Arv Z h1 b1 k1 .char (4 : Int32) [(.int 0), (.int 0), (.int 0), (.int 0)] (.int 0) := (Arv.new A1 (by decide)).pad (pad_rep [] (.int 0) 4)
  refine own_st st1 ?_
  show gs T1 m 266 #[vi p1, vi p2, vi p3, vi p4, vi p5, vi p6, vi kk1, vr wf, vi w, vi le, vi 4, vr a11, .unset, .unset] [(.ref b1)]
  refine own_st (fun _ kS => XS.dup X1.here hx rfl (hb hby at_266) rfl rfl kS) ?_
  refine oiconst X1 hx hby at_267 ?_
  refine oaload X1 hx hby at_268 rfl rfl ?_
  refine oiconst X1 hx hby at_270 ?_
  show gs T1 m 271 #[vi p1, vi p2, vi p3, vi p4, vi p5, vi p6, vi kk1, vr wf, vi w, vi le, vi 4, vr a11, .unset, .unset] [(.int 0), (.ref a11), (.int 0), (.ref b1), (.ref b1)]
  obtain ⟨cl2, Ar2, qa2, qs2, qn2, qh2, qg2⟩ := id (Arv.ext R_C E1)
  refine own_st (fun _ kS => X1.caload hx (j := (0 : Int32)) (v := (.int c0)) (by rw [e1]; exact Ar2.1) (State.isArrayOf_alike hZ.alike Ar2.2.1) Ar2.2.2 (inb_of qs2 ⟨by decide, by decide⟩) (qh2.at (inb_of qs2 ⟨by decide, by decide⟩) rfl) (g := (mkF m 271 #[vi p1, vi p2, vi p3, vi p4, vi p5, vi p6, vi kk1, vr wf, vi w, vi le, vi 4, vr a11, .unset, .unset] [(.int 0), (.ref a11), (.int 0), (.ref b1), (.ref b1)])) rfl rfl (hb hby at_271) _ kS) ?_
  show gs T1 m 272 #[vi p1, vi p2, vi p3, vi p4, vi p5, vi p6, vi kk1, vr wf, vi w, vi le, vi 4, vr a11, .unset, .unset] [(.int c0), (.int 0), (.ref b1), (.ref b1)]
  obtain ⟨cl3, Ar3, qa3, qs3, qn3, qh3, qg3⟩ := id R1
  obtain ⟨T3, h3, X3, e3, W3, st3⟩ := stC X1 hx hZ e1 Ar3 (j := (0 : Int32)) (inb_of qs3 ⟨by decide, by decide⟩) (g := (mkF m 272 #[vi p1, vi p2, vi p3, vi p4, vi p5, vi p6, vi kk1, vr wf, vi w, vi le, vi 4, vr a11, .unset, .unset] [(.int c0), (.int 0), (.ref b1), (.ref b1)])) rfl rfl (hb hby at_272)
  have N3 := Fr.snoc X3 N0 ge_b1
  have O3 := O1.wr W3 ge_b1
  have R3 : Arv Z h3 b1 k1 .char (4 : Int32) [(.int (nar .char c0)), (.int 0), (.int 0), (.int 0)] (.int 0) := Arv.set Ar3 qa3 qs3 qn3 qh3 qg3 (fits_nar_char _) W3 0 rfl (Nat.le_of_ble_eq_true rfl)
  refine own_st st3 ?_
  show gs T3 m 273 #[vi p1, vi p2, vi p3, vi p4, vi p5, vi p6, vi kk1, vr wf, vi w, vi le, vi 4, vr a11, .unset, .unset] [(.ref b1)]
  refine own_st (fun _ kS => XS.dup X3.here hx rfl (hb hby at_273) rfl rfl kS) ?_
  refine oiconst X3 hx hby at_274 ?_
  refine oaload X3 hx hby at_275 rfl rfl ?_
  refine oiconst X3 hx hby at_277 ?_
  show gs T3 m 278 #[vi p1, vi p2, vi p3, vi p4, vi p5, vi p6, vi kk1, vr wf, vi w, vi le, vi 4, vr a11, .unset, .unset] [(.int 1), (.ref a11), (.int 1), (.ref b1), (.ref b1)]
  obtain ⟨cl4, Ar4, qa4, qs4, qn4, qh4, qg4⟩ := id ((Arv.ext R_C E1).other W3 ne_a11_b1)
  refine own_st (fun _ kS => X3.caload hx (j := (1 : Int32)) (v := (.int c1)) (by rw [e3]; exact Ar4.1) (State.isArrayOf_alike hZ.alike Ar4.2.1) Ar4.2.2 (inb_of qs4 ⟨by decide, by decide⟩) (qh4.at (inb_of qs4 ⟨by decide, by decide⟩) rfl) (g := (mkF m 278 #[vi p1, vi p2, vi p3, vi p4, vi p5, vi p6, vi kk1, vr wf, vi w, vi le, vi 4, vr a11, .unset, .unset] [(.int 1), (.ref a11), (.int 1), (.ref b1), (.ref b1)])) rfl rfl (hb hby at_278) _ kS) ?_
  show gs T3 m 279 #[vi p1, vi p2, vi p3, vi p4, vi p5, vi p6, vi kk1, vr wf, vi w, vi le, vi 4, vr a11, .unset, .unset] [(.int c1), (.int 1), (.ref b1), (.ref b1)]
  obtain ⟨cl5, Ar5, qa5, qs5, qn5, qh5, qg5⟩ := id R3
  obtain ⟨T5, h5, X5, e5, W5, st5⟩ := stC X3 hx hZ e3 Ar5 (j := (1 : Int32)) (inb_of qs5 ⟨by decide, by decide⟩) (g := (mkF m 279 #[vi p1, vi p2, vi p3, vi p4, vi p5, vi p6, vi kk1, vr wf, vi w, vi le, vi 4, vr a11, .unset, .unset] [(.int c1), (.int 1), (.ref b1), (.ref b1)])) rfl rfl (hb hby at_279)
  have N5 := Fr.snoc X5 N3 ge_b1
  have O5 := O3.wr W5 ge_b1
  have R5 : Arv Z h5 b1 k1 .char (4 : Int32) [(.int (nar .char c0)), (.int (nar .char c1)), (.int 0), (.int 0)] (.int 0) := Arv.set Ar5 qa5 qs5 qn5 qh5 qg5 (fits_nar_char _) W5 1 rfl (Nat.le_of_ble_eq_true rfl)
  refine own_st st5 ?_
  show gs T5 m 280 #[vi p1, vi p2, vi p3, vi p4, vi p5, vi p6, vi kk1, vr wf, vi w, vi le, vi 4, vr a11, .unset, .unset] [(.ref b1)]
  refine own_st (fun _ kS => XS.dup X5.here hx rfl (hb hby at_280) rfl rfl kS) ?_
  refine oiconst X5 hx hby at_281 ?_
  refine oaload X5 hx hby at_282 rfl rfl ?_
  refine oiconst X5 hx hby at_284 ?_
  show gs T5 m 285 #[vi p1, vi p2, vi p3, vi p4, vi p5, vi p6, vi kk1, vr wf, vi w, vi le, vi 4, vr a11, .unset, .unset] [(.int 2), (.ref a11), (.int 2), (.ref b1), (.ref b1)]
  obtain ⟨cl6, Ar6, qa6, qs6, qn6, qh6, qg6⟩ := id (((Arv.ext R_C E1).other W3 ne_a11_b1).other W5 ne_a11_b1)
  refine own_st (fun _ kS => X5.caload hx (j := (2 : Int32)) (v := (.int c2)) (by rw [e5]; exact Ar6.1) (State.isArrayOf_alike hZ.alike Ar6.2.1) Ar6.2.2 (inb_of qs6 ⟨by decide, by decide⟩) (qh6.at (inb_of qs6 ⟨by decide, by decide⟩) rfl) (g := (mkF m 285 #[vi p1, vi p2, vi p3, vi p4, vi p5, vi p6, vi kk1, vr wf, vi w, vi le, vi 4, vr a11, .unset, .unset] [(.int 2), (.ref a11), (.int 2), (.ref b1), (.ref b1)])) rfl rfl (hb hby at_285) _ kS) ?_
  show gs T5 m 286 #[vi p1, vi p2, vi p3, vi p4, vi p5, vi p6, vi kk1, vr wf, vi w, vi le, vi 4, vr a11, .unset, .unset] [(.int c2), (.int 2), (.ref b1), (.ref b1)]
  obtain ⟨cl7, Ar7, qa7, qs7, qn7, qh7, qg7⟩ := id R5
  obtain ⟨T7, h7, X7, e7, W7, st7⟩ := stC X5 hx hZ e5 Ar7 (j := (2 : Int32)) (inb_of qs7 ⟨by decide, by decide⟩) (g := (mkF m 286 #[vi p1, vi p2, vi p3, vi p4, vi p5, vi p6, vi kk1, vr wf, vi w, vi le, vi 4, vr a11, .unset, .unset] [(.int c2), (.int 2), (.ref b1), (.ref b1)])) rfl rfl (hb hby at_286)
  have N7 := Fr.snoc X7 N5 ge_b1
  have O7 := O5.wr W7 ge_b1
  have R7 : Arv Z h7 b1 k1 .char (4 : Int32) [(.int (nar .char c0)), (.int (nar .char c1)), (.int (nar .char c2)), (.int 0)] (.int 0) := Arv.set Ar7 qa7 qs7 qn7 qh7 qg7 (fits_nar_char _) W7 2 rfl (Nat.le_of_ble_eq_true rfl)
  refine own_st st7 ?_
  show gs T7 m 287 #[vi p1, vi p2, vi p3, vi p4, vi p5, vi p6, vi kk1, vr wf, vi w, vi le, vi 4, vr a11, .unset, .unset] [(.ref b1)]
  refine own_st (fun _ kS => XS.dup X7.here hx rfl (hb hby at_287) rfl rfl kS) ?_
  refine oiconst X7 hx hby at_288 ?_
  refine oaload X7 hx hby at_289 rfl rfl ?_
  refine oiconst X7 hx hby at_291 ?_
  show gs T7 m 292 #[vi p1, vi p2, vi p3, vi p4, vi p5, vi p6, vi kk1, vr wf, vi w, vi le, vi 4, vr a11, .unset, .unset] [(.int 3), (.ref a11), (.int 3), (.ref b1), (.ref b1)]
  obtain ⟨cl8, Ar8, qa8, qs8, qn8, qh8, qg8⟩ := id ((((Arv.ext R_C E1).other W3 ne_a11_b1).other W5 ne_a11_b1).other W7 ne_a11_b1)
  refine own_st (fun _ kS => X7.caload hx (j := (3 : Int32)) (v := (.int c3)) (by rw [e7]; exact Ar8.1) (State.isArrayOf_alike hZ.alike Ar8.2.1) Ar8.2.2 (inb_of qs8 ⟨by decide, by decide⟩) (qh8.at (inb_of qs8 ⟨by decide, by decide⟩) rfl) (g := (mkF m 292 #[vi p1, vi p2, vi p3, vi p4, vi p5, vi p6, vi kk1, vr wf, vi w, vi le, vi 4, vr a11, .unset, .unset] [(.int 3), (.ref a11), (.int 3), (.ref b1), (.ref b1)])) rfl rfl (hb hby at_292) _ kS) ?_
  show gs T7 m 293 #[vi p1, vi p2, vi p3, vi p4, vi p5, vi p6, vi kk1, vr wf, vi w, vi le, vi 4, vr a11, .unset, .unset] [(.int c3), (.int 3), (.ref b1), (.ref b1)]
  obtain ⟨cl9, Ar9, qa9, qs9, qn9, qh9, qg9⟩ := id R7
  obtain ⟨T9, h9, X9, e9, W9, st9⟩ := stC X7 hx hZ e7 Ar9 (j := (3 : Int32)) (inb_of qs9 ⟨by decide, by decide⟩) (g := (mkF m 293 #[vi p1, vi p2, vi p3, vi p4, vi p5, vi p6, vi kk1, vr wf, vi w, vi le, vi 4, vr a11, .unset, .unset] [(.int c3), (.int 3), (.ref b1), (.ref b1)])) rfl rfl (hb hby at_293)
  have N9 := Fr.snoc X9 N7 ge_b1
  have O9 := O7.wr W9 ge_b1
  have R9 : Arv Z h9 b1 k1 .char (4 : Int32) [(.int (nar .char c0)), (.int (nar .char c1)), (.int (nar .char c2)), (.int (nar .char c3))] (.int 0) := Arv.set Ar9 qa9 qs9 qn9 qh9 qg9 (fits_nar_char _) W9 3 rfl (Nat.le_of_ble_eq_true rfl)
  refine own_st st9 ?_
  show gs T9 m 294 #[vi p1, vi p2, vi p3, vi p4, vi p5, vi p6, vi kk1, vr wf, vi w, vi le, vi 4, vr a11, .unset, .unset] [(.ref b1)]
  refine own_st (fun _ kS => XS.astore X9.here hx rfl (hb hby at_294) rfl rfl (l' := #[vi p1, vi p2, vi p3, vi p4, vi p5, vi p6, vi kk1, vr wf, vi w, vi le, vi 4, vr a11, vr b1, .unset]) rfl kS) ?_
  show gs T9 m 296 #[vi p1, vi p2, vi p3, vi p4, vi p5, vi p6, vi kk1, vr wf, vi w, vi le, vi 4, vr a11, vr b1, .unset] []
  have RP : Arv Z h9 b1 k1 .char (4 : Int32) [(.int c0), (.int c1), (.int c2), (.int c3)] (.int 0) := by
    have z := R9
    rw [hn0, hn1, hn2, hn3] at z
    exact z
  refine oaload X9 hx hby at_296 rfl rfl ?_
  show gs T9 m 298 #[vi p1, vi p2, vi p3, vi p4, vi p5, vi p6, vi kk1, vr wf, vi w, vi le, vi 4, vr a11, vr b1, .unset] [(.ref wf)]
  obtain ⟨T10, h10, X10, e10, E10, A10, D10, -, st10⟩ := newO X9 hx hZ hown (own_w hw 5 rfl) (own_w hw 6 rfl) (own_w hw 7 rfl) e9 (g := (mkF m 298 #[vi p1, vi p2, vi p3, vi p4, vi p5, vi p6, vi kk1, vr wf, vi w, vi le, vi 4, vr a11, vr b1, .unset] [(.ref wf)])) rfl (hb hby at_298) (by decide) (by decide)
  obtain ⟨b10, g10⟩ : ∃ z, z = h9.size := ⟨_, rfl⟩
  have ne_a11_b10 : a11 ≠ b10 := Nat.ne_of_lt (Nat.lt_of_lt_of_eq (((((Arv.ext R_C E1).other W3 ne_a11_b1).other W5 ne_a11_b1).other W7 ne_a11_b1).other W9 ne_a11_b1).lt g10.symm)
  have ne_b1_b10 : b1 ≠ b10 := Nat.ne_of_lt (Nat.lt_of_lt_of_eq RP.lt g10.symm)
  have ge_b10 : n0 ≤ b10 := Nat.le_trans (Nat.le_trans (Nat.le_trans (Nat.le_trans (Nat.le_trans (Nat.le_trans Z0 E1.1) (Keep.of_wr W3).1) (Keep.of_wr W5).1) (Keep.of_wr W7).1) (Keep.of_wr W9).1) (Nat.le_of_eq g10.symm)
  rw [← g10] at A10 D10 st10
  have O10 := O9.ext E10
  have F10_coder : fk8 Z h10 b10 (.int 0) := D10 (Or.inr (own_w hw 31 rfl)) (ty := .byte) (by decide)
  have F10_value : fk9 Z h10 b10 .null := D10 (Or.inr (own_w hw 33 rfl)) (ty := (.array .byte)) (by decide)
  refine own_st st10 ?_
  show gs T10 m 301 #[vi p1, vi p2, vi p3, vi p4, vi p5, vi p6, vi kk1, vr wf, vi w, vi le, vi 4, vr a11, vr b1, .unset] [(.ref b10), (.ref wf)]
  refine own_st (fun _ kS => XS.dup X10.here hx rfl (hb hby at_301) rfl rfl kS) ?_
  refine oaload X10 hx hby at_302 rfl rfl ?_
  refine oN 2 X10 hx hZ hby hml hown (own_w hw 8 rfl) (own_w hw 9 rfl) (own_w hw 7 rfl) (own_w hw 10 rfl) (rm_init1_4 l Z a0 hw [] b10 b1 k1 c0 c1 c2 c3 zCS h10 n0 (Nat.le_trans (Nat.le_trans (Nat.le_trans (Nat.le_trans (Nat.le_trans (Nat.le_trans Z0 E1.1) (Keep.of_wr W3).1) (Keep.of_wr W5).1) (Keep.of_wr W7).1) (Keep.of_wr W9).1) E10.1) O10 A10 ge_b10 F10_value F10_coder (Ne.symm ne_b1_b10) (Arv.ext RP E10) hC0 hC1 hC2 hC3 S_CS P_CS) e10 rfl (by decide) own_pd12 at_304 rfl rfl rfl (fun T11 L11 v11 X11 hQ11 => ?_)
  obtain ⟨tN_11, kN_11, rfl, Nq11, Kc11, P11_0, P11_1, P11_2, P11_3⟩ := hQ11
  have N11 := Fr.app N9 Nq11
  have O11 := O10.keep Kc11 (allS ge_b10 all0)
  show gs T11 m 307 #[vi p1, vi p2, vi p3, vi p4, vi p5, vi p6, vi kk1, vr wf, vi w, vi le, vi 4, vr a11, vr b1, .unset] [(.ref b10), (.ref wf)]
  rcases hW with ⟨rfl, rfl⟩ | ⟨rfl, rfl⟩ | ⟨rfl, rfl⟩ | ⟨rfl, rfl⟩ | ⟨rfl, rfl⟩
  · skip
    show gs T11 m 307 #[vi p1, vi p2, vi p3, vi p4, vi p5, vi p6, vi kk1, vr wf, vi 1, vi 0, vi 4, vr a11, vr b1, .unset] [(.ref b10), (.ref wf)]
    refine oV 0 X11 hx hZ hby hml hown (own_w hw 34 rfl) (own_w hw 35 rfl) (own_w hw 37 rfl) (own_w hw 36 rfl) (rm_enc_4_1_0 l Z a0 hw [] wf b10 tN_11 kN_11 (nar .byte (c0.toInt8.toInt32)) (nar .byte (c1.toInt8.toInt32)) (nar .byte (c2.toInt8.toInt32)) (nar .byte (c3.toInt8.toInt32)) zCS fm T11.heap n0 (Nat.le_trans (Nat.le_trans (Nat.le_trans (Nat.le_trans (Nat.le_trans (Nat.le_trans (Nat.le_trans Z0 E1.1) (Keep.of_wr W3).1) (Keep.of_wr W5).1) (Keep.of_wr W7).1) (Keep.of_wr W9).1) E10.1) Kc11.1) O11 Fw Fl P11_0 P11_2 P11_1 P11_3 S_CS P_CS S_SF P_SF) (own_w hw 38 rfl) (own_w hw 2 rfl) rfl (Exa.ext O11.2 Ef) (by decide) own_pd13 at_307 rfl rfl rfl (fun T12 L12 v12 X12 hQ12 => ?_)
    obtain ⟨tN_12, kN_12, rfl, Nq12, Kc12, P12_0, P12_1⟩ := hQ12
    have N12 := Fr.app N11 Nq12
    have ne_a11_tN_12 : a11 ≠ tN_12 := Nat.ne_of_lt (Nat.lt_of_lt_of_le ((Arv.ext (((((Arv.ext R_C E1).other W3 ne_a11_b1).other W5 ne_a11_b1).other W7 ne_a11_b1).other W9 ne_a11_b1) E10).keep Kc11 (ninS ne_a11_b10 nin0)).lt P12_0)
    have ne_b1_tN_12 : b1 ≠ tN_12 := Nat.ne_of_lt (Nat.lt_of_lt_of_le ((Arv.ext RP E10).keep Kc11 (ninS ne_b1_b10 nin0)).lt P12_0)
    have ne_b10_tN_12 : b10 ≠ tN_12 := Nat.ne_of_lt (Nat.lt_of_lt_of_le P11_0.lt P12_0)
    have ne_tN_11_tN_12 : tN_11 ≠ tN_12 := Nat.ne_of_lt (Nat.lt_of_lt_of_le P11_3.lt P12_0)
    have ge_tN_12 : n0 ≤ tN_12 := Nat.le_trans (Nat.le_trans (Nat.le_trans (Nat.le_trans (Nat.le_trans (Nat.le_trans (Nat.le_trans (Nat.le_trans Z0 E1.1) (Keep.of_wr W3).1) (Keep.of_wr W5).1) (Keep.of_wr W7).1) (Keep.of_wr W9).1) E10.1) Kc11.1) P12_0
    have O12 := O11.keep Kc12 all0
    show gs T12 m 310 #[vi p1, vi p2, vi p3, vi p4, vi p5, vi p6, vi kk1, vr wf, vi 1, vi 0, vi 4, vr a11, vr b1, .unset] [(.ref tN_12)]
    refine own_st (fun _ kS => XS.astore X12.here hx rfl (hb hby at_310) rfl rfl (l' := #[vi p1, vi p2, vi p3, vi p4, vi p5, vi p6, vi kk1, vr wf, vi 1, vi 0, vi 4, vr a11, vr b1, vr tN_12]) rfl kS) ?_
    refine oaload X12 hx hby at_312 rfl rfl ?_
    show gs T12 m 314 #[vi p1, vi p2, vi p3, vi p4, vi p5, vi p6, vi kk1, vr wf, vi 1, vi 0, vi 4, vr a11, vr b1, vr tN_12] [(.ref tN_12)]
    obtain ⟨cl13, Ar13, qa13, qs13, qn13, qh13, qg13⟩ := id P12_1
    refine own_st (fun _ kS => X12.arraylength hx (Ar13.1) (State.isArrayOf_alike hZ.alike Ar13.2.1) (g := (mkF m 314 #[vi p1, vi p2, vi p3, vi p4, vi p5, vi p6, vi kk1, vr wf, vi 1, vi 0, vi 4, vr a11, vr b1, vr tN_12] [(.ref tN_12)])) rfl rfl (hb hby at_314) _ kS) ?_
    rw [len_of qs13 qn13]
    show gs T12 m 315 #[vi p1, vi p2, vi p3, vi p4, vi p5, vi p6, vi kk1, vr wf, vi 1, vi 0, vi 4, vr a11, vr b1, vr tN_12] [(.int 4)]
    refine oiload X12 hx hby at_315 rfl ?_
    refine oiload X12 hx hby at_317 rfl ?_
    refine own_st (fun _ kS => XS.imul X12.here hx rfl (hb hby at_319) rfl kS) ?_
    show gs T12 m 320 #[vi p1, vi p2, vi p3, vi p4, vi p5, vi p6, vi kk1, vr wf, vi 1, vi 0, vi 4, vr a11, vr b1, vr tN_12] [(.int 4), (.int 4)]
    refine own_st (fun _ kS => XS.icmpYes X12.here hx rfl (pc0 := 320) (pc' := 325) rfl (hb hby at_320) rfl (teq (by decide : (4 : Int32) = (4 : Int32))).1 (by decide) (by decide) kS) ?_
    show gs T12 m 325 #[vi p1, vi p2, vi p3, vi p4, vi p5, vi p6, vi kk1, vr wf, vi 1, vi 0, vi 4, vr a11, vr b1, vr tN_12] []
    obtain ⟨cB, Tb, vB⟩ := own_tab2 P12_1 (fun i => by match i with | 0 => exact ⟨_, rfl⟩ | 1 => exact ⟨_, rfl⟩ | 2 => exact ⟨_, rfl⟩ | 3 => exact ⟨_, rfl⟩ | _ + 4 => exact ⟨_, rfl⟩)
    obtain ⟨cC, Tc, vC⟩ := own_tab2 (((Arv.ext (((((Arv.ext R_C E1).other W3 ne_a11_b1).other W5 ne_a11_b1).other W7 ne_a11_b1).other W9 ne_a11_b1) E10).keep Kc11 (ninS ne_a11_b10 nin0)).keep Kc12 nin0) (fun i => by match i with | 0 => exact ⟨_, rfl⟩ | 1 => exact ⟨_, rfl⟩ | 2 => exact ⟨_, rfl⟩ | 3 => exact ⟨_, rfl⟩ | _ + 4 => exact ⟨_, rfl⟩)
    have hA0 : own_at 1 0 0 4 cB cC := Or.inr ⟨by decide, by decide, by decide, Or.inr (Or.inr (Or.inl ⟨rfl, by decide, by decide, (vB 0 _ (by decide) rfl).trans ((own_enc c0).trans (congrArg (fun z => z.toInt8.toInt32) ((congrArg (atv cC) (by decide : (0 : Int32) / 1 = 0)).trans (vC 0 _ (by decide) rfl)).symm))⟩))⟩
    have hA1 : own_at 1 0 1 4 cB cC := Or.inr ⟨by decide, by decide, by decide, Or.inr (Or.inr (Or.inl ⟨rfl, by decide, by decide, (vB 1 _ (by decide) rfl).trans ((own_enc c1).trans (congrArg (fun z => z.toInt8.toInt32) ((congrArg (atv cC) (by decide : (1 : Int32) / 1 = 1)).trans (vC 1 _ (by decide) rfl)).symm))⟩))⟩
    have hA2 : own_at 1 0 2 4 cB cC := Or.inr ⟨by decide, by decide, by decide, Or.inr (Or.inr (Or.inl ⟨rfl, by decide, by decide, (vB 2 _ (by decide) rfl).trans ((own_enc c2).trans (congrArg (fun z => z.toInt8.toInt32) ((congrArg (atv cC) (by decide : (2 : Int32) / 1 = 2)).trans (vC 2 _ (by decide) rfl)).symm))⟩))⟩
    have hA3 : own_at 1 0 3 4 cB cC := Or.inr ⟨by decide, by decide, by decide, Or.inr (Or.inr (Or.inl ⟨rfl, by decide, by decide, (vB 3 _ (by decide) rfl).trans ((own_enc c3).trans (congrArg (fun z => z.toInt8.toInt32) ((congrArg (atv cC) (by decide : (3 : Int32) / 1 = 3)).trans (vC 3 _ (by decide) rfl)).symm))⟩))⟩
    exact sg_T hx hby hml hown hlk hret hZ hw (Nat.le_trans (Nat.le_trans (Nat.le_trans (Nat.le_trans (Nat.le_trans (Nat.le_trans (Nat.le_trans (Nat.le_trans Z0 E1.1) (Keep.of_wr W3).1) (Keep.of_wr W5).1) (Keep.of_wr W7).1) (Keep.of_wr W9).1) E10.1) Kc11.1) Kc12.1) hS (Nat.le_trans (Nat.le_trans (Nat.le_trans (Nat.le_trans (Nat.le_trans (Nat.le_trans (Nat.le_trans (Nat.le_trans hk0 E1.1) (Keep.of_wr W3).1) (Keep.of_wr W5).1) (Keep.of_wr W7).1) (Keep.of_wr W9).1) E10.1) Kc11.1) Kc12.1) (X12.more (by decide) (by decide)) rfl N12 O12 p1 p2 p3 p4 p5 p6 kk1 wf (1 : Int32) (0 : Int32) (4 : Int32) a11 b1 tN_12 cB cC (4 : Int32) Tb Tc hA0 hA1 hA2 hA3 (Or.inl (by decide)) (Or.inl (by decide)) (Or.inl (by decide)) (Or.inl (by decide)) (Or.inl (by decide)) (Or.inl (by decide)) (Or.inl (by decide)) (Or.inl (by decide)) (Or.inl (by decide)) (Or.inl (by decide)) (Or.inl (by decide)) (Or.inl (by decide))
  · skip
    show gs T11 m 307 #[vi p1, vi p2, vi p3, vi p4, vi p5, vi p6, vi kk1, vr wf, vi 4, vi 0, vi 4, vr a11, vr b1, .unset] [(.ref b10), (.ref wf)]
    refine oV 0 X11 hx hZ hby hml hown (own_w hw 34 rfl) (own_w hw 35 rfl) (own_w hw 37 rfl) (own_w hw 36 rfl) (rm_enc_4_4_0 l Z a0 hw [] wf b10 tN_11 kN_11 (nar .byte (c0.toInt8.toInt32)) (nar .byte (c1.toInt8.toInt32)) (nar .byte (c2.toInt8.toInt32)) (nar .byte (c3.toInt8.toInt32)) zCS fm T11.heap n0 (Nat.le_trans (Nat.le_trans (Nat.le_trans (Nat.le_trans (Nat.le_trans (Nat.le_trans (Nat.le_trans Z0 E1.1) (Keep.of_wr W3).1) (Keep.of_wr W5).1) (Keep.of_wr W7).1) (Keep.of_wr W9).1) E10.1) Kc11.1) O11 Fw Fl P11_0 P11_2 P11_1 P11_3 S_CS P_CS S_SF P_SF) (own_w hw 38 rfl) (own_w hw 2 rfl) rfl (Exa.ext O11.2 Ef) (by decide) own_pd13 at_307 rfl rfl rfl (fun T14 L14 v14 X14 hQ14 => ?_)
    obtain ⟨tN_14, kN_14, rfl, Nq14, Kc14, P14_0, P14_1⟩ := hQ14
    have N14 := Fr.app N11 Nq14
    have ne_a11_tN_14 : a11 ≠ tN_14 := Nat.ne_of_lt (Nat.lt_of_lt_of_le ((Arv.ext (((((Arv.ext R_C E1).other W3 ne_a11_b1).other W5 ne_a11_b1).other W7 ne_a11_b1).other W9 ne_a11_b1) E10).keep Kc11 (ninS ne_a11_b10 nin0)).lt P14_0)
    have ne_b1_tN_14 : b1 ≠ tN_14 := Nat.ne_of_lt (Nat.lt_of_lt_of_le ((Arv.ext RP E10).keep Kc11 (ninS ne_b1_b10 nin0)).lt P14_0)
    have ne_b10_tN_14 : b10 ≠ tN_14 := Nat.ne_of_lt (Nat.lt_of_lt_of_le P11_0.lt P14_0)
    have ne_tN_11_tN_14 : tN_11 ≠ tN_14 := Nat.ne_of_lt (Nat.lt_of_lt_of_le P11_3.lt P14_0)
    have ge_tN_14 : n0 ≤ tN_14 := Nat.le_trans (Nat.le_trans (Nat.le_trans (Nat.le_trans (Nat.le_trans (Nat.le_trans (Nat.le_trans (Nat.le_trans Z0 E1.1) (Keep.of_wr W3).1) (Keep.of_wr W5).1) (Keep.of_wr W7).1) (Keep.of_wr W9).1) E10.1) Kc11.1) P14_0
    have O14 := O11.keep Kc14 all0
    show gs T14 m 310 #[vi p1, vi p2, vi p3, vi p4, vi p5, vi p6, vi kk1, vr wf, vi 4, vi 0, vi 4, vr a11, vr b1, .unset] [(.ref tN_14)]
    refine own_st (fun _ kS => XS.astore X14.here hx rfl (hb hby at_310) rfl rfl (l' := #[vi p1, vi p2, vi p3, vi p4, vi p5, vi p6, vi kk1, vr wf, vi 4, vi 0, vi 4, vr a11, vr b1, vr tN_14]) rfl kS) ?_
    refine oaload X14 hx hby at_312 rfl rfl ?_
    show gs T14 m 314 #[vi p1, vi p2, vi p3, vi p4, vi p5, vi p6, vi kk1, vr wf, vi 4, vi 0, vi 4, vr a11, vr b1, vr tN_14] [(.ref tN_14)]
    obtain ⟨cl15, Ar15, qa15, qs15, qn15, qh15, qg15⟩ := id P14_1
    refine own_st (fun _ kS => X14.arraylength hx (Ar15.1) (State.isArrayOf_alike hZ.alike Ar15.2.1) (g := (mkF m 314 #[vi p1, vi p2, vi p3, vi p4, vi p5, vi p6, vi kk1, vr wf, vi 4, vi 0, vi 4, vr a11, vr b1, vr tN_14] [(.ref tN_14)])) rfl rfl (hb hby at_314) _ kS) ?_
    rw [len_of qs15 qn15]
    show gs T14 m 315 #[vi p1, vi p2, vi p3, vi p4, vi p5, vi p6, vi kk1, vr wf, vi 4, vi 0, vi 4, vr a11, vr b1, vr tN_14] [(.int 16)]
    refine oiload X14 hx hby at_315 rfl ?_
    refine oiload X14 hx hby at_317 rfl ?_
    refine own_st (fun _ kS => XS.imul X14.here hx rfl (hb hby at_319) rfl kS) ?_
    show gs T14 m 320 #[vi p1, vi p2, vi p3, vi p4, vi p5, vi p6, vi kk1, vr wf, vi 4, vi 0, vi 4, vr a11, vr b1, vr tN_14] [(.int 16), (.int 16)]
    refine own_st (fun _ kS => XS.icmpYes X14.here hx rfl (pc0 := 320) (pc' := 325) rfl (hb hby at_320) rfl (teq (by decide : (16 : Int32) = (16 : Int32))).1 (by decide) (by decide) kS) ?_
    show gs T14 m 325 #[vi p1, vi p2, vi p3, vi p4, vi p5, vi p6, vi kk1, vr wf, vi 4, vi 0, vi 4, vr a11, vr b1, vr tN_14] []
    obtain ⟨cB, Tb, vB⟩ := own_tab2 P14_1 (fun i => by match i with | 0 => exact ⟨_, rfl⟩ | 1 => exact ⟨_, rfl⟩ | 2 => exact ⟨_, rfl⟩ | 3 => exact ⟨_, rfl⟩ | 4 => exact ⟨_, rfl⟩ | 5 => exact ⟨_, rfl⟩ | 6 => exact ⟨_, rfl⟩ | 7 => exact ⟨_, rfl⟩ | 8 => exact ⟨_, rfl⟩ | 9 => exact ⟨_, rfl⟩ | 10 => exact ⟨_, rfl⟩ | 11 => exact ⟨_, rfl⟩ | 12 => exact ⟨_, rfl⟩ | 13 => exact ⟨_, rfl⟩ | 14 => exact ⟨_, rfl⟩ | 15 => exact ⟨_, rfl⟩ | _ + 16 => exact ⟨_, rfl⟩)
    obtain ⟨cC, Tc, vC⟩ := own_tab2 (((Arv.ext (((((Arv.ext R_C E1).other W3 ne_a11_b1).other W5 ne_a11_b1).other W7 ne_a11_b1).other W9 ne_a11_b1) E10).keep Kc11 (ninS ne_a11_b10 nin0)).keep Kc14 nin0) (fun i => by match i with | 0 => exact ⟨_, rfl⟩ | 1 => exact ⟨_, rfl⟩ | 2 => exact ⟨_, rfl⟩ | 3 => exact ⟨_, rfl⟩ | _ + 4 => exact ⟨_, rfl⟩)
    have hA0 : own_at 4 0 0 16 cB cC := Or.inr ⟨by decide, by decide, by decide, Or.inr (Or.inr (Or.inr ⟨rfl, by decide, vB 0 _ (by decide) rfl⟩))⟩
    have hA1 : own_at 4 0 1 16 cB cC := Or.inr ⟨by decide, by decide, by decide, Or.inr (Or.inr (Or.inr ⟨rfl, by decide, vB 1 _ (by decide) rfl⟩))⟩
    have hA2 : own_at 4 0 2 16 cB cC := Or.inr ⟨by decide, by decide, by decide, Or.inr (Or.inr (Or.inr ⟨rfl, by decide, vB 2 _ (by decide) rfl⟩))⟩
    have hA3 : own_at 4 0 3 16 cB cC := Or.inr ⟨by decide, by decide, by decide, Or.inr (Or.inr (Or.inl ⟨rfl, by decide, by decide, (vB 3 _ (by decide) rfl).trans ((own_enc c0).trans (congrArg (fun z => z.toInt8.toInt32) ((congrArg (atv cC) (by decide : (3 : Int32) / 4 = 0)).trans (vC 0 _ (by decide) rfl)).symm))⟩))⟩
    have hA4 : own_at 4 0 4 16 cB cC := Or.inr ⟨by decide, by decide, by decide, Or.inr (Or.inr (Or.inr ⟨rfl, by decide, vB 4 _ (by decide) rfl⟩))⟩
    have hA5 : own_at 4 0 5 16 cB cC := Or.inr ⟨by decide, by decide, by decide, Or.inr (Or.inr (Or.inr ⟨rfl, by decide, vB 5 _ (by decide) rfl⟩))⟩
    have hA6 : own_at 4 0 6 16 cB cC := Or.inr ⟨by decide, by decide, by decide, Or.inr (Or.inr (Or.inr ⟨rfl, by decide, vB 6 _ (by decide) rfl⟩))⟩
    have hA7 : own_at 4 0 7 16 cB cC := Or.inr ⟨by decide, by decide, by decide, Or.inr (Or.inr (Or.inl ⟨rfl, by decide, by decide, (vB 7 _ (by decide) rfl).trans ((own_enc c1).trans (congrArg (fun z => z.toInt8.toInt32) ((congrArg (atv cC) (by decide : (7 : Int32) / 4 = 1)).trans (vC 1 _ (by decide) rfl)).symm))⟩))⟩
    have hA8 : own_at 4 0 8 16 cB cC := Or.inr ⟨by decide, by decide, by decide, Or.inr (Or.inr (Or.inr ⟨rfl, by decide, vB 8 _ (by decide) rfl⟩))⟩
    have hA9 : own_at 4 0 9 16 cB cC := Or.inr ⟨by decide, by decide, by decide, Or.inr (Or.inr (Or.inr ⟨rfl, by decide, vB 9 _ (by decide) rfl⟩))⟩
    have hA10 : own_at 4 0 10 16 cB cC := Or.inr ⟨by decide, by decide, by decide, Or.inr (Or.inr (Or.inr ⟨rfl, by decide, vB 10 _ (by decide) rfl⟩))⟩
    have hA11 : own_at 4 0 11 16 cB cC := Or.inr ⟨by decide, by decide, by decide, Or.inr (Or.inr (Or.inl ⟨rfl, by decide, by decide, (vB 11 _ (by decide) rfl).trans ((own_enc c2).trans (congrArg (fun z => z.toInt8.toInt32) ((congrArg (atv cC) (by decide : (11 : Int32) / 4 = 2)).trans (vC 2 _ (by decide) rfl)).symm))⟩))⟩
    have hA12 : own_at 4 0 12 16 cB cC := Or.inr ⟨by decide, by decide, by decide, Or.inr (Or.inr (Or.inr ⟨rfl, by decide, vB 12 _ (by decide) rfl⟩))⟩
    have hA13 : own_at 4 0 13 16 cB cC := Or.inr ⟨by decide, by decide, by decide, Or.inr (Or.inr (Or.inr ⟨rfl, by decide, vB 13 _ (by decide) rfl⟩))⟩
    have hA14 : own_at 4 0 14 16 cB cC := Or.inr ⟨by decide, by decide, by decide, Or.inr (Or.inr (Or.inr ⟨rfl, by decide, vB 14 _ (by decide) rfl⟩))⟩
    have hA15 : own_at 4 0 15 16 cB cC := Or.inr ⟨by decide, by decide, by decide, Or.inr (Or.inr (Or.inl ⟨rfl, by decide, by decide, (vB 15 _ (by decide) rfl).trans ((own_enc c3).trans (congrArg (fun z => z.toInt8.toInt32) ((congrArg (atv cC) (by decide : (15 : Int32) / 4 = 3)).trans (vC 3 _ (by decide) rfl)).symm))⟩))⟩
    exact sg_T hx hby hml hown hlk hret hZ hw (Nat.le_trans (Nat.le_trans (Nat.le_trans (Nat.le_trans (Nat.le_trans (Nat.le_trans (Nat.le_trans (Nat.le_trans Z0 E1.1) (Keep.of_wr W3).1) (Keep.of_wr W5).1) (Keep.of_wr W7).1) (Keep.of_wr W9).1) E10.1) Kc11.1) Kc14.1) hS (Nat.le_trans (Nat.le_trans (Nat.le_trans (Nat.le_trans (Nat.le_trans (Nat.le_trans (Nat.le_trans (Nat.le_trans hk0 E1.1) (Keep.of_wr W3).1) (Keep.of_wr W5).1) (Keep.of_wr W7).1) (Keep.of_wr W9).1) E10.1) Kc11.1) Kc14.1) (X14.more (by decide) (by decide)) rfl N14 O14 p1 p2 p3 p4 p5 p6 kk1 wf (4 : Int32) (0 : Int32) (4 : Int32) a11 b1 tN_14 cB cC (16 : Int32) Tb Tc hA0 hA1 hA2 hA3 hA4 hA5 hA6 hA7 hA8 hA9 hA10 hA11 hA12 hA13 hA14 hA15
  · skip
    show gs T11 m 307 #[vi p1, vi p2, vi p3, vi p4, vi p5, vi p6, vi kk1, vr wf, vi 4, vi 1, vi 4, vr a11, vr b1, .unset] [(.ref b10), (.ref wf)]
    refine oV 0 X11 hx hZ hby hml hown (own_w hw 34 rfl) (own_w hw 35 rfl) (own_w hw 37 rfl) (own_w hw 36 rfl) (rm_enc_4_4_1 l Z a0 hw [] wf b10 tN_11 kN_11 (nar .byte (c0.toInt8.toInt32)) (nar .byte (c1.toInt8.toInt32)) (nar .byte (c2.toInt8.toInt32)) (nar .byte (c3.toInt8.toInt32)) zCS fm T11.heap n0 (Nat.le_trans (Nat.le_trans (Nat.le_trans (Nat.le_trans (Nat.le_trans (Nat.le_trans (Nat.le_trans Z0 E1.1) (Keep.of_wr W3).1) (Keep.of_wr W5).1) (Keep.of_wr W7).1) (Keep.of_wr W9).1) E10.1) Kc11.1) O11 Fw Fl P11_0 P11_2 P11_1 P11_3 S_CS P_CS S_SF P_SF) (own_w hw 38 rfl) (own_w hw 2 rfl) rfl (Exa.ext O11.2 Ef) (by decide) own_pd13 at_307 rfl rfl rfl (fun T16 L16 v16 X16 hQ16 => ?_)
    obtain ⟨tN_16, kN_16, rfl, Nq16, Kc16, P16_0, P16_1⟩ := hQ16
    have N16 := Fr.app N11 Nq16
    have ne_a11_tN_16 : a11 ≠ tN_16 := Nat.ne_of_lt (Nat.lt_of_lt_of_le ((Arv.ext (((((Arv.ext R_C E1).other W3 ne_a11_b1).other W5 ne_a11_b1).other W7 ne_a11_b1).other W9 ne_a11_b1) E10).keep Kc11 (ninS ne_a11_b10 nin0)).lt P16_0)
    have ne_b1_tN_16 : b1 ≠ tN_16 := Nat.ne_of_lt (Nat.lt_of_lt_of_le ((Arv.ext RP E10).keep Kc11 (ninS ne_b1_b10 nin0)).lt P16_0)
    have ne_b10_tN_16 : b10 ≠ tN_16 := Nat.ne_of_lt (Nat.lt_of_lt_of_le P11_0.lt P16_0)
    have ne_tN_11_tN_16 : tN_11 ≠ tN_16 := Nat.ne_of_lt (Nat.lt_of_lt_of_le P11_3.lt P16_0)
    have ge_tN_16 : n0 ≤ tN_16 := Nat.le_trans (Nat.le_trans (Nat.le_trans (Nat.le_trans (Nat.le_trans (Nat.le_trans (Nat.le_trans (Nat.le_trans Z0 E1.1) (Keep.of_wr W3).1) (Keep.of_wr W5).1) (Keep.of_wr W7).1) (Keep.of_wr W9).1) E10.1) Kc11.1) P16_0
    have O16 := O11.keep Kc16 all0
    show gs T16 m 310 #[vi p1, vi p2, vi p3, vi p4, vi p5, vi p6, vi kk1, vr wf, vi 4, vi 1, vi 4, vr a11, vr b1, .unset] [(.ref tN_16)]
    refine own_st (fun _ kS => XS.astore X16.here hx rfl (hb hby at_310) rfl rfl (l' := #[vi p1, vi p2, vi p3, vi p4, vi p5, vi p6, vi kk1, vr wf, vi 4, vi 1, vi 4, vr a11, vr b1, vr tN_16]) rfl kS) ?_
    refine oaload X16 hx hby at_312 rfl rfl ?_
    show gs T16 m 314 #[vi p1, vi p2, vi p3, vi p4, vi p5, vi p6, vi kk1, vr wf, vi 4, vi 1, vi 4, vr a11, vr b1, vr tN_16] [(.ref tN_16)]
    obtain ⟨cl17, Ar17, qa17, qs17, qn17, qh17, qg17⟩ := id P16_1
    refine own_st (fun _ kS => X16.arraylength hx (Ar17.1) (State.isArrayOf_alike hZ.alike Ar17.2.1) (g := (mkF m 314 #[vi p1, vi p2, vi p3, vi p4, vi p5, vi p6, vi kk1, vr wf, vi 4, vi 1, vi 4, vr a11, vr b1, vr tN_16] [(.ref tN_16)])) rfl rfl (hb hby at_314) _ kS) ?_
    rw [len_of qs17 qn17]
    show gs T16 m 315 #[vi p1, vi p2, vi p3, vi p4, vi p5, vi p6, vi kk1, vr wf, vi 4, vi 1, vi 4, vr a11, vr b1, vr tN_16] [(.int 16)]
    refine oiload X16 hx hby at_315 rfl ?_
    refine oiload X16 hx hby at_317 rfl ?_
    refine own_st (fun _ kS => XS.imul X16.here hx rfl (hb hby at_319) rfl kS) ?_
    show gs T16 m 320 #[vi p1, vi p2, vi p3, vi p4, vi p5, vi p6, vi kk1, vr wf, vi 4, vi 1, vi 4, vr a11, vr b1, vr tN_16] [(.int 16), (.int 16)]
    refine own_st (fun _ kS => XS.icmpYes X16.here hx rfl (pc0 := 320) (pc' := 325) rfl (hb hby at_320) rfl (teq (by decide : (16 : Int32) = (16 : Int32))).1 (by decide) (by decide) kS) ?_
    show gs T16 m 325 #[vi p1, vi p2, vi p3, vi p4, vi p5, vi p6, vi kk1, vr wf, vi 4, vi 1, vi 4, vr a11, vr b1, vr tN_16] []
    obtain ⟨cB, Tb, vB⟩ := own_tab2 P16_1 (fun i => by match i with | 0 => exact ⟨_, rfl⟩ | 1 => exact ⟨_, rfl⟩ | 2 => exact ⟨_, rfl⟩ | 3 => exact ⟨_, rfl⟩ | 4 => exact ⟨_, rfl⟩ | 5 => exact ⟨_, rfl⟩ | 6 => exact ⟨_, rfl⟩ | 7 => exact ⟨_, rfl⟩ | 8 => exact ⟨_, rfl⟩ | 9 => exact ⟨_, rfl⟩ | 10 => exact ⟨_, rfl⟩ | 11 => exact ⟨_, rfl⟩ | 12 => exact ⟨_, rfl⟩ | 13 => exact ⟨_, rfl⟩ | 14 => exact ⟨_, rfl⟩ | 15 => exact ⟨_, rfl⟩ | _ + 16 => exact ⟨_, rfl⟩)
    obtain ⟨cC, Tc, vC⟩ := own_tab2 (((Arv.ext (((((Arv.ext R_C E1).other W3 ne_a11_b1).other W5 ne_a11_b1).other W7 ne_a11_b1).other W9 ne_a11_b1) E10).keep Kc11 (ninS ne_a11_b10 nin0)).keep Kc16 nin0) (fun i => by match i with | 0 => exact ⟨_, rfl⟩ | 1 => exact ⟨_, rfl⟩ | 2 => exact ⟨_, rfl⟩ | 3 => exact ⟨_, rfl⟩ | _ + 4 => exact ⟨_, rfl⟩)
    have hA0 : own_at 4 1 0 16 cB cC := Or.inr ⟨by decide, by decide, by decide, Or.inl ⟨rfl, by decide, by decide, (vB 0 _ (by decide) rfl).trans ((own_enc c0).trans (congrArg (fun z => z.toInt8.toInt32) ((congrArg (atv cC) (by decide : (0 : Int32) / 4 = 0)).trans (vC 0 _ (by decide) rfl)).symm))⟩⟩
    have hA1 : own_at 4 1 1 16 cB cC := Or.inr ⟨by decide, by decide, by decide, Or.inr (Or.inl ⟨rfl, by decide, vB 1 _ (by decide) rfl⟩)⟩
    have hA2 : own_at 4 1 2 16 cB cC := Or.inr ⟨by decide, by decide, by decide, Or.inr (Or.inl ⟨rfl, by decide, vB 2 _ (by decide) rfl⟩)⟩
    have hA3 : own_at 4 1 3 16 cB cC := Or.inr ⟨by decide, by decide, by decide, Or.inr (Or.inl ⟨rfl, by decide, vB 3 _ (by decide) rfl⟩)⟩
    have hA4 : own_at 4 1 4 16 cB cC := Or.inr ⟨by decide, by decide, by decide, Or.inl ⟨rfl, by decide, by decide, (vB 4 _ (by decide) rfl).trans ((own_enc c1).trans (congrArg (fun z => z.toInt8.toInt32) ((congrArg (atv cC) (by decide : (4 : Int32) / 4 = 1)).trans (vC 1 _ (by decide) rfl)).symm))⟩⟩
    have hA5 : own_at 4 1 5 16 cB cC := Or.inr ⟨by decide, by decide, by decide, Or.inr (Or.inl ⟨rfl, by decide, vB 5 _ (by decide) rfl⟩)⟩
    have hA6 : own_at 4 1 6 16 cB cC := Or.inr ⟨by decide, by decide, by decide, Or.inr (Or.inl ⟨rfl, by decide, vB 6 _ (by decide) rfl⟩)⟩
    have hA7 : own_at 4 1 7 16 cB cC := Or.inr ⟨by decide, by decide, by decide, Or.inr (Or.inl ⟨rfl, by decide, vB 7 _ (by decide) rfl⟩)⟩
    have hA8 : own_at 4 1 8 16 cB cC := Or.inr ⟨by decide, by decide, by decide, Or.inl ⟨rfl, by decide, by decide, (vB 8 _ (by decide) rfl).trans ((own_enc c2).trans (congrArg (fun z => z.toInt8.toInt32) ((congrArg (atv cC) (by decide : (8 : Int32) / 4 = 2)).trans (vC 2 _ (by decide) rfl)).symm))⟩⟩
    have hA9 : own_at 4 1 9 16 cB cC := Or.inr ⟨by decide, by decide, by decide, Or.inr (Or.inl ⟨rfl, by decide, vB 9 _ (by decide) rfl⟩)⟩
    have hA10 : own_at 4 1 10 16 cB cC := Or.inr ⟨by decide, by decide, by decide, Or.inr (Or.inl ⟨rfl, by decide, vB 10 _ (by decide) rfl⟩)⟩
    have hA11 : own_at 4 1 11 16 cB cC := Or.inr ⟨by decide, by decide, by decide, Or.inr (Or.inl ⟨rfl, by decide, vB 11 _ (by decide) rfl⟩)⟩
    have hA12 : own_at 4 1 12 16 cB cC := Or.inr ⟨by decide, by decide, by decide, Or.inl ⟨rfl, by decide, by decide, (vB 12 _ (by decide) rfl).trans ((own_enc c3).trans (congrArg (fun z => z.toInt8.toInt32) ((congrArg (atv cC) (by decide : (12 : Int32) / 4 = 3)).trans (vC 3 _ (by decide) rfl)).symm))⟩⟩
    have hA13 : own_at 4 1 13 16 cB cC := Or.inr ⟨by decide, by decide, by decide, Or.inr (Or.inl ⟨rfl, by decide, vB 13 _ (by decide) rfl⟩)⟩
    have hA14 : own_at 4 1 14 16 cB cC := Or.inr ⟨by decide, by decide, by decide, Or.inr (Or.inl ⟨rfl, by decide, vB 14 _ (by decide) rfl⟩)⟩
    have hA15 : own_at 4 1 15 16 cB cC := Or.inr ⟨by decide, by decide, by decide, Or.inr (Or.inl ⟨rfl, by decide, vB 15 _ (by decide) rfl⟩)⟩
    exact sg_T hx hby hml hown hlk hret hZ hw (Nat.le_trans (Nat.le_trans (Nat.le_trans (Nat.le_trans (Nat.le_trans (Nat.le_trans (Nat.le_trans (Nat.le_trans Z0 E1.1) (Keep.of_wr W3).1) (Keep.of_wr W5).1) (Keep.of_wr W7).1) (Keep.of_wr W9).1) E10.1) Kc11.1) Kc16.1) hS (Nat.le_trans (Nat.le_trans (Nat.le_trans (Nat.le_trans (Nat.le_trans (Nat.le_trans (Nat.le_trans (Nat.le_trans hk0 E1.1) (Keep.of_wr W3).1) (Keep.of_wr W5).1) (Keep.of_wr W7).1) (Keep.of_wr W9).1) E10.1) Kc11.1) Kc16.1) (X16.more (by decide) (by decide)) rfl N16 O16 p1 p2 p3 p4 p5 p6 kk1 wf (4 : Int32) (1 : Int32) (4 : Int32) a11 b1 tN_16 cB cC (16 : Int32) Tb Tc hA0 hA1 hA2 hA3 hA4 hA5 hA6 hA7 hA8 hA9 hA10 hA11 hA12 hA13 hA14 hA15
  · skip
    show gs T11 m 307 #[vi p1, vi p2, vi p3, vi p4, vi p5, vi p6, vi kk1, vr wf, vi 2, vi 0, vi 4, vr a11, vr b1, .unset] [(.ref b10), (.ref wf)]
    refine oV 0 X11 hx hZ hby hml hown (own_w hw 34 rfl) (own_w hw 35 rfl) (own_w hw 37 rfl) (own_w hw 36 rfl) (rm_enc_4_2_0 l Z a0 hw [] wf b10 tN_11 kN_11 (nar .byte (c0.toInt8.toInt32)) (nar .byte (c1.toInt8.toInt32)) (nar .byte (c2.toInt8.toInt32)) (nar .byte (c3.toInt8.toInt32)) zCS fm T11.heap n0 (Nat.le_trans (Nat.le_trans (Nat.le_trans (Nat.le_trans (Nat.le_trans (Nat.le_trans (Nat.le_trans Z0 E1.1) (Keep.of_wr W3).1) (Keep.of_wr W5).1) (Keep.of_wr W7).1) (Keep.of_wr W9).1) E10.1) Kc11.1) O11 Fw Fl P11_0 P11_2 P11_1 P11_3 S_CS P_CS S_SF P_SF) (own_w hw 38 rfl) (own_w hw 2 rfl) rfl (Exa.ext O11.2 Ef) (by decide) own_pd13 at_307 rfl rfl rfl (fun T18 L18 v18 X18 hQ18 => ?_)
    obtain ⟨tN_18, kN_18, rfl, Nq18, Kc18, P18_0, P18_1⟩ := hQ18
    have N18 := Fr.app N11 Nq18
    have ne_a11_tN_18 : a11 ≠ tN_18 := Nat.ne_of_lt (Nat.lt_of_lt_of_le ((Arv.ext (((((Arv.ext R_C E1).other W3 ne_a11_b1).other W5 ne_a11_b1).other W7 ne_a11_b1).other W9 ne_a11_b1) E10).keep Kc11 (ninS ne_a11_b10 nin0)).lt P18_0)
    have ne_b1_tN_18 : b1 ≠ tN_18 := Nat.ne_of_lt (Nat.lt_of_lt_of_le ((Arv.ext RP E10).keep Kc11 (ninS ne_b1_b10 nin0)).lt P18_0)
    have ne_b10_tN_18 : b10 ≠ tN_18 := Nat.ne_of_lt (Nat.lt_of_lt_of_le P11_0.lt P18_0)
    have ne_tN_11_tN_18 : tN_11 ≠ tN_18 := Nat.ne_of_lt (Nat.lt_of_lt_of_le P11_3.lt P18_0)
    have ge_tN_18 : n0 ≤ tN_18 := Nat.le_trans (Nat.le_trans (Nat.le_trans (Nat.le_trans (Nat.le_trans (Nat.le_trans (Nat.le_trans (Nat.le_trans Z0 E1.1) (Keep.of_wr W3).1) (Keep.of_wr W5).1) (Keep.of_wr W7).1) (Keep.of_wr W9).1) E10.1) Kc11.1) P18_0
    have O18 := O11.keep Kc18 all0
    show gs T18 m 310 #[vi p1, vi p2, vi p3, vi p4, vi p5, vi p6, vi kk1, vr wf, vi 2, vi 0, vi 4, vr a11, vr b1, .unset] [(.ref tN_18)]
    refine own_st (fun _ kS => XS.astore X18.here hx rfl (hb hby at_310) rfl rfl (l' := #[vi p1, vi p2, vi p3, vi p4, vi p5, vi p6, vi kk1, vr wf, vi 2, vi 0, vi 4, vr a11, vr b1, vr tN_18]) rfl kS) ?_
    refine oaload X18 hx hby at_312 rfl rfl ?_
    show gs T18 m 314 #[vi p1, vi p2, vi p3, vi p4, vi p5, vi p6, vi kk1, vr wf, vi 2, vi 0, vi 4, vr a11, vr b1, vr tN_18] [(.ref tN_18)]
    obtain ⟨cl19, Ar19, qa19, qs19, qn19, qh19, qg19⟩ := id P18_1
    refine own_st (fun _ kS => X18.arraylength hx (Ar19.1) (State.isArrayOf_alike hZ.alike Ar19.2.1) (g := (mkF m 314 #[vi p1, vi p2, vi p3, vi p4, vi p5, vi p6, vi kk1, vr wf, vi 2, vi 0, vi 4, vr a11, vr b1, vr tN_18] [(.ref tN_18)])) rfl rfl (hb hby at_314) _ kS) ?_
    rw [len_of qs19 qn19]
    show gs T18 m 315 #[vi p1, vi p2, vi p3, vi p4, vi p5, vi p6, vi kk1, vr wf, vi 2, vi 0, vi 4, vr a11, vr b1, vr tN_18] [(.int 8)]
    refine oiload X18 hx hby at_315 rfl ?_
    refine oiload X18 hx hby at_317 rfl ?_
    refine own_st (fun _ kS => XS.imul X18.here hx rfl (hb hby at_319) rfl kS) ?_
    show gs T18 m 320 #[vi p1, vi p2, vi p3, vi p4, vi p5, vi p6, vi kk1, vr wf, vi 2, vi 0, vi 4, vr a11, vr b1, vr tN_18] [(.int 8), (.int 8)]
    refine own_st (fun _ kS => XS.icmpYes X18.here hx rfl (pc0 := 320) (pc' := 325) rfl (hb hby at_320) rfl (teq (by decide : (8 : Int32) = (8 : Int32))).1 (by decide) (by decide) kS) ?_
    show gs T18 m 325 #[vi p1, vi p2, vi p3, vi p4, vi p5, vi p6, vi kk1, vr wf, vi 2, vi 0, vi 4, vr a11, vr b1, vr tN_18] []
    obtain ⟨cB, Tb, vB⟩ := own_tab2 P18_1 (fun i => by match i with | 0 => exact ⟨_, rfl⟩ | 1 => exact ⟨_, rfl⟩ | 2 => exact ⟨_, rfl⟩ | 3 => exact ⟨_, rfl⟩ | 4 => exact ⟨_, rfl⟩ | 5 => exact ⟨_, rfl⟩ | 6 => exact ⟨_, rfl⟩ | 7 => exact ⟨_, rfl⟩ | _ + 8 => exact ⟨_, rfl⟩)
    obtain ⟨cC, Tc, vC⟩ := own_tab2 (((Arv.ext (((((Arv.ext R_C E1).other W3 ne_a11_b1).other W5 ne_a11_b1).other W7 ne_a11_b1).other W9 ne_a11_b1) E10).keep Kc11 (ninS ne_a11_b10 nin0)).keep Kc18 nin0) (fun i => by match i with | 0 => exact ⟨_, rfl⟩ | 1 => exact ⟨_, rfl⟩ | 2 => exact ⟨_, rfl⟩ | 3 => exact ⟨_, rfl⟩ | _ + 4 => exact ⟨_, rfl⟩)
    have hA0 : own_at 2 0 0 8 cB cC := Or.inr ⟨by decide, by decide, by decide, Or.inr (Or.inr (Or.inr ⟨rfl, by decide, vB 0 _ (by decide) rfl⟩))⟩
    have hA1 : own_at 2 0 1 8 cB cC := Or.inr ⟨by decide, by decide, by decide, Or.inr (Or.inr (Or.inl ⟨rfl, by decide, by decide, (vB 1 _ (by decide) rfl).trans ((own_enc c0).trans (congrArg (fun z => z.toInt8.toInt32) ((congrArg (atv cC) (by decide : (1 : Int32) / 2 = 0)).trans (vC 0 _ (by decide) rfl)).symm))⟩))⟩
    have hA2 : own_at 2 0 2 8 cB cC := Or.inr ⟨by decide, by decide, by decide, Or.inr (Or.inr (Or.inr ⟨rfl, by decide, vB 2 _ (by decide) rfl⟩))⟩
    have hA3 : own_at 2 0 3 8 cB cC := Or.inr ⟨by decide, by decide, by decide, Or.inr (Or.inr (Or.inl ⟨rfl, by decide, by decide, (vB 3 _ (by decide) rfl).trans ((own_enc c1).trans (congrArg (fun z => z.toInt8.toInt32) ((congrArg (atv cC) (by decide : (3 : Int32) / 2 = 1)).trans (vC 1 _ (by decide) rfl)).symm))⟩))⟩
    have hA4 : own_at 2 0 4 8 cB cC := Or.inr ⟨by decide, by decide, by decide, Or.inr (Or.inr (Or.inr ⟨rfl, by decide, vB 4 _ (by decide) rfl⟩))⟩
    have hA5 : own_at 2 0 5 8 cB cC := Or.inr ⟨by decide, by decide, by decide, Or.inr (Or.inr (Or.inl ⟨rfl, by decide, by decide, (vB 5 _ (by decide) rfl).trans ((own_enc c2).trans (congrArg (fun z => z.toInt8.toInt32) ((congrArg (atv cC) (by decide : (5 : Int32) / 2 = 2)).trans (vC 2 _ (by decide) rfl)).symm))⟩))⟩
    have hA6 : own_at 2 0 6 8 cB cC := Or.inr ⟨by decide, by decide, by decide, Or.inr (Or.inr (Or.inr ⟨rfl, by decide, vB 6 _ (by decide) rfl⟩))⟩
    have hA7 : own_at 2 0 7 8 cB cC := Or.inr ⟨by decide, by decide, by decide, Or.inr (Or.inr (Or.inl ⟨rfl, by decide, by decide, (vB 7 _ (by decide) rfl).trans ((own_enc c3).trans (congrArg (fun z => z.toInt8.toInt32) ((congrArg (atv cC) (by decide : (7 : Int32) / 2 = 3)).trans (vC 3 _ (by decide) rfl)).symm))⟩))⟩
    exact sg_T hx hby hml hown hlk hret hZ hw (Nat.le_trans (Nat.le_trans (Nat.le_trans (Nat.le_trans (Nat.le_trans (Nat.le_trans (Nat.le_trans (Nat.le_trans Z0 E1.1) (Keep.of_wr W3).1) (Keep.of_wr W5).1) (Keep.of_wr W7).1) (Keep.of_wr W9).1) E10.1) Kc11.1) Kc18.1) hS (Nat.le_trans (Nat.le_trans (Nat.le_trans (Nat.le_trans (Nat.le_trans (Nat.le_trans (Nat.le_trans (Nat.le_trans hk0 E1.1) (Keep.of_wr W3).1) (Keep.of_wr W5).1) (Keep.of_wr W7).1) (Keep.of_wr W9).1) E10.1) Kc11.1) Kc18.1) (X18.more (by decide) (by decide)) rfl N18 O18 p1 p2 p3 p4 p5 p6 kk1 wf (2 : Int32) (0 : Int32) (4 : Int32) a11 b1 tN_18 cB cC (8 : Int32) Tb Tc hA0 hA1 hA2 hA3 hA4 hA5 hA6 hA7 (Or.inl (by decide)) (Or.inl (by decide)) (Or.inl (by decide)) (Or.inl (by decide)) (Or.inl (by decide)) (Or.inl (by decide)) (Or.inl (by decide)) (Or.inl (by decide))
  · skip
    show gs T11 m 307 #[vi p1, vi p2, vi p3, vi p4, vi p5, vi p6, vi kk1, vr wf, vi 2, vi 1, vi 4, vr a11, vr b1, .unset] [(.ref b10), (.ref wf)]
    refine oV 0 X11 hx hZ hby hml hown (own_w hw 34 rfl) (own_w hw 35 rfl) (own_w hw 37 rfl) (own_w hw 36 rfl) (rm_enc_4_2_1 l Z a0 hw [] wf b10 tN_11 kN_11 (nar .byte (c0.toInt8.toInt32)) (nar .byte (c1.toInt8.toInt32)) (nar .byte (c2.toInt8.toInt32)) (nar .byte (c3.toInt8.toInt32)) zCS fm T11.heap n0 (Nat.le_trans (Nat.le_trans (Nat.le_trans (Nat.le_trans (Nat.le_trans (Nat.le_trans (Nat.le_trans Z0 E1.1) (Keep.of_wr W3).1) (Keep.of_wr W5).1) (Keep.of_wr W7).1) (Keep.of_wr W9).1) E10.1) Kc11.1) O11 Fw Fl P11_0 P11_2 P11_1 P11_3 S_CS P_CS S_SF P_SF) (own_w hw 38 rfl) (own_w hw 2 rfl) rfl (Exa.ext O11.2 Ef) (by decide) own_pd13 at_307 rfl rfl rfl (fun T20 L20 v20 X20 hQ20 => ?_)
    obtain ⟨tN_20, kN_20, rfl, Nq20, Kc20, P20_0, P20_1⟩ := hQ20
    have N20 := Fr.app N11 Nq20
    have ne_a11_tN_20 : a11 ≠ tN_20 := Nat.ne_of_lt (Nat.lt_of_lt_of_le ((Arv.ext (((((Arv.ext R_C E1).other W3 ne_a11_b1).other W5 ne_a11_b1).other W7 ne_a11_b1).other W9 ne_a11_b1) E10).keep Kc11 (ninS ne_a11_b10 nin0)).lt P20_0)
    have ne_b1_tN_20 : b1 ≠ tN_20 := Nat.ne_of_lt (Nat.lt_of_lt_of_le ((Arv.ext RP E10).keep Kc11 (ninS ne_b1_b10 nin0)).lt P20_0)
    have ne_b10_tN_20 : b10 ≠ tN_20 := Nat.ne_of_lt (Nat.lt_of_lt_of_le P11_0.lt P20_0)
    have ne_tN_11_tN_20 : tN_11 ≠ tN_20 := Nat.ne_of_lt (Nat.lt_of_lt_of_le P11_3.lt P20_0)
    have ge_tN_20 : n0 ≤ tN_20 := Nat.le_trans (Nat.le_trans (Nat.le_trans (Nat.le_trans (Nat.le_trans (Nat.le_trans (Nat.le_trans (Nat.le_trans Z0 E1.1) (Keep.of_wr W3).1) (Keep.of_wr W5).1) (Keep.of_wr W7).1) (Keep.of_wr W9).1) E10.1) Kc11.1) P20_0
    have O20 := O11.keep Kc20 all0
    show gs T20 m 310 #[vi p1, vi p2, vi p3, vi p4, vi p5, vi p6, vi kk1, vr wf, vi 2, vi 1, vi 4, vr a11, vr b1, .unset] [(.ref tN_20)]
    refine own_st (fun _ kS => XS.astore X20.here hx rfl (hb hby at_310) rfl rfl (l' := #[vi p1, vi p2, vi p3, vi p4, vi p5, vi p6, vi kk1, vr wf, vi 2, vi 1, vi 4, vr a11, vr b1, vr tN_20]) rfl kS) ?_
    refine oaload X20 hx hby at_312 rfl rfl ?_
    show gs T20 m 314 #[vi p1, vi p2, vi p3, vi p4, vi p5, vi p6, vi kk1, vr wf, vi 2, vi 1, vi 4, vr a11, vr b1, vr tN_20] [(.ref tN_20)]
    obtain ⟨cl21, Ar21, qa21, qs21, qn21, qh21, qg21⟩ := id P20_1
    refine own_st (fun _ kS => X20.arraylength hx (Ar21.1) (State.isArrayOf_alike hZ.alike Ar21.2.1) (g := (mkF m 314 #[vi p1, vi p2, vi p3, vi p4, vi p5, vi p6, vi kk1, vr wf, vi 2, vi 1, vi 4, vr a11, vr b1, vr tN_20] [(.ref tN_20)])) rfl rfl (hb hby at_314) _ kS) ?_
    rw [len_of qs21 qn21]
    show gs T20 m 315 #[vi p1, vi p2, vi p3, vi p4, vi p5, vi p6, vi kk1, vr wf, vi 2, vi 1, vi 4, vr a11, vr b1, vr tN_20] [(.int 8)]
    refine oiload X20 hx hby at_315 rfl ?_
    refine oiload X20 hx hby at_317 rfl ?_
    refine own_st (fun _ kS => XS.imul X20.here hx rfl (hb hby at_319) rfl kS) ?_
    show gs T20 m 320 #[vi p1, vi p2, vi p3, vi p4, vi p5, vi p6, vi kk1, vr wf, vi 2, vi 1, vi 4, vr a11, vr b1, vr tN_20] [(.int 8), (.int 8)]
    refine own_st (fun _ kS => XS.icmpYes X20.here hx rfl (pc0 := 320) (pc' := 325) rfl (hb hby at_320) rfl (teq (by decide : (8 : Int32) = (8 : Int32))).1 (by decide) (by decide) kS) ?_
    show gs T20 m 325 #[vi p1, vi p2, vi p3, vi p4, vi p5, vi p6, vi kk1, vr wf, vi 2, vi 1, vi 4, vr a11, vr b1, vr tN_20] []
    obtain ⟨cB, Tb, vB⟩ := own_tab2 P20_1 (fun i => by match i with | 0 => exact ⟨_, rfl⟩ | 1 => exact ⟨_, rfl⟩ | 2 => exact ⟨_, rfl⟩ | 3 => exact ⟨_, rfl⟩ | 4 => exact ⟨_, rfl⟩ | 5 => exact ⟨_, rfl⟩ | 6 => exact ⟨_, rfl⟩ | 7 => exact ⟨_, rfl⟩ | _ + 8 => exact ⟨_, rfl⟩)
    obtain ⟨cC, Tc, vC⟩ := own_tab2 (((Arv.ext (((((Arv.ext R_C E1).other W3 ne_a11_b1).other W5 ne_a11_b1).other W7 ne_a11_b1).other W9 ne_a11_b1) E10).keep Kc11 (ninS ne_a11_b10 nin0)).keep Kc20 nin0) (fun i => by match i with | 0 => exact ⟨_, rfl⟩ | 1 => exact ⟨_, rfl⟩ | 2 => exact ⟨_, rfl⟩ | 3 => exact ⟨_, rfl⟩ | _ + 4 => exact ⟨_, rfl⟩)
    have hA0 : own_at 2 1 0 8 cB cC := Or.inr ⟨by decide, by decide, by decide, Or.inl ⟨rfl, by decide, by decide, (vB 0 _ (by decide) rfl).trans ((own_enc c0).trans (congrArg (fun z => z.toInt8.toInt32) ((congrArg (atv cC) (by decide : (0 : Int32) / 2 = 0)).trans (vC 0 _ (by decide) rfl)).symm))⟩⟩
    have hA1 : own_at 2 1 1 8 cB cC := Or.inr ⟨by decide, by decide, by decide, Or.inr (Or.inl ⟨rfl, by decide, vB 1 _ (by decide) rfl⟩)⟩
    have hA2 : own_at 2 1 2 8 cB cC := Or.inr ⟨by decide, by decide, by decide, Or.inl ⟨rfl, by decide, by decide, (vB 2 _ (by decide) rfl).trans ((own_enc c1).trans (congrArg (fun z => z.toInt8.toInt32) ((congrArg (atv cC) (by decide : (2 : Int32) / 2 = 1)).trans (vC 1 _ (by decide) rfl)).symm))⟩⟩
    have hA3 : own_at 2 1 3 8 cB cC := Or.inr ⟨by decide, by decide, by decide, Or.inr (Or.inl ⟨rfl, by decide, vB 3 _ (by decide) rfl⟩)⟩
    have hA4 : own_at 2 1 4 8 cB cC := Or.inr ⟨by decide, by decide, by decide, Or.inl ⟨rfl, by decide, by decide, (vB 4 _ (by decide) rfl).trans ((own_enc c2).trans (congrArg (fun z => z.toInt8.toInt32) ((congrArg (atv cC) (by decide : (4 : Int32) / 2 = 2)).trans (vC 2 _ (by decide) rfl)).symm))⟩⟩
    have hA5 : own_at 2 1 5 8 cB cC := Or.inr ⟨by decide, by decide, by decide, Or.inr (Or.inl ⟨rfl, by decide, vB 5 _ (by decide) rfl⟩)⟩
    have hA6 : own_at 2 1 6 8 cB cC := Or.inr ⟨by decide, by decide, by decide, Or.inl ⟨rfl, by decide, by decide, (vB 6 _ (by decide) rfl).trans ((own_enc c3).trans (congrArg (fun z => z.toInt8.toInt32) ((congrArg (atv cC) (by decide : (6 : Int32) / 2 = 3)).trans (vC 3 _ (by decide) rfl)).symm))⟩⟩
    have hA7 : own_at 2 1 7 8 cB cC := Or.inr ⟨by decide, by decide, by decide, Or.inr (Or.inl ⟨rfl, by decide, vB 7 _ (by decide) rfl⟩)⟩
    exact sg_T hx hby hml hown hlk hret hZ hw (Nat.le_trans (Nat.le_trans (Nat.le_trans (Nat.le_trans (Nat.le_trans (Nat.le_trans (Nat.le_trans (Nat.le_trans Z0 E1.1) (Keep.of_wr W3).1) (Keep.of_wr W5).1) (Keep.of_wr W7).1) (Keep.of_wr W9).1) E10.1) Kc11.1) Kc20.1) hS (Nat.le_trans (Nat.le_trans (Nat.le_trans (Nat.le_trans (Nat.le_trans (Nat.le_trans (Nat.le_trans (Nat.le_trans hk0 E1.1) (Keep.of_wr W3).1) (Keep.of_wr W5).1) (Keep.of_wr W7).1) (Keep.of_wr W9).1) E10.1) Kc11.1) Kc20.1) (X20.more (by decide) (by decide)) rfl N20 O20 p1 p2 p3 p4 p5 p6 kk1 wf (2 : Int32) (1 : Int32) (4 : Int32) a11 b1 tN_20 cB cC (8 : Int32) Tb Tc hA0 hA1 hA2 hA3 hA4 hA5 hA6 hA7 (Or.inl (by decide)) (Or.inl (by decide)) (Or.inl (by decide)) (Or.inl (by decide)) (Or.inl (by decide)) (Or.inl (by decide)) (Or.inl (by decide)) (Or.inl (by decide))
theorem sg_A {p : Program} {l : Launch} {e : Env} {s : State} {m : MethodId} {args : Array Value} {below : List Frame} {meth : Method} {c : Code} {T0 : State} {locs : List Loc} {Z : State} {a0 : Array Value} {h0 : Heap} {n0 : Nat} {vm0 : Vm} {kv0 : Nat} (hx : p.tables.exec = Jvm.exec) (hby : c.code = code) (hml : c.maxLocals = 14) (hown : (s.setVm vm0).vm.findClass "com/example/provenir/provenir/TextEncodingEncodePinLaw" = some m.cls) (hlk : meth.locks = false) (hret : meth.sig.returnType = some .boolean) (hZ : Z.Warmed39 (s.setVm vm0).vm) (hw : HW a0 Z) (Z0 : n0 ≤ h0.size) (hS : s.Since vm0 kv0) (hk0 : kv0 ≤ h0.size)
    (X0 : Stand p l e room_1 (s.setVm vm0) m args below meth c T0 locs 0 0) (e0 : T0.heap = h0) (N0 : Fr n0 locs) (O0 : Old Z n0 h0) (p1 : Int32) (p2 : Int32) (p3 : Int32) (p4 : Int32) (p5 : Int32) (p6 : Int32) (kk1 : Int32) (wf : Addr) (w : Int32) (le : Int32) (zCS : Int32) (fm : Value) (Ef : ek13 Z Z.heap wf) (Fw : fk10 Z Z.heap wf (.int w)) (Fl : fk11 Z Z.heap wf (.int le)) (S_CS : sk0 Z Z.heap (.int zCS)) (P_CS : ¬ zCS = 0) (S_SF : sk1 Z Z.heap fm) (P_SF : fm.isRef = true) (hW : (w = 1 ∧ le = 0) ∨ (w = 4 ∧ le = 0) ∨ (w = 4 ∧ le = 1) ∨ (w = 2 ∧ le = 0) ∨ (w = 2 ∧ le = 1)) (hCH : CHv Z EL0 vm0 h0) :
    own_G p.tables e below (own_EW s (Q_law n0) room_1.cells room_1.slots) (T0.setTop (mkF m 119 #[vi p1, vi p2, vi p3, vi p4, vi p5, vi p6, vi kk1, vr wf, vi w, vi le, .unset, .unset, .unset, .unset] [])) := by
  have hEL : EW Z a0 EL0 := own_ELw hw
  show gs T0 m 119 #[vi p1, vi p2, vi p3, vi p4, vi p5, vi p6, vi kk1, vr wf, vi w, vi le, .unset, .unset, .unset, .unset] []
  refine oiloadN X0 hx hby at_119 rfl ?_
  show gs T0 m 120 #[vi p1, vi p2, vi p3, vi p4, vi p5, vi p6, vi kk1, vr wf, vi w, vi le, .unset, .unset, .unset, .unset] [(.int p2)]
  refine own_st (fun _ kS => X0.ldcInt hx hown (mvT hZ (own_w hw 0 rfl)) (g := (mkF m 120 #[vi p1, vi p2, vi p3, vi p4, vi p5, vi p6, vi kk1, vr wf, vi w, vi le, .unset, .unset, .unset, .unset] [(.int p2)])) rfl (hb hby at_120) _ kS) ?_
  show gs T0 m 122 #[vi p1, vi p2, vi p3, vi p4, vi p5, vi p6, vi kk1, vr wf, vi w, vi le, .unset, .unset, .unset, .unset] [(.int 2147483647), (.int p2)]
  refine own_st (fun _ kS => XS.iand X0.here hx rfl (hb hby at_122) rfl kS) ?_
  refine oiconst X0 hx hby at_123 ?_
  show gs T0 m 124 #[vi p1, vi p2, vi p3, vi p4, vi p5, vi p6, vi kk1, vr wf, vi w, vi le, .unset, .unset, .unset, .unset] [(.int 5), (.int (p2 &&& (2147483647 : Int32)))]
  refine own_st (fun _ kS => iremM (g := (mkF m 124 #[vi p1, vi p2, vi p3, vi p4, vi p5, vi p6, vi kk1, vr wf, vi w, vi le, .unset, .unset, .unset, .unset] [(.int 5), (.int (p2 &&& (2147483647 : Int32)))])) X0 hx rfl (hb hby at_124) rfl (by decide) kS) ?_
  show gs T0 m 125 #[vi p1, vi p2, vi p3, vi p4, vi p5, vi p6, vi kk1, vr wf, vi w, vi le, .unset, .unset, .unset, .unset] [(.int ((p2 &&& (2147483647 : Int32)) % (5 : Int32)))]
  obtain ⟨ln, hln⟩ : ∃ z, z = ((p2 &&& (2147483647 : Int32)) % (5 : Int32)) := ⟨_, rfl⟩
  have hN : ln = 0 ∨ ln = 1 ∨ ln = 2 ∨ ln = 3 ∨ ln = 4 := hln ▸ own_mod5 p2
  rw [← hln]
  show gs T0 m 125 #[vi p1, vi p2, vi p3, vi p4, vi p5, vi p6, vi kk1, vr wf, vi w, vi le, .unset, .unset, .unset, .unset] [(.int ln)]
  refine own_st (fun _ kS => XS.istore X0.here hx rfl (hb hby at_125) rfl (l' := #[vi p1, vi p2, vi p3, vi p4, vi p5, vi p6, vi kk1, vr wf, vi w, vi le, vi ln, .unset, .unset, .unset]) rfl kS) ?_
  refine oiconst X0 hx hby at_127 ?_
  show gs T0 m 128 #[vi p1, vi p2, vi p3, vi p4, vi p5, vi p6, vi kk1, vr wf, vi w, vi le, vi ln, .unset, .unset, .unset] [(.int 4)]
  obtain ⟨T1, h1, k1, X1, e1, E1, A1, st1⟩ := newP X0 hx hZ (own_w hw 4 rfl) e0 (g := (mkF m 128 #[vi p1, vi p2, vi p3, vi p4, vi p5, vi p6, vi kk1, vr wf, vi w, vi le, vi ln, .unset, .unset, .unset] [(.int 4)])) rfl (hb hby at_128) rfl (by decide) (cap := 4) (by decide) (by decide) (by decide) (by decide)
  obtain ⟨b1, g1⟩ : ∃ z, z = h0.size := ⟨_, rfl⟩
  have ge_b1 : n0 ≤ b1 := Nat.le_trans Z0 (Nat.le_of_eq g1.symm)
  rw [← g1] at A1 st1
  have CH1 := CHv.ext E1 hCH
  have O1 := O0.ext E1
  have R1 : Arv Z h1 b1 k1 .char (4 : Int32) [(.int 0), (.int 0), (.int 0), (.int 0)] (.int 0) := (Arv.new A1 (by decide)).pad (pad_rep [] (.int 0) 4)
  refine own_st st1 ?_
  show gs T1 m 130 #[vi p1, vi p2, vi p3, vi p4, vi p5, vi p6, vi kk1, vr wf, vi w, vi le, vi ln, .unset, .unset, .unset] [(.ref b1)]
  refine own_st (fun _ kS => XS.dup X1.here hx rfl (hb hby at_130) rfl rfl kS) ?_
  refine oiconst X1 hx hby at_131 ?_
  refine oiloadN X1 hx hby at_132 rfl ?_
  refine own_st (fun _ kS => XS.bipush X1.here hx rfl (hb hby at_133) kS) ?_
  refine own_st (fun _ kS => XS.iand X1.here hx rfl (hb hby at_135) rfl kS) ?_
  refine own_st (fun _ kS => XT.i2c X1.here hx rfl (hb hby at_136) rfl kS) ?_
  show gs T1 m 137 #[vi p1, vi p2, vi p3, vi p4, vi p5, vi p6, vi kk1, vr wf, vi w, vi le, vi ln, .unset, .unset, .unset] [(.int ((p3 &&& (127 : Int32)).toUInt32.toUInt16.toUInt32.toInt32)), (.int 0), (.ref b1), (.ref b1)]
  obtain ⟨cl2, Ar2, qa2, qs2, qn2, qh2, qg2⟩ := id R1
  obtain ⟨T2, h2, X2, e2, W2, st2⟩ := stC X1 hx hZ e1 Ar2 (j := (0 : Int32)) (inb_of qs2 ⟨by decide, by decide⟩) (g := (mkF m 137 #[vi p1, vi p2, vi p3, vi p4, vi p5, vi p6, vi kk1, vr wf, vi w, vi le, vi ln, .unset, .unset, .unset] [(.int ((p3 &&& (127 : Int32)).toUInt32.toUInt16.toUInt32.toInt32)), (.int 0), (.ref b1), (.ref b1)])) rfl rfl (hb hby at_137)
  have Sw2 : Safe Z EL0 _ _ b1 := (Safe.arv hZ.alike R1 (by decide))
  have N2 := Fr.snoc X2 N0 ge_b1
  have O2 := O1.wr W2 ge_b1
  have CH2 := CHv.wr W2 Sw2 CH1
  have R2 : Arv Z h2 b1 k1 .char (4 : Int32) [(.int (nar .char ((p3 &&& (127 : Int32)).toUInt32.toUInt16.toUInt32.toInt32))), (.int 0), (.int 0), (.int 0)] (.int 0) := Arv.set Ar2 qa2 qs2 qn2 qh2 qg2 (fits_nar_char _) W2 0 rfl (Nat.le_of_ble_eq_true rfl)
  refine own_st st2 ?_
  show gs T2 m 138 #[vi p1, vi p2, vi p3, vi p4, vi p5, vi p6, vi kk1, vr wf, vi w, vi le, vi ln, .unset, .unset, .unset] [(.ref b1)]
  refine own_st (fun _ kS => XS.dup X2.here hx rfl (hb hby at_138) rfl rfl kS) ?_
  refine oiconst X2 hx hby at_139 ?_
  refine oiloadN X2 hx hby at_140 rfl ?_
  refine own_st (fun _ kS => XS.bipush X2.here hx rfl (hb hby at_141) kS) ?_
  refine own_st (fun _ kS => XS.iand X2.here hx rfl (hb hby at_143) rfl kS) ?_
  refine own_st (fun _ kS => XT.i2c X2.here hx rfl (hb hby at_144) rfl kS) ?_
  show gs T2 m 145 #[vi p1, vi p2, vi p3, vi p4, vi p5, vi p6, vi kk1, vr wf, vi w, vi le, vi ln, .unset, .unset, .unset] [(.int ((p4 &&& (127 : Int32)).toUInt32.toUInt16.toUInt32.toInt32)), (.int 1), (.ref b1), (.ref b1)]
  obtain ⟨cl3, Ar3, qa3, qs3, qn3, qh3, qg3⟩ := id R2
  obtain ⟨T3, h3, X3, e3, W3, st3⟩ := stC X2 hx hZ e2 Ar3 (j := (1 : Int32)) (inb_of qs3 ⟨by decide, by decide⟩) (g := (mkF m 145 #[vi p1, vi p2, vi p3, vi p4, vi p5, vi p6, vi kk1, vr wf, vi w, vi le, vi ln, .unset, .unset, .unset] [(.int ((p4 &&& (127 : Int32)).toUInt32.toUInt16.toUInt32.toInt32)), (.int 1), (.ref b1), (.ref b1)])) rfl rfl (hb hby at_145)
  have Sw3 : Safe Z EL0 _ _ b1 := (Safe.arv hZ.alike R2 (by decide))
  have N3 := Fr.snoc X3 N2 ge_b1
  have O3 := O2.wr W3 ge_b1
  have CH3 := CHv.wr W3 Sw3 CH2
  have R3 : Arv Z h3 b1 k1 .char (4 : Int32) [(.int (nar .char ((p3 &&& (127 : Int32)).toUInt32.toUInt16.toUInt32.toInt32))), (.int (nar .char ((p4 &&& (127 : Int32)).toUInt32.toUInt16.toUInt32.toInt32))), (.int 0), (.int 0)] (.int 0) := Arv.set Ar3 qa3 qs3 qn3 qh3 qg3 (fits_nar_char _) W3 1 rfl (Nat.le_of_ble_eq_true rfl)
  refine own_st st3 ?_
  show gs T3 m 146 #[vi p1, vi p2, vi p3, vi p4, vi p5, vi p6, vi kk1, vr wf, vi w, vi le, vi ln, .unset, .unset, .unset] [(.ref b1)]
  refine own_st (fun _ kS => XS.dup X3.here hx rfl (hb hby at_146) rfl rfl kS) ?_
  refine oiconst X3 hx hby at_147 ?_
  refine oiload X3 hx hby at_148 rfl ?_
  refine own_st (fun _ kS => XS.bipush X3.here hx rfl (hb hby at_150) kS) ?_
  refine own_st (fun _ kS => XS.iand X3.here hx rfl (hb hby at_152) rfl kS) ?_
  refine own_st (fun _ kS => XT.i2c X3.here hx rfl (hb hby at_153) rfl kS) ?_
  show gs T3 m 154 #[vi p1, vi p2, vi p3, vi p4, vi p5, vi p6, vi kk1, vr wf, vi w, vi le, vi ln, .unset, .unset, .unset] [(.int ((p5 &&& (127 : Int32)).toUInt32.toUInt16.toUInt32.toInt32)), (.int 2), (.ref b1), (.ref b1)]
  obtain ⟨cl4, Ar4, qa4, qs4, qn4, qh4, qg4⟩ := id R3
  obtain ⟨T4, h4, X4, e4, W4, st4⟩ := stC X3 hx hZ e3 Ar4 (j := (2 : Int32)) (inb_of qs4 ⟨by decide, by decide⟩) (g := (mkF m 154 #[vi p1, vi p2, vi p3, vi p4, vi p5, vi p6, vi kk1, vr wf, vi w, vi le, vi ln, .unset, .unset, .unset] [(.int ((p5 &&& (127 : Int32)).toUInt32.toUInt16.toUInt32.toInt32)), (.int 2), (.ref b1), (.ref b1)])) rfl rfl (hb hby at_154)
  have Sw4 : Safe Z EL0 _ _ b1 := (Safe.arv hZ.alike R3 (by decide))
  have N4 := Fr.snoc X4 N3 ge_b1
  have O4 := O3.wr W4 ge_b1
  have CH4 := CHv.wr W4 Sw4 CH3
  have R4 : Arv Z h4 b1 k1 .char (4 : Int32) [(.int (nar .char ((p3 &&& (127 : Int32)).toUInt32.toUInt16.toUInt32.toInt32))), (.int (nar .char ((p4 &&& (127 : Int32)).toUInt32.toUInt16.toUInt32.toInt32))), (.int (nar .char ((p5 &&& (127 : Int32)).toUInt32.toUInt16.toUInt32.toInt32))), (.int 0)] (.int 0) := Arv.set Ar4 qa4 qs4 qn4 qh4 qg4 (fits_nar_char _) W4 2 rfl (Nat.le_of_ble_eq_true rfl)
  refine own_st st4 ?_
  show gs T4 m 155 #[vi p1, vi p2, vi p3, vi p4, vi p5, vi p6, vi kk1, vr wf, vi w, vi le, vi ln, .unset, .unset, .unset] [(.ref b1)]
  refine own_st (fun _ kS => XS.dup X4.here hx rfl (hb hby at_155) rfl rfl kS) ?_
  refine oiconst X4 hx hby at_156 ?_
  refine oiload X4 hx hby at_157 rfl ?_
  refine own_st (fun _ kS => XS.bipush X4.here hx rfl (hb hby at_159) kS) ?_
  refine own_st (fun _ kS => XS.iand X4.here hx rfl (hb hby at_161) rfl kS) ?_
  refine own_st (fun _ kS => XT.i2c X4.here hx rfl (hb hby at_162) rfl kS) ?_
  show gs T4 m 163 #[vi p1, vi p2, vi p3, vi p4, vi p5, vi p6, vi kk1, vr wf, vi w, vi le, vi ln, .unset, .unset, .unset] [(.int ((p6 &&& (127 : Int32)).toUInt32.toUInt16.toUInt32.toInt32)), (.int 3), (.ref b1), (.ref b1)]
  obtain ⟨cl5, Ar5, qa5, qs5, qn5, qh5, qg5⟩ := id R4
  obtain ⟨T5, h5, X5, e5, W5, st5⟩ := stC X4 hx hZ e4 Ar5 (j := (3 : Int32)) (inb_of qs5 ⟨by decide, by decide⟩) (g := (mkF m 163 #[vi p1, vi p2, vi p3, vi p4, vi p5, vi p6, vi kk1, vr wf, vi w, vi le, vi ln, .unset, .unset, .unset] [(.int ((p6 &&& (127 : Int32)).toUInt32.toUInt16.toUInt32.toInt32)), (.int 3), (.ref b1), (.ref b1)])) rfl rfl (hb hby at_163)
  have Sw5 : Safe Z EL0 _ _ b1 := (Safe.arv hZ.alike R4 (by decide))
  have N5 := Fr.snoc X5 N4 ge_b1
  have O5 := O4.wr W5 ge_b1
  have CH5 := CHv.wr W5 Sw5 CH4
  have R5 : Arv Z h5 b1 k1 .char (4 : Int32) [(.int (nar .char ((p3 &&& (127 : Int32)).toUInt32.toUInt16.toUInt32.toInt32))), (.int (nar .char ((p4 &&& (127 : Int32)).toUInt32.toUInt16.toUInt32.toInt32))), (.int (nar .char ((p5 &&& (127 : Int32)).toUInt32.toUInt16.toUInt32.toInt32))), (.int (nar .char ((p6 &&& (127 : Int32)).toUInt32.toUInt16.toUInt32.toInt32)))] (.int 0) := Arv.set Ar5 qa5 qs5 qn5 qh5 qg5 (fits_nar_char _) W5 3 rfl (Nat.le_of_ble_eq_true rfl)
  refine own_st st5 ?_
  show gs T5 m 164 #[vi p1, vi p2, vi p3, vi p4, vi p5, vi p6, vi kk1, vr wf, vi w, vi le, vi ln, .unset, .unset, .unset] [(.ref b1)]
  refine own_st (fun _ kS => XS.astore X5.here hx rfl (hb hby at_164) rfl rfl (l' := #[vi p1, vi p2, vi p3, vi p4, vi p5, vi p6, vi kk1, vr wf, vi w, vi le, vi ln, vr b1, .unset, .unset]) rfl kS) ?_
  show gs T5 m 166 #[vi p1, vi p2, vi p3, vi p4, vi p5, vi p6, vi kk1, vr wf, vi w, vi le, vi ln, vr b1, .unset, .unset] []
  rcases hN with hk6 | hk6 | hk6 | hk6 | hk6
  · rw [hk6]
    show gs T5 m 166 #[vi p1, vi p2, vi p3, vi p4, vi p5, vi p6, vi kk1, vr wf, vi w, vi le, vi 0, vr b1, .unset, .unset] []
    exact sg_L0 hx hby hml hown hlk hret hZ hw (Nat.le_trans (Nat.le_trans (Nat.le_trans (Nat.le_trans (Nat.le_trans Z0 E1.1) (Keep.of_wr W2).1) (Keep.of_wr W3).1) (Keep.of_wr W4).1) (Keep.of_wr W5).1) hS (Nat.le_trans (Nat.le_trans (Nat.le_trans (Nat.le_trans (Nat.le_trans hk0 E1.1) (Keep.of_wr W2).1) (Keep.of_wr W3).1) (Keep.of_wr W4).1) (Keep.of_wr W5).1) X5 e5 N5 O5 p1 p2 p3 p4 p5 p6 kk1 wf w le b1 k1 (nar .char ((p3 &&& (127 : Int32)).toUInt32.toUInt16.toUInt32.toInt32)) (nar .char ((p4 &&& (127 : Int32)).toUInt32.toUInt16.toUInt32.toInt32)) (nar .char ((p5 &&& (127 : Int32)).toUInt32.toUInt16.toUInt32.toInt32)) (nar .char ((p6 &&& (127 : Int32)).toUInt32.toUInt16.toUInt32.toInt32)) zCS fm R5 ge_b1 Ef Fw Fl S_CS P_CS S_SF P_SF (own_c127 p3) (own_c127 p4) (own_c127 p5) (own_c127 p6) hW CH5
  · rw [hk6]
    show gs T5 m 166 #[vi p1, vi p2, vi p3, vi p4, vi p5, vi p6, vi kk1, vr wf, vi w, vi le, vi 1, vr b1, .unset, .unset] []
    exact sg_L1 hx hby hml hown hlk hret hZ hw (Nat.le_trans (Nat.le_trans (Nat.le_trans (Nat.le_trans (Nat.le_trans Z0 E1.1) (Keep.of_wr W2).1) (Keep.of_wr W3).1) (Keep.of_wr W4).1) (Keep.of_wr W5).1) hS (Nat.le_trans (Nat.le_trans (Nat.le_trans (Nat.le_trans (Nat.le_trans hk0 E1.1) (Keep.of_wr W2).1) (Keep.of_wr W3).1) (Keep.of_wr W4).1) (Keep.of_wr W5).1) X5 e5 N5 O5 p1 p2 p3 p4 p5 p6 kk1 wf w le b1 k1 (nar .char ((p3 &&& (127 : Int32)).toUInt32.toUInt16.toUInt32.toInt32)) (nar .char ((p4 &&& (127 : Int32)).toUInt32.toUInt16.toUInt32.toInt32)) (nar .char ((p5 &&& (127 : Int32)).toUInt32.toUInt16.toUInt32.toInt32)) (nar .char ((p6 &&& (127 : Int32)).toUInt32.toUInt16.toUInt32.toInt32)) zCS fm R5 ge_b1 Ef Fw Fl S_CS P_CS S_SF P_SF (own_c127 p3) (own_c127 p4) (own_c127 p5) (own_c127 p6) (own_nn _) hW
  · rw [hk6]
    show gs T5 m 166 #[vi p1, vi p2, vi p3, vi p4, vi p5, vi p6, vi kk1, vr wf, vi w, vi le, vi 2, vr b1, .unset, .unset] []
    exact sg_L2 hx hby hml hown hlk hret hZ hw (Nat.le_trans (Nat.le_trans (Nat.le_trans (Nat.le_trans (Nat.le_trans Z0 E1.1) (Keep.of_wr W2).1) (Keep.of_wr W3).1) (Keep.of_wr W4).1) (Keep.of_wr W5).1) hS (Nat.le_trans (Nat.le_trans (Nat.le_trans (Nat.le_trans (Nat.le_trans hk0 E1.1) (Keep.of_wr W2).1) (Keep.of_wr W3).1) (Keep.of_wr W4).1) (Keep.of_wr W5).1) X5 e5 N5 O5 p1 p2 p3 p4 p5 p6 kk1 wf w le b1 k1 (nar .char ((p3 &&& (127 : Int32)).toUInt32.toUInt16.toUInt32.toInt32)) (nar .char ((p4 &&& (127 : Int32)).toUInt32.toUInt16.toUInt32.toInt32)) (nar .char ((p5 &&& (127 : Int32)).toUInt32.toUInt16.toUInt32.toInt32)) (nar .char ((p6 &&& (127 : Int32)).toUInt32.toUInt16.toUInt32.toInt32)) zCS fm R5 ge_b1 Ef Fw Fl S_CS P_CS S_SF P_SF (own_c127 p3) (own_c127 p4) (own_c127 p5) (own_c127 p6) (own_nn _) (own_nn _) hW
  · rw [hk6]
    show gs T5 m 166 #[vi p1, vi p2, vi p3, vi p4, vi p5, vi p6, vi kk1, vr wf, vi w, vi le, vi 3, vr b1, .unset, .unset] []
    exact sg_L3 hx hby hml hown hlk hret hZ hw (Nat.le_trans (Nat.le_trans (Nat.le_trans (Nat.le_trans (Nat.le_trans Z0 E1.1) (Keep.of_wr W2).1) (Keep.of_wr W3).1) (Keep.of_wr W4).1) (Keep.of_wr W5).1) hS (Nat.le_trans (Nat.le_trans (Nat.le_trans (Nat.le_trans (Nat.le_trans hk0 E1.1) (Keep.of_wr W2).1) (Keep.of_wr W3).1) (Keep.of_wr W4).1) (Keep.of_wr W5).1) X5 e5 N5 O5 p1 p2 p3 p4 p5 p6 kk1 wf w le b1 k1 (nar .char ((p3 &&& (127 : Int32)).toUInt32.toUInt16.toUInt32.toInt32)) (nar .char ((p4 &&& (127 : Int32)).toUInt32.toUInt16.toUInt32.toInt32)) (nar .char ((p5 &&& (127 : Int32)).toUInt32.toUInt16.toUInt32.toInt32)) (nar .char ((p6 &&& (127 : Int32)).toUInt32.toUInt16.toUInt32.toInt32)) zCS fm R5 ge_b1 Ef Fw Fl S_CS P_CS S_SF P_SF (own_c127 p3) (own_c127 p4) (own_c127 p5) (own_c127 p6) (own_nn _) (own_nn _) (own_nn _) hW
  · rw [hk6]
    show gs T5 m 166 #[vi p1, vi p2, vi p3, vi p4, vi p5, vi p6, vi kk1, vr wf, vi w, vi le, vi 4, vr b1, .unset, .unset] []
    exact sg_L4 hx hby hml hown hlk hret hZ hw (Nat.le_trans (Nat.le_trans (Nat.le_trans (Nat.le_trans (Nat.le_trans Z0 E1.1) (Keep.of_wr W2).1) (Keep.of_wr W3).1) (Keep.of_wr W4).1) (Keep.of_wr W5).1) hS (Nat.le_trans (Nat.le_trans (Nat.le_trans (Nat.le_trans (Nat.le_trans hk0 E1.1) (Keep.of_wr W2).1) (Keep.of_wr W3).1) (Keep.of_wr W4).1) (Keep.of_wr W5).1) X5 e5 N5 O5 p1 p2 p3 p4 p5 p6 kk1 wf w le b1 k1 (nar .char ((p3 &&& (127 : Int32)).toUInt32.toUInt16.toUInt32.toInt32)) (nar .char ((p4 &&& (127 : Int32)).toUInt32.toUInt16.toUInt32.toInt32)) (nar .char ((p5 &&& (127 : Int32)).toUInt32.toUInt16.toUInt32.toInt32)) (nar .char ((p6 &&& (127 : Int32)).toUInt32.toUInt16.toUInt32.toInt32)) zCS fm R5 ge_b1 Ef Fw Fl S_CS P_CS S_SF P_SF (own_c127 p3) (own_c127 p4) (own_c127 p5) (own_c127 p6) (own_nn _) (own_nn _) (own_nn _) (own_nn _) hW
theorem ef_law (m : MethodId) (x0 : Int32) (x1 : Int32) (x2 : Int32) (x3 : Int32) (x4 : Int32) (x5 : Int32) : entryFrame m #[(.int x0), (.int x1), (.int x2), (.int x3), (.int x4), (.int x5)] maxLocals = mkF m 0 #[.val (.int x0), .val (.int x1), .val (.int x2), .val (.int x3), .val (.int x4), .val (.int x5), .unset, .unset, .unset, .unset, .unset, .unset, .unset, .unset] [] := by first | (simp [entryFrame, mkF, argsToLocals, Value.category, maxLocals]; done) | rfl
theorem rm_law (l : Launch) (Z : State) (a0 : Array Value) (hw : HW a0 Z) (ws : List Jvm.Cond) (p1 : Int32) (p2 : Int32) (p3 : Int32) (p4 : Int32) (p5 : Int32) (p6 : Int32) (w_UTF_8 : Addr) (w_UTF_32BE : Addr) (w_UTF_32LE : Addr) (w_UTF_16BE : Addr) (w_UTF_16LE : Addr) (w_UNMARKED : Addr) (zCS : Int32) (fm : Value) (h0 : Heap) (n0 : Nat) (Z0 : n0 ≤ h0.size) (O0 : Old Z n0 h0) (S_UTF_8 : sk2 Z Z.heap (.ref w_UTF_8)) (S_UTF_32BE : sk3 Z Z.heap (.ref w_UTF_32BE)) (S_UTF_32LE : sk4 Z Z.heap (.ref w_UTF_32LE)) (S_UTF_16BE : sk5 Z Z.heap (.ref w_UTF_16BE)) (S_UTF_16LE : sk6 Z Z.heap (.ref w_UTF_16LE)) (S_UNMARKED : sk7 Z Z.heap (.ref w_UNMARKED)) (E_UTF_8 : ek13 Z Z.heap w_UTF_8) (E_UTF_32BE : ek13 Z Z.heap w_UTF_32BE) (E_UTF_32LE : ek13 Z Z.heap w_UTF_32LE) (E_UTF_16BE : ek13 Z Z.heap w_UTF_16BE) (E_UTF_16LE : ek13 Z Z.heap w_UTF_16LE) (E_UNMARKED : ek13 Z Z.heap w_UNMARKED) (F_UTF_8_width : fk10 Z Z.heap w_UTF_8 (.int 1)) (F_UTF_8_littleEndian : fk11 Z Z.heap w_UTF_8 (.int 0)) (F_UTF_32BE_width : fk10 Z Z.heap w_UTF_32BE (.int 4)) (F_UTF_32BE_littleEndian : fk11 Z Z.heap w_UTF_32BE (.int 0)) (F_UTF_32LE_width : fk10 Z Z.heap w_UTF_32LE (.int 4)) (F_UTF_32LE_littleEndian : fk11 Z Z.heap w_UTF_32LE (.int 1)) (F_UTF_16BE_width : fk10 Z Z.heap w_UTF_16BE (.int 2)) (F_UTF_16BE_littleEndian : fk11 Z Z.heap w_UTF_16BE (.int 0)) (F_UTF_16LE_width : fk10 Z Z.heap w_UTF_16LE (.int 2)) (F_UTF_16LE_littleEndian : fk11 Z Z.heap w_UTF_16LE (.int 1)) (F_UNMARKED_width : fk10 Z Z.heap w_UNMARKED (.int 1)) (F_UNMARKED_littleEndian : fk11 Z Z.heap w_UNMARKED (.int 0)) (S_CS : sk0 Z Z.heap (.int zCS)) (P_CS : ¬ zCS = 0) (S_SF : sk1 Z Z.heap fm) (P_SF : fm.isRef = true) :
    MetFree l x (head1 (Jvm.Cond.code x code maxLocals ret :: ws) room_1) (fun a U => a = #[(.int p1), (.int p2), (.int p3), (.int p4), (.int p5), (.int p6)] ∧ Z.Warmed39 U.vm ∧ U.heap = h0 ∧ CHv Z EL0 U.vm h0) (fun _ _ _ _ _ => True) (fun _ U o U' => ∃ v L, o = .returned v ∧ Q_law n0 v U'.heap L ∧ ReturnedEndW U o U' L room_1.cells room_1.slots) := by
  refine MetFree.of_bodySF (plainFor_of_name pn_0) hisR ?_
  intro p e s m args below meth c s₁ Bd hml0 hP hK
  obtain ⟨rfl, hZ, hh, hCH⟩ := hP
  have hx := Bd.exec
  have hby := Bd.bytes
  have hml : c.maxLocals = 14 := hml0
  have hown : s.vm.findClass "com/example/provenir/provenir/TextEncodingEncodePinLaw" = some m.cls := findClass_of_methodNamed Bd.named
  have hnm := (name_of_methodNamed Bd.named Bd.method).1
  have hlk := Bd.notSynchronized
  have hret := Bd.returns
  have X0 : Stand p l e room_1 (s.setVm s.vm) m #[(.int p1), (.int p2), (.int p3), (.int p4), (.int p5), (.int p6)] below meth c s₁ [] 0 0 := Stand.of_body Bd
  have hS : s.Since s.vm 0 := (State.WarmedH.refl s).since 0
  have e0 : s₁.heap = h0 := by rw [← hh, Bd.state]; rfl
  have N0 := Fr.nil n0
  have hEL : EW Z a0 EL0 := own_ELw hw
  refine own_inW room_1.cells room_1.slots (Q_law n0) (ef_law m p1 p2 p3 p4 p5 p6) ?_
  show gs s₁ m 0 #[vi p1, vi p2, vi p3, vi p4, vi p5, vi p6, .unset, .unset, .unset, .unset, .unset, .unset, .unset, .unset] []
  refine oiloadN X0 hx hby at_0 rfl ?_
  show gs s₁ m 1 #[vi p1, vi p2, vi p3, vi p4, vi p5, vi p6, .unset, .unset, .unset, .unset, .unset, .unset, .unset, .unset] [(.int p1)]
  refine own_st (fun _ kS => X0.ldcInt hx hown (mvT hZ (own_w hw 0 rfl)) (g := (mkF m 1 #[vi p1, vi p2, vi p3, vi p4, vi p5, vi p6, .unset, .unset, .unset, .unset, .unset, .unset, .unset, .unset] [(.int p1)])) rfl (hb hby at_1) _ kS) ?_
  show gs s₁ m 3 #[vi p1, vi p2, vi p3, vi p4, vi p5, vi p6, .unset, .unset, .unset, .unset, .unset, .unset, .unset, .unset] [(.int 2147483647), (.int p1)]
  refine own_st (fun _ kS => XS.iand X0.here hx rfl (hb hby at_3) rfl kS) ?_
  refine own_st (fun _ kS => XS.bipush X0.here hx rfl (hb hby at_4) kS) ?_
  show gs s₁ m 6 #[vi p1, vi p2, vi p3, vi p4, vi p5, vi p6, .unset, .unset, .unset, .unset, .unset, .unset, .unset, .unset] [(.int 6), (.int (p1 &&& (2147483647 : Int32)))]
  refine own_st (fun _ kS => iremM (g := (mkF m 6 #[vi p1, vi p2, vi p3, vi p4, vi p5, vi p6, .unset, .unset, .unset, .unset, .unset, .unset, .unset, .unset] [(.int 6), (.int (p1 &&& (2147483647 : Int32)))])) X0 hx rfl (hb hby at_6) rfl (by decide) kS) ?_
  show gs s₁ m 7 #[vi p1, vi p2, vi p3, vi p4, vi p5, vi p6, .unset, .unset, .unset, .unset, .unset, .unset, .unset, .unset] [(.int ((p1 &&& (2147483647 : Int32)) % (6 : Int32)))]
  rcases own_mod6 p1 with hk1 | hk1 | hk1 | hk1 | hk1 | hk1
  · rw [hk1]
    show gs s₁ m 7 #[vi p1, vi p2, vi p3, vi p4, vi p5, vi p6, .unset, .unset, .unset, .unset, .unset, .unset, .unset, .unset] [(.int 0)]
    refine own_st (fun _ kS => XS.istore X0.here hx rfl (hb hby at_7) rfl (l' := #[vi p1, vi p2, vi p3, vi p4, vi p5, vi p6, vi 0, .unset, .unset, .unset, .unset, .unset, .unset, .unset]) rfl kS) ?_
    refine oiload X0 hx hby at_9 rfl ?_
    refine own_st (fun _ kS => XS.ifNo X0.here hx rfl (hb hby at_11) rfl ((if0 _ _).trans (teq (by decide : (0 : Int32) = (0 : Int32))).2) kS) ?_
    show gs s₁ m 14 #[vi p1, vi p2, vi p3, vi p4, vi p5, vi p6, vi 0, .unset, .unset, .unset, .unset, .unset, .unset, .unset] []
    obtain ⟨T2, X2, e2, st2⟩ := getS2 X0 hx hZ hown (host := "") (Or.inl (own_w hw 1 rfl)) Via.refl e0 (Sta.ext O0.2 S_UTF_8) (g := (mkF m 14 #[vi p1, vi p2, vi p3, vi p4, vi p5, vi p6, vi 0, .unset, .unset, .unset, .unset, .unset, .unset, .unset] [])) rfl (hb hby at_14)
    refine own_st st2 ?_
    show gs T2 m 17 #[vi p1, vi p2, vi p3, vi p4, vi p5, vi p6, vi 0, .unset, .unset, .unset, .unset, .unset, .unset, .unset] [(.ref w_UTF_8)]
    refine own_st (fun _ kS => XS.astore X2.here hx rfl (hb hby at_17) rfl rfl (l' := #[vi p1, vi p2, vi p3, vi p4, vi p5, vi p6, vi 0, vr w_UTF_8, .unset, .unset, .unset, .unset, .unset, .unset]) rfl kS) ?_
    refine oiconst X2 hx hby at_19 ?_
    refine own_st (fun _ kS => XS.istore X2.here hx rfl (hb hby at_20) rfl (l' := #[vi p1, vi p2, vi p3, vi p4, vi p5, vi p6, vi 0, vr w_UTF_8, vi 1, .unset, .unset, .unset, .unset, .unset]) rfl kS) ?_
    refine oiconst X2 hx hby at_22 ?_
    refine own_st (fun _ kS => XS.istore X2.here hx rfl (hb hby at_23) rfl (l' := #[vi p1, vi p2, vi p3, vi p4, vi p5, vi p6, vi 0, vr w_UTF_8, vi 1, vi 0, .unset, .unset, .unset, .unset]) rfl kS) ?_
    refine own_st (fun _ kS => XS.goto X2.here hx rfl (pc0 := 25) (pc' := 119) rfl (hb hby at_25) (by decide) (by decide) kS) ?_
    show gs T2 m 119 #[vi p1, vi p2, vi p3, vi p4, vi p5, vi p6, vi 0, vr w_UTF_8, vi 1, vi 0, .unset, .unset, .unset, .unset] []
    exact sg_A hx hby hml hown hlk hret hZ hw Z0 hS (Nat.zero_le _) X2 e2 N0 O0 p1 p2 p3 p4 p5 p6 (0 : Int32) w_UTF_8 (1 : Int32) (0 : Int32) zCS fm E_UTF_8 F_UTF_8_width F_UTF_8_littleEndian S_CS P_CS S_SF P_SF (Or.inl ⟨rfl, rfl⟩) hCH
  · rw [hk1]
    show gs s₁ m 7 #[vi p1, vi p2, vi p3, vi p4, vi p5, vi p6, .unset, .unset, .unset, .unset, .unset, .unset, .unset, .unset] [(.int 1)]
    refine own_st (fun _ kS => XS.istore X0.here hx rfl (hb hby at_7) rfl (l' := #[vi p1, vi p2, vi p3, vi p4, vi p5, vi p6, vi 1, .unset, .unset, .unset, .unset, .unset, .unset, .unset]) rfl kS) ?_
    refine oiload X0 hx hby at_9 rfl ?_
    refine own_st (fun _ kS => XS.ifYes X0.here hx rfl (pc0 := 11) (pc' := 28) rfl (hb hby at_11) rfl ((if0 _ _).trans (feq (by decide : ¬ ((1 : Int32) = (0 : Int32)))).2) (by decide) (by decide) kS) ?_
    show gs s₁ m 28 #[vi p1, vi p2, vi p3, vi p4, vi p5, vi p6, vi 1, .unset, .unset, .unset, .unset, .unset, .unset, .unset] []
    refine oiload X0 hx hby at_28 rfl ?_
    refine oiconst X0 hx hby at_30 ?_
    refine own_st (fun _ kS => XS.icmpNo X0.here hx rfl (hb hby at_31) rfl (teq (by decide : (1 : Int32) = (1 : Int32))).2 kS) ?_
    show gs s₁ m 34 #[vi p1, vi p2, vi p3, vi p4, vi p5, vi p6, vi 1, .unset, .unset, .unset, .unset, .unset, .unset, .unset] []
    obtain ⟨T3, X3, e3, st3⟩ := getS2 X0 hx hZ hown (host := "") (Or.inl (own_w hw 86 rfl)) Via.refl e0 (Sta.ext O0.2 S_UTF_32BE) (g := (mkF m 34 #[vi p1, vi p2, vi p3, vi p4, vi p5, vi p6, vi 1, .unset, .unset, .unset, .unset, .unset, .unset, .unset] [])) rfl (hb hby at_34)
    refine own_st st3 ?_
    show gs T3 m 37 #[vi p1, vi p2, vi p3, vi p4, vi p5, vi p6, vi 1, .unset, .unset, .unset, .unset, .unset, .unset, .unset] [(.ref w_UTF_32BE)]
    refine own_st (fun _ kS => XS.astore X3.here hx rfl (hb hby at_37) rfl rfl (l' := #[vi p1, vi p2, vi p3, vi p4, vi p5, vi p6, vi 1, vr w_UTF_32BE, .unset, .unset, .unset, .unset, .unset, .unset]) rfl kS) ?_
    refine oiconst X3 hx hby at_39 ?_
    refine own_st (fun _ kS => XS.istore X3.here hx rfl (hb hby at_40) rfl (l' := #[vi p1, vi p2, vi p3, vi p4, vi p5, vi p6, vi 1, vr w_UTF_32BE, vi 4, .unset, .unset, .unset, .unset, .unset]) rfl kS) ?_
    refine oiconst X3 hx hby at_42 ?_
    refine own_st (fun _ kS => XS.istore X3.here hx rfl (hb hby at_43) rfl (l' := #[vi p1, vi p2, vi p3, vi p4, vi p5, vi p6, vi 1, vr w_UTF_32BE, vi 4, vi 0, .unset, .unset, .unset, .unset]) rfl kS) ?_
    refine own_st (fun _ kS => XS.goto X3.here hx rfl (pc0 := 45) (pc' := 119) rfl (hb hby at_45) (by decide) (by decide) kS) ?_
    show gs T3 m 119 #[vi p1, vi p2, vi p3, vi p4, vi p5, vi p6, vi 1, vr w_UTF_32BE, vi 4, vi 0, .unset, .unset, .unset, .unset] []
    exact sg_A hx hby hml hown hlk hret hZ hw Z0 hS (Nat.zero_le _) X3 e3 N0 O0 p1 p2 p3 p4 p5 p6 (1 : Int32) w_UTF_32BE (4 : Int32) (0 : Int32) zCS fm E_UTF_32BE F_UTF_32BE_width F_UTF_32BE_littleEndian S_CS P_CS S_SF P_SF (Or.inr (Or.inl ⟨rfl, rfl⟩)) hCH
  · rw [hk1]
    show gs s₁ m 7 #[vi p1, vi p2, vi p3, vi p4, vi p5, vi p6, .unset, .unset, .unset, .unset, .unset, .unset, .unset, .unset] [(.int 2)]
    refine own_st (fun _ kS => XS.istore X0.here hx rfl (hb hby at_7) rfl (l' := #[vi p1, vi p2, vi p3, vi p4, vi p5, vi p6, vi 2, .unset, .unset, .unset, .unset, .unset, .unset, .unset]) rfl kS) ?_
    refine oiload X0 hx hby at_9 rfl ?_
    refine own_st (fun _ kS => XS.ifYes X0.here hx rfl (pc0 := 11) (pc' := 28) rfl (hb hby at_11) rfl ((if0 _ _).trans (feq (by decide : ¬ ((2 : Int32) = (0 : Int32)))).2) (by decide) (by decide) kS) ?_
    show gs s₁ m 28 #[vi p1, vi p2, vi p3, vi p4, vi p5, vi p6, vi 2, .unset, .unset, .unset, .unset, .unset, .unset, .unset] []
    refine oiload X0 hx hby at_28 rfl ?_
    refine oiconst X0 hx hby at_30 ?_
    refine own_st (fun _ kS => XS.icmpYes X0.here hx rfl (pc0 := 31) (pc' := 48) rfl (hb hby at_31) rfl (feq (by decide : ¬ ((2 : Int32) = (1 : Int32)))).2 (by decide) (by decide) kS) ?_
    show gs s₁ m 48 #[vi p1, vi p2, vi p3, vi p4, vi p5, vi p6, vi 2, .unset, .unset, .unset, .unset, .unset, .unset, .unset] []
    refine oiload X0 hx hby at_48 rfl ?_
    refine oiconst X0 hx hby at_50 ?_
    refine own_st (fun _ kS => XS.icmpNo X0.here hx rfl (hb hby at_51) rfl (teq (by decide : (2 : Int32) = (2 : Int32))).2 kS) ?_
    show gs s₁ m 54 #[vi p1, vi p2, vi p3, vi p4, vi p5, vi p6, vi 2, .unset, .unset, .unset, .unset, .unset, .unset, .unset] []
    obtain ⟨T4, X4, e4, st4⟩ := getS2 X0 hx hZ hown (host := "") (Or.inl (own_w hw 88 rfl)) Via.refl e0 (Sta.ext O0.2 S_UTF_32LE) (g := (mkF m 54 #[vi p1, vi p2, vi p3, vi p4, vi p5, vi p6, vi 2, .unset, .unset, .unset, .unset, .unset, .unset, .unset] [])) rfl (hb hby at_54)
    refine own_st st4 ?_
    show gs T4 m 57 #[vi p1, vi p2, vi p3, vi p4, vi p5, vi p6, vi 2, .unset, .unset, .unset, .unset, .unset, .unset, .unset] [(.ref w_UTF_32LE)]
    refine own_st (fun _ kS => XS.astore X4.here hx rfl (hb hby at_57) rfl rfl (l' := #[vi p1, vi p2, vi p3, vi p4, vi p5, vi p6, vi 2, vr w_UTF_32LE, .unset, .unset, .unset, .unset, .unset, .unset]) rfl kS) ?_
    refine oiconst X4 hx hby at_59 ?_
    refine own_st (fun _ kS => XS.istore X4.here hx rfl (hb hby at_60) rfl (l' := #[vi p1, vi p2, vi p3, vi p4, vi p5, vi p6, vi 2, vr w_UTF_32LE, vi 4, .unset, .unset, .unset, .unset, .unset]) rfl kS) ?_
    refine oiconst X4 hx hby at_62 ?_
    refine own_st (fun _ kS => XS.istore X4.here hx rfl (hb hby at_63) rfl (l' := #[vi p1, vi p2, vi p3, vi p4, vi p5, vi p6, vi 2, vr w_UTF_32LE, vi 4, vi 1, .unset, .unset, .unset, .unset]) rfl kS) ?_
    refine own_st (fun _ kS => XS.goto X4.here hx rfl (pc0 := 65) (pc' := 119) rfl (hb hby at_65) (by decide) (by decide) kS) ?_
    show gs T4 m 119 #[vi p1, vi p2, vi p3, vi p4, vi p5, vi p6, vi 2, vr w_UTF_32LE, vi 4, vi 1, .unset, .unset, .unset, .unset] []
    exact sg_A hx hby hml hown hlk hret hZ hw Z0 hS (Nat.zero_le _) X4 e4 N0 O0 p1 p2 p3 p4 p5 p6 (2 : Int32) w_UTF_32LE (4 : Int32) (1 : Int32) zCS fm E_UTF_32LE F_UTF_32LE_width F_UTF_32LE_littleEndian S_CS P_CS S_SF P_SF (Or.inr (Or.inr (Or.inl ⟨rfl, rfl⟩))) hCH
  · rw [hk1]
    show gs s₁ m 7 #[vi p1, vi p2, vi p3, vi p4, vi p5, vi p6, .unset, .unset, .unset, .unset, .unset, .unset, .unset, .unset] [(.int 3)]
    refine own_st (fun _ kS => XS.istore X0.here hx rfl (hb hby at_7) rfl (l' := #[vi p1, vi p2, vi p3, vi p4, vi p5, vi p6, vi 3, .unset, .unset, .unset, .unset, .unset, .unset, .unset]) rfl kS) ?_
    refine oiload X0 hx hby at_9 rfl ?_
    refine own_st (fun _ kS => XS.ifYes X0.here hx rfl (pc0 := 11) (pc' := 28) rfl (hb hby at_11) rfl ((if0 _ _).trans (feq (by decide : ¬ ((3 : Int32) = (0 : Int32)))).2) (by decide) (by decide) kS) ?_
    show gs s₁ m 28 #[vi p1, vi p2, vi p3, vi p4, vi p5, vi p6, vi 3, .unset, .unset, .unset, .unset, .unset, .unset, .unset] []
    refine oiload X0 hx hby at_28 rfl ?_
    refine oiconst X0 hx hby at_30 ?_
    refine own_st (fun _ kS => XS.icmpYes X0.here hx rfl (pc0 := 31) (pc' := 48) rfl (hb hby at_31) rfl (feq (by decide : ¬ ((3 : Int32) = (1 : Int32)))).2 (by decide) (by decide) kS) ?_
    show gs s₁ m 48 #[vi p1, vi p2, vi p3, vi p4, vi p5, vi p6, vi 3, .unset, .unset, .unset, .unset, .unset, .unset, .unset] []
    refine oiload X0 hx hby at_48 rfl ?_
    refine oiconst X0 hx hby at_50 ?_
    refine own_st (fun _ kS => XS.icmpYes X0.here hx rfl (pc0 := 51) (pc' := 68) rfl (hb hby at_51) rfl (feq (by decide : ¬ ((3 : Int32) = (2 : Int32)))).2 (by decide) (by decide) kS) ?_
    show gs s₁ m 68 #[vi p1, vi p2, vi p3, vi p4, vi p5, vi p6, vi 3, .unset, .unset, .unset, .unset, .unset, .unset, .unset] []
    refine oiload X0 hx hby at_68 rfl ?_
    refine oiconst X0 hx hby at_70 ?_
    refine own_st (fun _ kS => XS.icmpNo X0.here hx rfl (hb hby at_71) rfl (teq (by decide : (3 : Int32) = (3 : Int32))).2 kS) ?_
    show gs s₁ m 74 #[vi p1, vi p2, vi p3, vi p4, vi p5, vi p6, vi 3, .unset, .unset, .unset, .unset, .unset, .unset, .unset] []
    obtain ⟨T5, X5, e5, st5⟩ := getS2 X0 hx hZ hown (host := "") (Or.inl (own_w hw 84 rfl)) Via.refl e0 (Sta.ext O0.2 S_UTF_16BE) (g := (mkF m 74 #[vi p1, vi p2, vi p3, vi p4, vi p5, vi p6, vi 3, .unset, .unset, .unset, .unset, .unset, .unset, .unset] [])) rfl (hb hby at_74)
    refine own_st st5 ?_
    show gs T5 m 77 #[vi p1, vi p2, vi p3, vi p4, vi p5, vi p6, vi 3, .unset, .unset, .unset, .unset, .unset, .unset, .unset] [(.ref w_UTF_16BE)]
    refine own_st (fun _ kS => XS.astore X5.here hx rfl (hb hby at_77) rfl rfl (l' := #[vi p1, vi p2, vi p3, vi p4, vi p5, vi p6, vi 3, vr w_UTF_16BE, .unset, .unset, .unset, .unset, .unset, .unset]) rfl kS) ?_
    refine oiconst X5 hx hby at_79 ?_
    refine own_st (fun _ kS => XS.istore X5.here hx rfl (hb hby at_80) rfl (l' := #[vi p1, vi p2, vi p3, vi p4, vi p5, vi p6, vi 3, vr w_UTF_16BE, vi 2, .unset, .unset, .unset, .unset, .unset]) rfl kS) ?_
    refine oiconst X5 hx hby at_82 ?_
    refine own_st (fun _ kS => XS.istore X5.here hx rfl (hb hby at_83) rfl (l' := #[vi p1, vi p2, vi p3, vi p4, vi p5, vi p6, vi 3, vr w_UTF_16BE, vi 2, vi 0, .unset, .unset, .unset, .unset]) rfl kS) ?_
    refine own_st (fun _ kS => XS.goto X5.here hx rfl (pc0 := 85) (pc' := 119) rfl (hb hby at_85) (by decide) (by decide) kS) ?_
    show gs T5 m 119 #[vi p1, vi p2, vi p3, vi p4, vi p5, vi p6, vi 3, vr w_UTF_16BE, vi 2, vi 0, .unset, .unset, .unset, .unset] []
    exact sg_A hx hby hml hown hlk hret hZ hw Z0 hS (Nat.zero_le _) X5 e5 N0 O0 p1 p2 p3 p4 p5 p6 (3 : Int32) w_UTF_16BE (2 : Int32) (0 : Int32) zCS fm E_UTF_16BE F_UTF_16BE_width F_UTF_16BE_littleEndian S_CS P_CS S_SF P_SF (Or.inr (Or.inr (Or.inr (Or.inl ⟨rfl, rfl⟩)))) hCH
  · rw [hk1]
    show gs s₁ m 7 #[vi p1, vi p2, vi p3, vi p4, vi p5, vi p6, .unset, .unset, .unset, .unset, .unset, .unset, .unset, .unset] [(.int 4)]
    refine own_st (fun _ kS => XS.istore X0.here hx rfl (hb hby at_7) rfl (l' := #[vi p1, vi p2, vi p3, vi p4, vi p5, vi p6, vi 4, .unset, .unset, .unset, .unset, .unset, .unset, .unset]) rfl kS) ?_
    refine oiload X0 hx hby at_9 rfl ?_
    refine own_st (fun _ kS => XS.ifYes X0.here hx rfl (pc0 := 11) (pc' := 28) rfl (hb hby at_11) rfl ((if0 _ _).trans (feq (by decide : ¬ ((4 : Int32) = (0 : Int32)))).2) (by decide) (by decide) kS) ?_
    show gs s₁ m 28 #[vi p1, vi p2, vi p3, vi p4, vi p5, vi p6, vi 4, .unset, .unset, .unset, .unset, .unset, .unset, .unset] []
    refine oiload X0 hx hby at_28 rfl ?_
    refine oiconst X0 hx hby at_30 ?_
    refine own_st (fun _ kS => XS.icmpYes X0.here hx rfl (pc0 := 31) (pc' := 48) rfl (hb hby at_31) rfl (feq (by decide : ¬ ((4 : Int32) = (1 : Int32)))).2 (by decide) (by decide) kS) ?_
    show gs s₁ m 48 #[vi p1, vi p2, vi p3, vi p4, vi p5, vi p6, vi 4, .unset, .unset, .unset, .unset, .unset, .unset, .unset] []
    refine oiload X0 hx hby at_48 rfl ?_
    refine oiconst X0 hx hby at_50 ?_
    refine own_st (fun _ kS => XS.icmpYes X0.here hx rfl (pc0 := 51) (pc' := 68) rfl (hb hby at_51) rfl (feq (by decide : ¬ ((4 : Int32) = (2 : Int32)))).2 (by decide) (by decide) kS) ?_
    show gs s₁ m 68 #[vi p1, vi p2, vi p3, vi p4, vi p5, vi p6, vi 4, .unset, .unset, .unset, .unset, .unset, .unset, .unset] []
    refine oiload X0 hx hby at_68 rfl ?_
    refine oiconst X0 hx hby at_70 ?_
    refine own_st (fun _ kS => XS.icmpYes X0.here hx rfl (pc0 := 71) (pc' := 88) rfl (hb hby at_71) rfl (feq (by decide : ¬ ((4 : Int32) = (3 : Int32)))).2 (by decide) (by decide) kS) ?_
    show gs s₁ m 88 #[vi p1, vi p2, vi p3, vi p4, vi p5, vi p6, vi 4, .unset, .unset, .unset, .unset, .unset, .unset, .unset] []
    refine oiload X0 hx hby at_88 rfl ?_
    refine oiconst X0 hx hby at_90 ?_
    refine own_st (fun _ kS => XS.icmpNo X0.here hx rfl (hb hby at_91) rfl (teq (by decide : (4 : Int32) = (4 : Int32))).2 kS) ?_
    show gs s₁ m 94 #[vi p1, vi p2, vi p3, vi p4, vi p5, vi p6, vi 4, .unset, .unset, .unset, .unset, .unset, .unset, .unset] []
    obtain ⟨T6, X6, e6, st6⟩ := getS2 X0 hx hZ hown (host := "") (Or.inl (own_w hw 79 rfl)) Via.refl e0 (Sta.ext O0.2 S_UTF_16LE) (g := (mkF m 94 #[vi p1, vi p2, vi p3, vi p4, vi p5, vi p6, vi 4, .unset, .unset, .unset, .unset, .unset, .unset, .unset] [])) rfl (hb hby at_94)
    refine own_st st6 ?_
    show gs T6 m 97 #[vi p1, vi p2, vi p3, vi p4, vi p5, vi p6, vi 4, .unset, .unset, .unset, .unset, .unset, .unset, .unset] [(.ref w_UTF_16LE)]
    refine own_st (fun _ kS => XS.astore X6.here hx rfl (hb hby at_97) rfl rfl (l' := #[vi p1, vi p2, vi p3, vi p4, vi p5, vi p6, vi 4, vr w_UTF_16LE, .unset, .unset, .unset, .unset, .unset, .unset]) rfl kS) ?_
    refine oiconst X6 hx hby at_99 ?_
    refine own_st (fun _ kS => XS.istore X6.here hx rfl (hb hby at_100) rfl (l' := #[vi p1, vi p2, vi p3, vi p4, vi p5, vi p6, vi 4, vr w_UTF_16LE, vi 2, .unset, .unset, .unset, .unset, .unset]) rfl kS) ?_
    refine oiconst X6 hx hby at_102 ?_
    refine own_st (fun _ kS => XS.istore X6.here hx rfl (hb hby at_103) rfl (l' := #[vi p1, vi p2, vi p3, vi p4, vi p5, vi p6, vi 4, vr w_UTF_16LE, vi 2, vi 1, .unset, .unset, .unset, .unset]) rfl kS) ?_
    refine own_st (fun _ kS => XS.goto X6.here hx rfl (pc0 := 105) (pc' := 119) rfl (hb hby at_105) (by decide) (by decide) kS) ?_
    show gs T6 m 119 #[vi p1, vi p2, vi p3, vi p4, vi p5, vi p6, vi 4, vr w_UTF_16LE, vi 2, vi 1, .unset, .unset, .unset, .unset] []
    exact sg_A hx hby hml hown hlk hret hZ hw Z0 hS (Nat.zero_le _) X6 e6 N0 O0 p1 p2 p3 p4 p5 p6 (4 : Int32) w_UTF_16LE (2 : Int32) (1 : Int32) zCS fm E_UTF_16LE F_UTF_16LE_width F_UTF_16LE_littleEndian S_CS P_CS S_SF P_SF (Or.inr (Or.inr (Or.inr (Or.inr (⟨rfl, rfl⟩))))) hCH
  · rw [hk1]
    show gs s₁ m 7 #[vi p1, vi p2, vi p3, vi p4, vi p5, vi p6, .unset, .unset, .unset, .unset, .unset, .unset, .unset, .unset] [(.int 5)]
    refine own_st (fun _ kS => XS.istore X0.here hx rfl (hb hby at_7) rfl (l' := #[vi p1, vi p2, vi p3, vi p4, vi p5, vi p6, vi 5, .unset, .unset, .unset, .unset, .unset, .unset, .unset]) rfl kS) ?_
    refine oiload X0 hx hby at_9 rfl ?_
    refine own_st (fun _ kS => XS.ifYes X0.here hx rfl (pc0 := 11) (pc' := 28) rfl (hb hby at_11) rfl ((if0 _ _).trans (feq (by decide : ¬ ((5 : Int32) = (0 : Int32)))).2) (by decide) (by decide) kS) ?_
    show gs s₁ m 28 #[vi p1, vi p2, vi p3, vi p4, vi p5, vi p6, vi 5, .unset, .unset, .unset, .unset, .unset, .unset, .unset] []
    refine oiload X0 hx hby at_28 rfl ?_
    refine oiconst X0 hx hby at_30 ?_
    refine own_st (fun _ kS => XS.icmpYes X0.here hx rfl (pc0 := 31) (pc' := 48) rfl (hb hby at_31) rfl (feq (by decide : ¬ ((5 : Int32) = (1 : Int32)))).2 (by decide) (by decide) kS) ?_
    show gs s₁ m 48 #[vi p1, vi p2, vi p3, vi p4, vi p5, vi p6, vi 5, .unset, .unset, .unset, .unset, .unset, .unset, .unset] []
    refine oiload X0 hx hby at_48 rfl ?_
    refine oiconst X0 hx hby at_50 ?_
    refine own_st (fun _ kS => XS.icmpYes X0.here hx rfl (pc0 := 51) (pc' := 68) rfl (hb hby at_51) rfl (feq (by decide : ¬ ((5 : Int32) = (2 : Int32)))).2 (by decide) (by decide) kS) ?_
    show gs s₁ m 68 #[vi p1, vi p2, vi p3, vi p4, vi p5, vi p6, vi 5, .unset, .unset, .unset, .unset, .unset, .unset, .unset] []
    refine oiload X0 hx hby at_68 rfl ?_
    refine oiconst X0 hx hby at_70 ?_
    refine own_st (fun _ kS => XS.icmpYes X0.here hx rfl (pc0 := 71) (pc' := 88) rfl (hb hby at_71) rfl (feq (by decide : ¬ ((5 : Int32) = (3 : Int32)))).2 (by decide) (by decide) kS) ?_
    show gs s₁ m 88 #[vi p1, vi p2, vi p3, vi p4, vi p5, vi p6, vi 5, .unset, .unset, .unset, .unset, .unset, .unset, .unset] []
    refine oiload X0 hx hby at_88 rfl ?_
    refine oiconst X0 hx hby at_90 ?_
    refine own_st (fun _ kS => XS.icmpYes X0.here hx rfl (pc0 := 91) (pc' := 108) rfl (hb hby at_91) rfl (feq (by decide : ¬ ((5 : Int32) = (4 : Int32)))).2 (by decide) (by decide) kS) ?_
    show gs s₁ m 108 #[vi p1, vi p2, vi p3, vi p4, vi p5, vi p6, vi 5, .unset, .unset, .unset, .unset, .unset, .unset, .unset] []
    obtain ⟨T7, X7, e7, st7⟩ := getS2 X0 hx hZ hown (host := "") (Or.inl (own_w hw 90 rfl)) Via.refl e0 (Sta.ext O0.2 S_UNMARKED) (g := (mkF m 108 #[vi p1, vi p2, vi p3, vi p4, vi p5, vi p6, vi 5, .unset, .unset, .unset, .unset, .unset, .unset, .unset] [])) rfl (hb hby at_108)
    refine own_st st7 ?_
    show gs T7 m 111 #[vi p1, vi p2, vi p3, vi p4, vi p5, vi p6, vi 5, .unset, .unset, .unset, .unset, .unset, .unset, .unset] [(.ref w_UNMARKED)]
    refine own_st (fun _ kS => XS.astore X7.here hx rfl (hb hby at_111) rfl rfl (l' := #[vi p1, vi p2, vi p3, vi p4, vi p5, vi p6, vi 5, vr w_UNMARKED, .unset, .unset, .unset, .unset, .unset, .unset]) rfl kS) ?_
    refine oiconst X7 hx hby at_113 ?_
    refine own_st (fun _ kS => XS.istore X7.here hx rfl (hb hby at_114) rfl (l' := #[vi p1, vi p2, vi p3, vi p4, vi p5, vi p6, vi 5, vr w_UNMARKED, vi 1, .unset, .unset, .unset, .unset, .unset]) rfl kS) ?_
    refine oiconst X7 hx hby at_116 ?_
    refine own_st (fun _ kS => XS.istore X7.here hx rfl (hb hby at_117) rfl (l' := #[vi p1, vi p2, vi p3, vi p4, vi p5, vi p6, vi 5, vr w_UNMARKED, vi 1, vi 0, .unset, .unset, .unset, .unset]) rfl kS) ?_
    show gs T7 m 119 #[vi p1, vi p2, vi p3, vi p4, vi p5, vi p6, vi 5, vr w_UNMARKED, vi 1, vi 0, .unset, .unset, .unset, .unset] []
    exact sg_A hx hby hml hown hlk hret hZ hw Z0 hS (Nat.zero_le _) X7 e7 N0 O0 p1 p2 p3 p4 p5 p6 (5 : Int32) w_UNMARKED (1 : Int32) (0 : Int32) zCS fm E_UNMARKED F_UNMARKED_width F_UNMARKED_littleEndian S_CS P_CS S_SF P_SF (Or.inl ⟨rfl, rfl⟩) hCH
set_option maxRecDepth 65536 in
set_option maxHeartbeats 40000000 in
theorem comes_1 {Post : Tables → Env → Array Value → State → Outcome → State → Prop} (hpost : ∀ tb e args s v u, (limb_1_1.after args s (.returned v) u = true ∧ limb_1_2.after args s (.returned v) u = true ∧ True) → ReturnedEndW s (.returned v) u (Jvm.fieldLocs frame_1_writes args s ++ Jvm.arrayLocs frame_1_arrays args s ++ Jvm.staticLocs frame_1_statics s) 24 1216 → Post tb e args s (.returned v) u) :
    ArmFor flags0 classFile x code maxLocals ret World_1 tables_1 room_1 Calls_1 rest_1 Pre_1 Post := by
  intro l hfl _ _ p e ha hc hk s m args below hf hA hF happ hP
  obtain ⟨hcalls, hrest, hpre⟩ := hP
  obtain ⟨-, -, -, hnamed, -, -, -, hat⟩ := (Spec.applies_iff hf).mp happ
  obtain ⟨hg, hn⟩ := and_e (Cond.before_iff.mp (show (Jvm.Cond.and given_1 narrow_1).before args s = true from hpre))
  obtain ⟨g1a, g1b⟩ := and_e hg
  obtain ⟨g2a, g2b⟩ := and_e g1b
  obtain ⟨g3a, g3b⟩ := and_e g2b
  obtain ⟨g4a, g4b⟩ := and_e g3b
  obtain ⟨g5a, g5b⟩ := and_e g4b
  obtain ⟨g6a, g6b⟩ := and_e g5b
  obtain ⟨w0, w1, w2, w3, w4, w5, rfl⟩ : ∃ w0 w1 w2 w3 w4 w5 : Value, args = #[w0, w1, w2, w3, w4, w5] := by
    have hs : args.size = 6 := by simpa [Cond.value, given_1] using g1a
    obtain ⟨L⟩ := args
    match L, hs with
    | [w0, w1, w2, w3, w4, w5], _ => exact ⟨w0, w1, w2, w3, w4, w5, rfl⟩
  have hw := fun d (hd : d ∈ tables_1) => atoms_spec (ws := Jvm.Cond.code x code maxLocals ret :: tables_1) hat d (List.mem_cons_of_mem _ hd)
  have hfit : Fit s := fun {y c} hc i hi => by
    obtain ⟨ha, rfl⟩ := Array.getElem?_eq_some_iff.mp hc
    have q := List.all_eq_true.mp ((Array.all_eq_true_iff_forall_mem.mp hF) _ (Array.getElem_mem ha)) i (List.mem_range.mpr hi)
    simpa [Array.getElem?_eq_getElem hi] using q
  obtain ⟨hsets, hown0⟩ := atoms_of _ (rest_1_c_eq ▸ (show rest_1_c.before _ s = true from hrest))
  have hr0 := Cond.before_iff.mp hown0
  obtain ⟨i0, ei0⟩ := is_v g2a
  obtain rfl : w0 = (.int i0) := Option.some.inj ei0
  obtain ⟨i1, ei1⟩ := is_v g3a
  obtain rfl : w1 = (.int i1) := Option.some.inj ei1
  obtain ⟨i2, ei2⟩ := is_v g4a
  obtain rfl : w2 = (.int i2) := Option.some.inj ei2
  obtain ⟨i3, ei3⟩ := is_v g5a
  obtain rfl : w3 = (.int i3) := Option.some.inj ei3
  obtain ⟨i4, ei4⟩ := is_v g6a
  obtain rfl : w4 = (.int i4) := Option.some.inj ei4
  obtain ⟨i5, ei5⟩ := is_v g6b
  obtain rfl : w5 = (.int i5) := Option.some.inj ei5
  obtain ⟨g7a, g7b⟩ := and_e hn
  obtain ⟨g8a, g8b⟩ := and_e g7b
  obtain ⟨g9a, g9b⟩ := and_e g8b
  obtain ⟨g10a, g10b⟩ := and_e g9b
  obtain ⟨g11a, g11b⟩ := and_e g10b
  obtain ⟨g12a, g12b⟩ := and_e g11b
  obtain ⟨g13a, g13b⟩ := and_e g12b
  obtain ⟨g14a, g14b⟩ := and_e g13b
  obtain ⟨g15a, g15b⟩ := and_e g14b
  obtain ⟨g16a, g16b⟩ := and_e g15b
  obtain ⟨g17a, g17b⟩ := and_e g16b
  obtain ⟨g18a, g18b⟩ := and_e g17b
  obtain ⟨g19a, g19b⟩ := and_e g18b
  obtain ⟨g20a, g20b⟩ := and_e g19b
  obtain ⟨g21a, g21b⟩ := and_e g20b
  obtain ⟨g22a, g22b⟩ := and_e g21b
  obtain ⟨g23a, g23b⟩ := and_e g22b
  obtain ⟨w_UTF_8, v_UTF_8⟩ := exa_v g7a
  have E_UTF_8 := Exa.start v_UTF_8 g7a
  have S_UTF_8 := Sta.start v_UTF_8 (Or.inr ⟨(own_w hw 2 rfl), (own_w hw 3 rfl)⟩)
  obtain ⟨w_UTF_16LE, v_UTF_16LE⟩ := exa_v g10a
  have E_UTF_16LE := Exa.start v_UTF_16LE g10a
  have S_UTF_16LE := Sta.start v_UTF_16LE (Or.inr ⟨(own_w hw 2 rfl), (own_w hw 80 rfl)⟩)
  obtain ⟨w_UTF_16BE, v_UTF_16BE⟩ := exa_v g12a
  have E_UTF_16BE := Exa.start v_UTF_16BE g12a
  have S_UTF_16BE := Sta.start v_UTF_16BE (Or.inr ⟨(own_w hw 2 rfl), (own_w hw 85 rfl)⟩)
  obtain ⟨w_UTF_32BE, v_UTF_32BE⟩ := exa_v g15a
  have E_UTF_32BE := Exa.start v_UTF_32BE g15a
  have S_UTF_32BE := Sta.start v_UTF_32BE (Or.inr ⟨(own_w hw 2 rfl), (own_w hw 87 rfl)⟩)
  obtain ⟨w_UTF_32LE, v_UTF_32LE⟩ := exa_v g18a
  have E_UTF_32LE := Exa.start v_UTF_32LE g18a
  have S_UTF_32LE := Sta.start v_UTF_32LE (Or.inr ⟨(own_w hw 2 rfl), (own_w hw 89 rfl)⟩)
  obtain ⟨w_UNMARKED, v_UNMARKED⟩ := exa_v g22a
  have E_UNMARKED := Exa.start v_UNMARKED g22a
  have S_UNMARKED := Sta.start v_UNMARKED (Or.inr ⟨(own_w hw 2 rfl), (own_w hw 91 rfl)⟩)
  have F_UTF_8_width : Fld s s.heap w_UTF_8 "com/example/provenir/provenir/TextEncoding" "width" "I" (.int (1 : Int32)) := Fld.start ((fld_at v_UTF_8).symm.trans (eqv_i (Term.int_eval (1)) g8a))
  have F_UTF_8_littleEndian : Fld s s.heap w_UTF_8 "com/example/provenir/provenir/TextEncoding" "littleEndian" "Z" (.int (0 : Int32)) := Fld.start ((fld_at v_UTF_8).symm.trans (eqv_i (Term.int_eval (0)) g9a))
  have F_UTF_16LE_width : Fld s s.heap w_UTF_16LE "com/example/provenir/provenir/TextEncoding" "width" "I" (.int (2 : Int32)) := Fld.start ((fld_at v_UTF_16LE).symm.trans (eqv_i (Term.int_eval (2)) g11a))
  have F_UTF_16BE_width : Fld s s.heap w_UTF_16BE "com/example/provenir/provenir/TextEncoding" "width" "I" (.int (2 : Int32)) := Fld.start ((fld_at v_UTF_16BE).symm.trans (eqv_i (Term.int_eval (2)) g13a))
  have F_UTF_16BE_littleEndian : Fld s s.heap w_UTF_16BE "com/example/provenir/provenir/TextEncoding" "littleEndian" "Z" (.int (0 : Int32)) := Fld.start ((fld_at v_UTF_16BE).symm.trans (eqv_i (Term.int_eval (0)) g14a))
  have F_UTF_32BE_width : Fld s s.heap w_UTF_32BE "com/example/provenir/provenir/TextEncoding" "width" "I" (.int (4 : Int32)) := Fld.start ((fld_at v_UTF_32BE).symm.trans (eqv_i (Term.int_eval (4)) g16a))
  have F_UTF_32BE_littleEndian : Fld s s.heap w_UTF_32BE "com/example/provenir/provenir/TextEncoding" "littleEndian" "Z" (.int (0 : Int32)) := Fld.start ((fld_at v_UTF_32BE).symm.trans (eqv_i (Term.int_eval (0)) g17a))
  have F_UTF_32LE_width : Fld s s.heap w_UTF_32LE "com/example/provenir/provenir/TextEncoding" "width" "I" (.int (4 : Int32)) := Fld.start ((fld_at v_UTF_32LE).symm.trans (eqv_i (Term.int_eval (4)) g19a))
  have F_UTF_32LE_littleEndian : Fld s s.heap w_UTF_32LE "com/example/provenir/provenir/TextEncoding" "littleEndian" "Z" (.int (1 : Int32)) := Fld.start ((fld_at v_UTF_32LE).symm.trans (eqv_i (Term.int_eval (1)) g20a))
  have F_UTF_16LE_littleEndian : Fld s s.heap w_UTF_16LE "com/example/provenir/provenir/TextEncoding" "littleEndian" "Z" (.int (1 : Int32)) := Fld.start ((fld_at v_UTF_16LE).symm.trans (eqv_i (Term.int_eval (1)) g21a))
  have F_UNMARKED_width : Fld s s.heap w_UNMARKED "com/example/provenir/provenir/TextEncoding" "width" "I" (.int (1 : Int32)) := Fld.start ((fld_at v_UNMARKED).symm.trans (eqv_i (Term.int_eval (1)) g23a))
  have F_UNMARKED_littleEndian : Fld s s.heap w_UNMARKED "com/example/provenir/provenir/TextEncoding" "littleEndian" "Z" (.int (0 : Int32)) := Fld.start ((fld_at v_UNMARKED).symm.trans (eqv_i (Term.int_eval (0)) g23b))
  obtain ⟨zCS, eCS⟩ := is_v (Cond.before_iff.mp (hsets _ (List.mem_of_getElem? (i := 1) rfl)))
  have S_CS := Sta.start eCS (Or.inl (hsets _ (List.mem_of_getElem? (i := 0) rfl)))
  have P_CS : ¬ zCS = 0 := gotF (Cond.eq_ints eCS (Term.int_eval (0))) (not_v (Cond.before_iff.mp (hsets _ (List.mem_of_getElem? (i := 2) rfl))))
  obtain ⟨fm, eSF, P_SF⟩ := isR_v (Cond.before_iff.mp (hsets _ (List.mem_of_getElem? (i := 8) rfl)))
  have S_SF := Sta.start eSF (Or.inl (hsets _ (List.mem_of_getElem? (i := 7) rfl)))
  have hCH : CHv s EL0 s.vm s.heap := CHv.start (own_ELw hw) (fun p hp => by cases List.mem_singleton.mp hp; exact hcalls.1 ("java/lang/String", 7) (by simp [consts_1])) (hsets _ (List.mem_of_getElem? (i := 2) rfl)) (own_w hw 23 rfl) (own_w hw 6 rfl)
  obtain ⟨n, o, h1, h2, h3, _, L, rfl, ⟨rfl, N⟩, hq⟩ := rm_law l s _ hw tables_1 i0 i1 i2 i3 i4 i5 w_UTF_8 w_UTF_32BE w_UTF_32LE w_UTF_16BE w_UTF_16LE w_UNMARKED zCS fm s.heap s.heap.size (Nat.le_refl _) (Old.start s) S_UTF_8 S_UTF_32BE S_UTF_32LE S_UTF_16BE S_UTF_16LE S_UNMARKED E_UTF_8 E_UTF_32BE E_UTF_32LE E_UTF_16BE E_UTF_16LE E_UNMARKED F_UTF_8_width F_UTF_8_littleEndian F_UTF_32BE_width F_UTF_32BE_littleEndian F_UTF_32LE_width F_UTF_32LE_littleEndian F_UTF_16BE_width F_UTF_16BE_littleEndian F_UTF_16LE_width F_UTF_16LE_littleEndian F_UNMARKED_width F_UNMARKED_littleEndian S_CS P_CS S_SF P_SF p e ha hc hk s m _ below hf ((Spec.applies_iff_loose hf).mp happ).1 ⟨rfl, State.Warmed39.refl s, rfl, hCH⟩ trivial
  refine ⟨n, _, h1, h2, h3, hpost _ _ _ _ _ _ ⟨Cond.after_iff.mpr rfl, Cond.after_iff.mpr (eq_i res_at (Term.int_eval (1)) rfl), trivial⟩ ⟨hq.1, hq.2.1, hq.2.2.1, (hq.2.2.2.sift fun y hy => Or.inr (N y hy)).mono (by decide) (by decide)⟩⟩
theorem main_1_1 : Claimed_1_1 := comes_1 fun _ _ _ _ _ _ h hF => ⟨h.1, hF⟩
theorem main_1_2 : Claimed_1_2 := comes_1 fun _ _ _ _ _ _ h hF => ⟨h.2.1, hF⟩
end Jvm.Pilot.@@N@@
namespace Jvm.Pilot.@@N@@
open Jvm Jvm.ClassFile Sem Op Lib Jvm.Free Jvm.Stand Jvm.Pilot.@@N@@.Jvm.D
/-! MADE BY PROGRAM (witnessworld.py) out of the Statement's table words and the real class files: 21 classes; the members and pool entries that the words name. The judged class is class 1, her method 1. -/
namespace start1
open Jvm.ClassFile
def u (s : String) : CpInfo := .utf8 (stringToUtf16 s)
/-- a pool by its gaps: so many unusable entries, then the entry; so many at the end -/
def gap : Nat → List CpInfo → List CpInfo
  | 0, r => r
  | n + 1, r => .unusable :: gap n r
def poolList (es : List (Nat × CpInfo)) (last : Nat) : List CpInfo := es.foldr (fun e r => gap e.1 (e.2 :: r)) (gap last [])
def pool (es : List (Nat × CpInfo)) (last : Nat) : Array CpInfo := ⟨poolList es last⟩
def fileOf (pool : Array CpInfo) (this : Nat) (attrs : Array Attribute := #[]) (ms : Array MethodInfo := #[]) (fl : Nat := 33) (sup : Nat := 0) (ifs : Array Nat := #[]) (fds : Array FieldInfo := #[]) : ClassFile where
  minorVersion := 0
  majorVersion := 65
  constantPool := pool
  accessFlags := fl
  thisClass := this
  superClass := sup
  interfaces := ifs
  fields := fds
  methods := ms
  attributes := attrs
def plain (name : String) (sup : Option ClassId) : Class where
  name := name
  kind := .ordinary
  loader := none
  accessFlags := 33
  super := sup
  interfaces := #[]
  cf := none
  fields := #[]
  methods := #[]
  instanceTypes := #[]
  staticTypes := #[]
  resolved := #[]
  callSites := []
  init := .initialized
  statics := none
  mirror := none

def pool0 : Array CpInfo := pool [(5, u "<init>"), (0, u "()V"), (1, .class_ 10), (1, u "java/lang/Object")] 113

def k0c0 : Code := { maxStack := 0, maxLocals := 1, code := object_method_1_code, exceptionTable := #[], attributes := #[] }
def k0m0 : Method := { name := "<init>", desc := "()V", sig := { parameters := [], returnType := none }, accessFlags := 1, code := some k0c0 }
/-- java/lang/Object -/
def k0 : Class := { plain "java/lang/Object" none with
  accessFlags := 33
  interfaces := #[]
  cf := some (fileOf pool0 8 #[] #[{ accessFlags := 1, nameIndex := 5, descriptorIndex := 6, attributes := #[] }] 33 0 #[] #[])
  fields := #[]
  methods := #[k0m0]
  instanceTypes := #[]
  staticTypes := #[]
  resolved := Array.replicate 124 none
  statics := none }

def pool1 : Array CpInfo := pool [(2, .class_ 4), (1, u "java/lang/Object"), (0, u "<init>"), (0, u "()V"), (0, .integer 2147483647), (0, .fieldref 9 10), (0, .class_ 11), (0, .nameAndType 12 13), (0, u "com/example/provenir/provenir/TextEncoding"), (0, u "UTF_8"), (0, u "Lcom/example/provenir/provenir/TextEncoding;"), (0, .fieldref 9 15), (0, .nameAndType 16 13), (0, u "UTF_32BE"), (0, .fieldref 9 18), (0, .nameAndType 19 13), (0, u "UTF_32LE"), (0, .fieldref 9 21), (0, .nameAndType 22 13), (0, u "UTF_16BE"), (0, .fieldref 9 24), (0, .nameAndType 25 13), (0, u "UTF_16LE"), (0, .fieldref 9 27), (0, .nameAndType 28 13), (0, u "UNMARKED"), (0, .class_ 30), (0, u "java/lang/String"), (0, .methodref 29 32), (0, .nameAndType 5 33), (0, u "([C)V"), (0, .methodref 9 35), (0, .nameAndType 36 37), (0, u "encode"), (0, u "(Ljava/lang/String;)[B"), (0, .methodref 39 40), (0, .class_ 41), (0, .nameAndType 42 43), (0, u "com/example/provenir/provenir/TextEncodingEncodePinLaw"), (0, u "at"), (0, u "([BIIZ[C)Z"), (2, u "law"), (0, u "(IIIIII)Z")] 7

def k1m0 : Method := { name := "<init>", desc := "()V", sig := { parameters := [], returnType := none }, accessFlags := 1, code := none }
def k1c1 : Code := { maxStack := 5, maxLocals := 14, code := code, exceptionTable := #[], attributes := #[] }
def k1m1 : Method := { name := "law", desc := "(IIIIII)Z", sig := { parameters := [.int, .int, .int, .int, .int, .int], returnType := some .boolean }, accessFlags := 9, code := some k1c1 }
def k1c2 : Code := { maxStack := 2, maxLocals := 9, code := method_3_code, exceptionTable := #[], attributes := #[] }
def k1m2 : Method := { name := "at", desc := "([BIIZ[C)Z", sig := { parameters := [(.array .byte), .int, .int, .boolean, (.array .char)], returnType := some .boolean }, accessFlags := 10, code := some k1c2 }
/-- com/example/provenir/provenir/TextEncodingEncodePinLaw -/
def k1 : Class := { plain "com/example/provenir/provenir/TextEncodingEncodePinLaw" (some 0) with
  accessFlags := 49
  interfaces := #[]
  cf := some (fileOf pool1 39 #[] #[{ accessFlags := 1, nameIndex := 5, descriptorIndex := 6, attributes := #[] }, { accessFlags := 9, nameIndex := 46, descriptorIndex := 47, attributes := #[] }, { accessFlags := 10, nameIndex := 42, descriptorIndex := 43, attributes := #[] }] 49 2 #[] #[])
  fields := #[]
  methods := #[k1m0, k1m1, k1m2]
  instanceTypes := #[]
  staticTypes := #[]
  resolved := Array.replicate 55 none
  statics := none }

def pool2 : Array CpInfo := pool [(1, .class_ 2), (0, u "java/lang/constant/Constable"), (0, .class_ 4), (0, u "java/lang/Object")] 6

/-- java/lang/constant/Constable -/
def k2 : Class := { plain "java/lang/constant/Constable" (some 0) with
  accessFlags := 1537
  interfaces := #[]
  cf := some (fileOf pool2 1 #[] #[] 1537 3 #[] #[])
  fields := #[]
  methods := #[]
  instanceTypes := #[]
  staticTypes := #[]
  resolved := Array.replicate 11 none
  statics := none }

def pool3 : Array CpInfo := pool [(1, .class_ 2), (0, u "java/lang/Comparable"), (0, .class_ 4), (0, u "java/lang/Object")] 7

/-- java/lang/Comparable -/
def k3 : Class := { plain "java/lang/Comparable" (some 0) with
  accessFlags := 1537
  interfaces := #[]
  cf := some (fileOf pool3 1 #[] #[] 1537 3 #[] #[])
  fields := #[]
  methods := #[]
  instanceTypes := #[]
  staticTypes := #[]
  resolved := Array.replicate 12 none
  statics := none }

def pool4 : Array CpInfo := pool [(1, .class_ 2), (0, u "java/io/Serializable"), (0, .class_ 4), (0, u "java/lang/Object")] 2

/-- java/io/Serializable -/
def k4 : Class := { plain "java/io/Serializable" (some 0) with
  accessFlags := 1537
  interfaces := #[]
  cf := some (fileOf pool4 1 #[] #[] 1537 3 #[] #[])
  fields := #[]
  methods := #[]
  instanceTypes := #[]
  staticTypes := #[]
  resolved := Array.replicate 7 none
  statics := none }

def pool5 : Array CpInfo := pool [(2, .class_ 4), (1, u "java/lang/Enum"), (0, u "name"), (0, u "Ljava/lang/String;"), (2, u "ordinal"), (0, u "I"), (1, .class_ 14), (1, u "java/lang/Object"), (4, u "hash"), (86, .class_ 108), (1, u "java/lang/Enum$EnumDesc"), (2, .class_ 112), (0, u "java/lang/constant/Constable"), (0, .class_ 114), (0, u "java/lang/Comparable"), (0, .class_ 116), (0, u "java/io/Serializable")] 87

/-- java/lang/Enum -/
def k5 : Class := { plain "java/lang/Enum" (some 0) with
  accessFlags := 1057
  interfaces := #[2, 3, 4]
  cf := some (fileOf pool5 2 #[.nestMembers #[106]] #[] 1057 12 #[111, 113, 115] #[{ accessFlags := 18, nameIndex := 5, descriptorIndex := 6, attributes := #[] }, { accessFlags := 18, nameIndex := 9, descriptorIndex := 10, attributes := #[] }, { accessFlags := 2, nameIndex := 19, descriptorIndex := 10, attributes := #[] }])
  fields := #[{ name := "name", type := (.object "java/lang/String"), accessFlags := 18, slot := 0, constantValue := 0 }, { name := "ordinal", type := .int, accessFlags := 18, slot := 1, constantValue := 0 }, { name := "hash", type := .int, accessFlags := 2, slot := 2, constantValue := 0 }]
  methods := #[]
  instanceTypes := #[(.object "java/lang/String"), .int, .int]
  staticTypes := #[]
  resolved := Array.replicate 204 none
  statics := none }

def pool6 : Array CpInfo := pool [(1, .class_ 2), (0, u "com/example/provenir/provenir/TextEncoding"), (2, u "UTF_8"), (0, u "Lcom/example/provenir/provenir/TextEncoding;"), (2, u "UTF_32BE"), (2, u "UTF_32LE"), (2, u "UTF_16BE"), (2, u "UTF_16LE"), (2, u "UNMARKED"), (2, u "$VALUES"), (0, u "[Lcom/example/provenir/provenir/TextEncoding;"), (6, .class_ 34), (1, u "java/lang/Enum"), (6, .fieldref 1 42), (0, .nameAndType 43 44), (0, u "width"), (0, u "I"), (0, .fieldref 1 46), (0, .nameAndType 47 48), (0, u "littleEndian"), (0, u "Z"), (2, u "mark"), (0, u "[B"), (32, .methodref 86 87), (0, .class_ 88), (0, .nameAndType 89 90), (0, u "java/lang/String"), (0, u "length"), (0, u "()I"), (0, .methodref 86 92), (0, .nameAndType 93 94), (0, u "charAt"), (0, u "(I)C"), (33, u "LONGEST_MARK"), (17, u "encode"), (0, u "(Ljava/lang/String;)[B")] 7

def k6c0 : Code := { maxStack := 4, maxLocals := 4, code := prog_73_method_9_code, exceptionTable := #[], attributes := #[] }
def k6m0 : Method := { name := "encode", desc := "(Ljava/lang/String;)[B", sig := { parameters := [(.object "java/lang/String")], returnType := some (.array .byte) }, accessFlags := 0, code := some k6c0 }
/-- com/example/provenir/provenir/TextEncoding -/
def k6 : Class := { plain "com/example/provenir/provenir/TextEncoding" (some 5) with
  accessFlags := 16432
  interfaces := #[]
  cf := some (fileOf pool6 1 #[] #[{ accessFlags := 0, nameIndex := 146, descriptorIndex := 147, attributes := #[] }] 16432 32 #[] #[{ accessFlags := 16409, nameIndex := 5, descriptorIndex := 6, attributes := #[] }, { accessFlags := 16409, nameIndex := 9, descriptorIndex := 6, attributes := #[] }, { accessFlags := 16409, nameIndex := 12, descriptorIndex := 6, attributes := #[] }, { accessFlags := 16409, nameIndex := 15, descriptorIndex := 6, attributes := #[] }, { accessFlags := 16409, nameIndex := 18, descriptorIndex := 6, attributes := #[] }, { accessFlags := 16409, nameIndex := 21, descriptorIndex := 6, attributes := #[] }, { accessFlags := 26, nameIndex := 128, descriptorIndex := 44, attributes := #[] }, { accessFlags := 18, nameIndex := 43, descriptorIndex := 44, attributes := #[] }, { accessFlags := 18, nameIndex := 47, descriptorIndex := 48, attributes := #[] }, { accessFlags := 18, nameIndex := 51, descriptorIndex := 52, attributes := #[] }, { accessFlags := 4122, nameIndex := 24, descriptorIndex := 25, attributes := #[] }])
  fields := #[{ name := "UTF_8", type := (.object "com/example/provenir/provenir/TextEncoding"), accessFlags := 16409, slot := 0, constantValue := 0 }, { name := "UTF_32BE", type := (.object "com/example/provenir/provenir/TextEncoding"), accessFlags := 16409, slot := 1, constantValue := 0 }, { name := "UTF_32LE", type := (.object "com/example/provenir/provenir/TextEncoding"), accessFlags := 16409, slot := 2, constantValue := 0 }, { name := "UTF_16BE", type := (.object "com/example/provenir/provenir/TextEncoding"), accessFlags := 16409, slot := 3, constantValue := 0 }, { name := "UTF_16LE", type := (.object "com/example/provenir/provenir/TextEncoding"), accessFlags := 16409, slot := 4, constantValue := 0 }, { name := "UNMARKED", type := (.object "com/example/provenir/provenir/TextEncoding"), accessFlags := 16409, slot := 5, constantValue := 0 }, { name := "LONGEST_MARK", type := .int, accessFlags := 26, slot := 6, constantValue := 0 }, { name := "width", type := .int, accessFlags := 18, slot := 3, constantValue := 0 }, { name := "littleEndian", type := .boolean, accessFlags := 18, slot := 4, constantValue := 0 }, { name := "mark", type := (.array .byte), accessFlags := 18, slot := 5, constantValue := 0 }, { name := "$VALUES", type := (.array (.object "com/example/provenir/provenir/TextEncoding")), accessFlags := 4122, slot := 7, constantValue := 0 }]
  methods := #[k6m0]
  instanceTypes := #[(.object "java/lang/String"), .int, .int, .int, .boolean, (.array .byte)]
  staticTypes := #[(.object "com/example/provenir/provenir/TextEncoding"), (.object "com/example/provenir/provenir/TextEncoding"), (.object "com/example/provenir/provenir/TextEncoding"), (.object "com/example/provenir/provenir/TextEncoding"), (.object "com/example/provenir/provenir/TextEncoding"), (.object "com/example/provenir/provenir/TextEncoding"), .int, (.array (.object "com/example/provenir/provenir/TextEncoding"))]
  resolved := Array.replicate 155 none
  statics := some 0 }

def pool7 : Array CpInfo := pool [(2, .class_ 4), (1, u "java/lang/CharSequence"), (42, .class_ 48), (0, u "java/lang/CharSequence$1CodePointIterator"), (10, .class_ 60), (0, u "java/lang/CharSequence$1CharIterator"), (5, .class_ 67), (0, u "java/lang/Object")] 63

/-- java/lang/CharSequence -/
def k7 : Class := { plain "java/lang/CharSequence" (some 0) with
  accessFlags := 1537
  interfaces := #[]
  cf := some (fileOf pool7 2 #[.nestMembers #[47, 59]] #[] 1537 66 #[] #[])
  fields := #[]
  methods := #[]
  instanceTypes := #[]
  staticTypes := #[]
  resolved := Array.replicate 131 none
  statics := none }

def pool8 : Array CpInfo := pool [(1, .class_ 2), (0, u "java/lang/constant/ConstantDesc"), (0, .class_ 4), (0, u "java/lang/Object")] 32

/-- java/lang/constant/ConstantDesc -/
def k8 : Class := { plain "java/lang/constant/ConstantDesc" (some 0) with
  accessFlags := 1537
  interfaces := #[]
  cf := some (fileOf pool8 1 #[] #[] 1537 3 #[] #[])
  fields := #[]
  methods := #[]
  instanceTypes := #[]
  staticTypes := #[]
  resolved := Array.replicate 37 none
  statics := none }

def pool9 : Array CpInfo := pool [(1, .methodref 2 3), (0, .class_ 4), (0, .nameAndType 5 6), (0, u "java/lang/Object"), (0, u "<init>"), (0, u "()V"), (0, .string 8), (0, u ""), (0, .fieldref 10 11), (0, .class_ 12), (0, .nameAndType 13 14), (0, u "java/lang/String"), (0, u "value"), (0, u "[B"), (0, .fieldref 10 16), (0, .nameAndType 17 18), (0, u "coder"), (0, u "B"), (2, u "hash"), (0, u "I"), (2, u "hashIsZero"), (0, u "Z"), (0, .methodref 10 28), (0, .nameAndType 5 29), (0, u "([CIILjava/lang/Void;)V"), (8, .fieldref 10 39), (0, .nameAndType 40 26), (0, u "COMPACT_STRINGS"), (1, .class_ 44), (1, u "java/lang/StringUTF16"), (0, u "compress"), (1, .methodref 42 48), (0, .nameAndType 49 50), (0, u "coderFromArrayLen"), (0, u "([BI)B"), (56, .class_ 109), (1, u "java/lang/StringLatin1"), (32, u "()Z"), (34, .methodref 42 178), (0, .nameAndType 45 179), (0, u "([CII)[B"), (154, u "()I"), (0, .methodref 10 336), (0, .nameAndType 17 337), (0, u "()B"), (25, u "([BI)C"), (27, u "(II)V"), (35, u "(I)C"), (64, .methodref 10 493), (0, .nameAndType 494 142), (0, u "isLatin1"), (0, .methodref 107 496), (0, .nameAndType 497 363), (0, u "charAt"), (3, u "checkIndex"), (5, u "length"), (67, .class_ 576), (0, u "java/lang/CharSequence"), (22, u "CASE_INSENSITIVE_ORDER"), (0, u "Ljava/util/Comparator;"), (409, u "([C)V"), (42, .fieldref 1054 1055), (0, .class_ 1056), (0, .nameAndType 1057 1058), (0, u "jdk/internal/util/Preconditions"), (0, u "SIOOBE_FORMATTER"), (0, u "Ljava/util/function/BiFunction;"), (0, .methodref 1054 1060), (0, .nameAndType 501 1061), (0, u "(IILjava/util/function/BiFunction;)I"), (39, u "serialPersistentFields"), (0, u "[Ljava/io/ObjectStreamField;"), (0, .class_ 1104), (0, u "java/lang/String$CaseInsensitiveComparator"), (1, .class_ 1107), (0, u "java/io/Serializable"), (0, .class_ 1109), (0, u "java/lang/Comparable"), (0, .class_ 1111), (0, u "java/lang/constant/Constable"), (0, .class_ 1113), (0, u "java/lang/constant/ConstantDesc"), (2, u "serialVersionUID"), (0, u "J"), (3, u "REPL"), (0, u "C"), (2, u "LATIN1"), (1, u "UTF16")] 323

def k9m0 : Method := { name := "<init>", desc := "()V", sig := { parameters := [], returnType := none }, accessFlags := 1, code := none }
def k9c1 : Code := { maxStack := 5, maxLocals := 2, code := jdk_42_method_3_code, exceptionTable := #[], attributes := #[] }
def k9m1 : Method := { name := "<init>", desc := "([C)V", sig := { parameters := [(.array .char)], returnType := none }, accessFlags := 1, code := some k9c1 }
def k9c2 : Code := { maxStack := 2, maxLocals := 1, code := jdk_42_method_54_code, exceptionTable := #[], attributes := #[] }
def k9m2 : Method := { name := "length", desc := "()I", sig := { parameters := [], returnType := some .int }, accessFlags := 1, code := some k9c2 }
def k9c3 : Code := { maxStack := 2, maxLocals := 2, code := jdk_42_method_56_code, exceptionTable := #[], attributes := #[] }
def k9m3 : Method := { name := "charAt", desc := "(I)C", sig := { parameters := [.int], returnType := some .char }, accessFlags := 1, code := some k9c3 }
def k9c4 : Code := { maxStack := 4, maxLocals := 6, code := jdk_42_method_149_code, exceptionTable := #[], attributes := #[] }
def k9m4 : Method := { name := "<init>", desc := "([CIILjava/lang/Void;)V", sig := { parameters := [(.array .char), .int, .int, (.object "java/lang/Void")], returnType := none }, accessFlags := 2, code := some k9c4 }
def k9c5 : Code := { maxStack := 1, maxLocals := 1, code := jdk_42_method_152_code, exceptionTable := #[], attributes := #[] }
def k9m5 : Method := { name := "coder", desc := "()B", sig := { parameters := [], returnType := some .byte }, accessFlags := 0, code := some k9c5 }
def k9c6 : Code := { maxStack := 1, maxLocals := 1, code := jdk_42_method_154_code, exceptionTable := #[], attributes := #[] }
def k9m6 : Method := { name := "isLatin1", desc := "()Z", sig := { parameters := [], returnType := some .boolean }, accessFlags := 0, code := some k9c6 }
def k9c7 : Code := { maxStack := 3, maxLocals := 2, code := jdk_42_method_155_code, exceptionTable := #[], attributes := #[] }
def k9m7 : Method := { name := "checkIndex", desc := "(II)V", sig := { parameters := [.int, .int], returnType := none }, accessFlags := 8, code := some k9c7 }
/-- java/lang/String -/
def k9 : Class := { plain "java/lang/String" (some 0) with
  accessFlags := 49
  interfaces := #[4, 3, 7, 2, 8]
  cf := some (fileOf pool9 10 #[.nestMembers #[1103]] #[{ accessFlags := 1, nameIndex := 5, descriptorIndex := 6, attributes := #[] }, { accessFlags := 1, nameIndex := 5, descriptorIndex := 1010, attributes := #[] }, { accessFlags := 1, nameIndex := 507, descriptorIndex := 334, attributes := #[] }, { accessFlags := 1, nameIndex := 497, descriptorIndex := 427, attributes := #[] }, { accessFlags := 2, nameIndex := 5, descriptorIndex := 29, attributes := #[] }, { accessFlags := 0, nameIndex := 17, descriptorIndex := 337, attributes := #[] }, { accessFlags := 0, nameIndex := 494, descriptorIndex := 142, attributes := #[] }, { accessFlags := 8, nameIndex := 501, descriptorIndex := 391, attributes := #[] }] 49 2 #[1106, 1108, 575, 1110, 1112] #[{ accessFlags := 18, nameIndex := 13, descriptorIndex := 14, attributes := #[] }, { accessFlags := 18, nameIndex := 17, descriptorIndex := 18, attributes := #[] }, { accessFlags := 2, nameIndex := 21, descriptorIndex := 22, attributes := #[] }, { accessFlags := 2, nameIndex := 25, descriptorIndex := 26, attributes := #[] }, { accessFlags := 26, nameIndex := 1116, descriptorIndex := 1117, attributes := #[] }, { accessFlags := 24, nameIndex := 40, descriptorIndex := 26, attributes := #[] }, { accessFlags := 26, nameIndex := 1101, descriptorIndex := 1102, attributes := #[] }, { accessFlags := 26, nameIndex := 1121, descriptorIndex := 1122, attributes := #[] }, { accessFlags := 25, nameIndex := 599, descriptorIndex := 600, attributes := #[] }, { accessFlags := 24, nameIndex := 1125, descriptorIndex := 18, attributes := #[] }, { accessFlags := 24, nameIndex := 1127, descriptorIndex := 18, attributes := #[] }])
  fields := #[{ name := "value", type := (.array .byte), accessFlags := 18, slot := 0, constantValue := 0 }, { name := "coder", type := .byte, accessFlags := 18, slot := 1, constantValue := 0 }, { name := "hash", type := .int, accessFlags := 2, slot := 2, constantValue := 0 }, { name := "hashIsZero", type := .boolean, accessFlags := 2, slot := 3, constantValue := 0 }, { name := "serialVersionUID", type := .long, accessFlags := 26, slot := 0, constantValue := 0 }, { name := "COMPACT_STRINGS", type := .boolean, accessFlags := 24, slot := 1, constantValue := 0 }, { name := "serialPersistentFields", type := (.array (.object "java/io/ObjectStreamField")), accessFlags := 26, slot := 2, constantValue := 0 }, { name := "REPL", type := .char, accessFlags := 26, slot := 3, constantValue := 0 }, { name := "CASE_INSENSITIVE_ORDER", type := (.object "java/util/Comparator"), accessFlags := 25, slot := 4, constantValue := 0 }, { name := "LATIN1", type := .byte, accessFlags := 24, slot := 5, constantValue := 0 }, { name := "UTF16", type := .byte, accessFlags := 24, slot := 6, constantValue := 0 }]
  methods := #[k9m0, k9m1, k9m2, k9m3, k9m4, k9m5, k9m6, k9m7]
  instanceTypes := #[(.array .byte), .byte, .int, .boolean]
  staticTypes := #[.long, .boolean, (.array (.object "java/io/ObjectStreamField")), .char, (.object "java/util/Comparator"), .byte, .byte]
  resolved := Array.replicate 1451 none
  statics := some 1 }

def pool10 : Array CpInfo := pool [(6, .class_ 8), (1, u "java/lang/Object"), (0, u "<init>"), (0, u "()V"), (1, .class_ 14), (1, u "java/lang/StringUTF16"), (31, u "$assertionsDisabled"), (0, u "Z"), (13, u "HI_BYTE_SHIFT"), (0, u "I"), (2, u "LO_BYTE_SHIFT"), (49, .methodref 12 116), (0, .nameAndType 117 118), (0, u "compress"), (0, u "([CI[BII)I"), (3, u "([CII)[B"), (138, u "coderFromArrayLen"), (0, u "([BI)B"), (106, .class_ 371), (1, u "java/lang/StringUTF16$LinesSpliterator"), (58, u "MAX_LENGTH"), (196, .class_ 628), (0, u "java/lang/StringUTF16$CodePointsSpliterator"), (0, .class_ 630), (0, u "java/lang/StringUTF16$CharsSpliterator")] 4

def k10m0 : Method := { name := "<init>", desc := "()V", sig := { parameters := [], returnType := none }, accessFlags := 0, code := none }
def k10c1 : Code := { maxStack := 2, maxLocals := 2, code := jdk_52_method_15_code, exceptionTable := #[], attributes := #[] }
def k10m1 : Method := { name := "coderFromArrayLen", desc := "([BI)B", sig := { parameters := [(.array .byte), .int], returnType := some .byte }, accessFlags := 8, code := some k10c1 }
def k10c2 : Code := { maxStack := 5, maxLocals := 6, code := jdk_52_method_16_code, exceptionTable := #[], attributes := #[] }
def k10m2 : Method := { name := "compress", desc := "([CII)[B", sig := { parameters := [(.array .char), .int, .int], returnType := some (.array .byte) }, accessFlags := 9, code := some k10c2 }
def k10c3 : Code := { maxStack := 3, maxLocals := 7, code := jdk_52_method_21_code, exceptionTable := #[], attributes := #[] }
def k10m3 : Method := { name := "compress", desc := "([CI[BII)I", sig := { parameters := [(.array .char), .int, (.array .byte), .int, .int], returnType := some .int }, accessFlags := 9, code := some k10c3 }
/-- java/lang/StringUTF16 -/
def k10 : Class := { plain "java/lang/StringUTF16" (some 0) with
  accessFlags := 48
  interfaces := #[]
  cf := some (fileOf pool10 12 #[.nestMembers #[627, 629, 369]] #[{ accessFlags := 0, nameIndex := 9, descriptorIndex := 10, attributes := #[] }, { accessFlags := 8, nameIndex := 261, descriptorIndex := 262, attributes := #[] }, { accessFlags := 9, nameIndex := 117, descriptorIndex := 122, attributes := #[] }, { accessFlags := 9, nameIndex := 117, descriptorIndex := 118, attributes := #[] }] 48 6 #[] #[{ accessFlags := 26, nameIndex := 61, descriptorIndex := 62, attributes := #[] }, { accessFlags := 26, nameIndex := 65, descriptorIndex := 62, attributes := #[] }, { accessFlags := 24, nameIndex := 430, descriptorIndex := 62, attributes := #[] }, { accessFlags := 4120, nameIndex := 46, descriptorIndex := 47, attributes := #[] }])
  fields := #[{ name := "HI_BYTE_SHIFT", type := .int, accessFlags := 26, slot := 0, constantValue := 0 }, { name := "LO_BYTE_SHIFT", type := .int, accessFlags := 26, slot := 1, constantValue := 0 }, { name := "MAX_LENGTH", type := .int, accessFlags := 24, slot := 2, constantValue := 0 }, { name := "$assertionsDisabled", type := .boolean, accessFlags := 4120, slot := 3, constantValue := 0 }]
  methods := #[k10m0, k10m1, k10m2, k10m3]
  instanceTypes := #[]
  staticTypes := #[.int, .int, .int, .boolean]
  resolved := Array.replicate 635 none
  statics := none }

def pool11 : Array CpInfo := pool [(1, .class_ 2), (0, u "java/lang/String"), (1, .class_ 6), (1, u "java/lang/Object"), (0, u "<init>"), (0, u "()V"), (0, .methodref 1 10), (0, .nameAndType 11 12), (0, u "checkIndex"), (0, u "(II)V"), (1, .class_ 16), (1, u "java/lang/StringLatin1"), (36, u "([BI)C"), (67, u "$assertionsDisabled"), (0, u "Z"), (98, .class_ 223), (1, u "java/lang/StringLatin1$LinesSpliterator"), (28, u "charAt"), (137, .class_ 391), (0, u "java/lang/StringLatin1$CharsSpliterator")] 3

def k11m0 : Method := { name := "<init>", desc := "()V", sig := { parameters := [], returnType := none }, accessFlags := 0, code := none }
def k11c1 : Code := { maxStack := 2, maxLocals := 2, code := jdk_43_method_2_code, exceptionTable := #[], attributes := #[] }
def k11m1 : Method := { name := "charAt", desc := "([BI)C", sig := { parameters := [(.array .byte), .int], returnType := some .char }, accessFlags := 9, code := some k11c1 }
/-- java/lang/StringLatin1 -/
def k11 : Class := { plain "java/lang/StringLatin1" (some 0) with
  accessFlags := 48
  interfaces := #[]
  cf := some (fileOf pool11 14 #[.nestMembers #[390, 221]] #[{ accessFlags := 0, nameIndex := 7, descriptorIndex := 8, attributes := #[] }, { accessFlags := 9, nameIndex := 252, descriptorIndex := 53, attributes := #[] }] 48 4 #[] #[{ accessFlags := 4120, nameIndex := 121, descriptorIndex := 122, attributes := #[] }])
  fields := #[{ name := "$assertionsDisabled", type := .boolean, accessFlags := 4120, slot := 0, constantValue := 0 }]
  methods := #[k11m0, k11m1]
  instanceTypes := #[]
  staticTypes := #[.boolean]
  resolved := Array.replicate 395 none
  statics := none }

def pool12 : Array CpInfo := pool [(2, .class_ 4), (1, u "java/lang/Object"), (0, u "<init>"), (0, u "()V"), (17, .class_ 26), (1, u "jdk/internal/util/Preconditions"), (6, u "checkIndex"), (21, .class_ 56), (0, u "jdk/internal/util/Preconditions$4"), (57, .class_ 115), (0, u "jdk/internal/util/Preconditions$1"), (7, u "SIOOBE_FORMATTER"), (0, u "Ljava/util/function/BiFunction;"), (0, .class_ 126), (0, u "jdk/internal/util/Preconditions$2"), (3, u "AIOOBE_FORMATTER"), (0, .class_ 132), (0, u "jdk/internal/util/Preconditions$3"), (3, u "IOOBE_FORMATTER"), (41, u "(IILjava/util/function/BiFunction;)I")] 15

def k12m0 : Method := { name := "<init>", desc := "()V", sig := { parameters := [], returnType := none }, accessFlags := 1, code := none }
def k12c1 : Code := { maxStack := 3, maxLocals := 3, code := jdk_41_method_11_code, exceptionTable := #[], attributes := #[] }
def k12m1 : Method := { name := "checkIndex", desc := "(IILjava/util/function/BiFunction;)I", sig := { parameters := [.int, .int, (.object "java/util/function/BiFunction")], returnType := some .int }, accessFlags := 9, code := some k12c1 }
/-- jdk/internal/util/Preconditions -/
def k12 : Class := { plain "jdk/internal/util/Preconditions" (some 0) with
  accessFlags := 33
  interfaces := #[]
  cf := some (fileOf pool12 24 #[.nestMembers #[55, 131, 125, 114]] #[{ accessFlags := 1, nameIndex := 5, descriptorIndex := 6, attributes := #[] }, { accessFlags := 9, nameIndex := 33, descriptorIndex := 178, attributes := #[] }] 33 2 #[] #[{ accessFlags := 25, nameIndex := 123, descriptorIndex := 124, attributes := #[] }, { accessFlags := 25, nameIndex := 130, descriptorIndex := 124, attributes := #[] }, { accessFlags := 25, nameIndex := 136, descriptorIndex := 124, attributes := #[] }])
  fields := #[{ name := "SIOOBE_FORMATTER", type := (.object "java/util/function/BiFunction"), accessFlags := 25, slot := 0, constantValue := 0 }, { name := "AIOOBE_FORMATTER", type := (.object "java/util/function/BiFunction"), accessFlags := 25, slot := 1, constantValue := 0 }, { name := "IOOBE_FORMATTER", type := (.object "java/util/function/BiFunction"), accessFlags := 25, slot := 2, constantValue := 0 }]
  methods := #[k12m0, k12m1]
  instanceTypes := #[]
  staticTypes := #[(.object "java/util/function/BiFunction"), (.object "java/util/function/BiFunction"), (.object "java/util/function/BiFunction")]
  resolved := Array.replicate 194 none
  statics := some 2 }

def pool13 : Array CpInfo := pool [(9, u "<init>"), (6, .class_ 18), (1, u "java/lang/Object"), (0, u "()V"), (1, .class_ 23), (1, u "jdk/internal/util/ArraysSupport"), (0, u "LOG2_ARRAY_LONG_INDEX_SCALE"), (0, u "I"), (2, u "U"), (0, u "Ljdk/internal/misc/Unsafe;"), (8, u "BIG_ENDIAN"), (0, u "Z"), (8, u "LOG2_BYTE_BIT_SIZE"), (4, u "LOG2_ARRAY_INT_INDEX_SCALE"), (54, u "JLA"), (0, u "Ljdk/internal/access/JavaLangAccess;"), (11, u "LOG2_ARRAY_BOOLEAN_INDEX_SCALE"), (9, u "LOG2_ARRAY_BYTE_INDEX_SCALE"), (5, u "LOG2_ARRAY_CHAR_INDEX_SCALE"), (5, u "LOG2_ARRAY_SHORT_INDEX_SCALE"), (18, u "LOG2_ARRAY_FLOAT_INDEX_SCALE"), (24, u "LOG2_ARRAY_DOUBLE_INDEX_SCALE"), (89, u "T_BOOLEAN"), (2, u "T_CHAR"), (1, u "T_FLOAT"), (1, u "T_DOUBLE"), (1, u "T_BYTE"), (1, u "T_SHORT"), (1, u "T_INT"), (1, u "T_LONG"), (1, u "SOFT_MAX_ARRAY_LENGTH")] 83

def k13m0 : Method := { name := "<init>", desc := "()V", sig := { parameters := [], returnType := none }, accessFlags := 2, code := none }
/-- jdk/internal/util/ArraysSupport -/
def k13 : Class := { plain "jdk/internal/util/ArraysSupport" (some 0) with
  accessFlags := 33
  interfaces := #[]
  cf := some (fileOf pool13 21 #[] #[{ accessFlags := 2, nameIndex := 9, descriptorIndex := 19, attributes := #[] }] 33 16 #[] #[{ accessFlags := 24, nameIndex := 28, descriptorIndex := 29, attributes := #[] }, { accessFlags := 26, nameIndex := 38, descriptorIndex := 39, attributes := #[] }, { accessFlags := 25, nameIndex := 121, descriptorIndex := 25, attributes := #[] }, { accessFlags := 25, nameIndex := 131, descriptorIndex := 25, attributes := #[] }, { accessFlags := 25, nameIndex := 137, descriptorIndex := 25, attributes := #[] }, { accessFlags := 25, nameIndex := 143, descriptorIndex := 25, attributes := #[] }, { accessFlags := 25, nameIndex := 53, descriptorIndex := 25, attributes := #[] }, { accessFlags := 25, nameIndex := 24, descriptorIndex := 25, attributes := #[] }, { accessFlags := 25, nameIndex := 162, descriptorIndex := 25, attributes := #[] }, { accessFlags := 25, nameIndex := 187, descriptorIndex := 25, attributes := #[] }, { accessFlags := 26, nameIndex := 48, descriptorIndex := 25, attributes := #[] }, { accessFlags := 25, nameIndex := 277, descriptorIndex := 25, attributes := #[] }, { accessFlags := 25, nameIndex := 280, descriptorIndex := 25, attributes := #[] }, { accessFlags := 25, nameIndex := 282, descriptorIndex := 25, attributes := #[] }, { accessFlags := 25, nameIndex := 284, descriptorIndex := 25, attributes := #[] }, { accessFlags := 25, nameIndex := 286, descriptorIndex := 25, attributes := #[] }, { accessFlags := 25, nameIndex := 288, descriptorIndex := 25, attributes := #[] }, { accessFlags := 25, nameIndex := 290, descriptorIndex := 25, attributes := #[] }, { accessFlags := 25, nameIndex := 292, descriptorIndex := 25, attributes := #[] }, { accessFlags := 26, nameIndex := 108, descriptorIndex := 109, attributes := #[] }, { accessFlags := 25, nameIndex := 294, descriptorIndex := 25, attributes := #[] }])
  fields := #[{ name := "U", type := (.object "jdk/internal/misc/Unsafe"), accessFlags := 24, slot := 0, constantValue := 0 }, { name := "BIG_ENDIAN", type := .boolean, accessFlags := 26, slot := 1, constantValue := 0 }, { name := "LOG2_ARRAY_BOOLEAN_INDEX_SCALE", type := .int, accessFlags := 25, slot := 2, constantValue := 0 }, { name := "LOG2_ARRAY_BYTE_INDEX_SCALE", type := .int, accessFlags := 25, slot := 3, constantValue := 0 }, { name := "LOG2_ARRAY_CHAR_INDEX_SCALE", type := .int, accessFlags := 25, slot := 4, constantValue := 0 }, { name := "LOG2_ARRAY_SHORT_INDEX_SCALE", type := .int, accessFlags := 25, slot := 5, constantValue := 0 }, { name := "LOG2_ARRAY_INT_INDEX_SCALE", type := .int, accessFlags := 25, slot := 6, constantValue := 0 }, { name := "LOG2_ARRAY_LONG_INDEX_SCALE", type := .int, accessFlags := 25, slot := 7, constantValue := 0 }, { name := "LOG2_ARRAY_FLOAT_INDEX_SCALE", type := .int, accessFlags := 25, slot := 8, constantValue := 0 }, { name := "LOG2_ARRAY_DOUBLE_INDEX_SCALE", type := .int, accessFlags := 25, slot := 9, constantValue := 0 }, { name := "LOG2_BYTE_BIT_SIZE", type := .int, accessFlags := 26, slot := 10, constantValue := 0 }, { name := "T_BOOLEAN", type := .int, accessFlags := 25, slot := 11, constantValue := 0 }, { name := "T_CHAR", type := .int, accessFlags := 25, slot := 12, constantValue := 0 }, { name := "T_FLOAT", type := .int, accessFlags := 25, slot := 13, constantValue := 0 }, { name := "T_DOUBLE", type := .int, accessFlags := 25, slot := 14, constantValue := 0 }, { name := "T_BYTE", type := .int, accessFlags := 25, slot := 15, constantValue := 0 }, { name := "T_SHORT", type := .int, accessFlags := 25, slot := 16, constantValue := 0 }, { name := "T_INT", type := .int, accessFlags := 25, slot := 17, constantValue := 0 }, { name := "T_LONG", type := .int, accessFlags := 25, slot := 18, constantValue := 0 }, { name := "JLA", type := (.object "jdk/internal/access/JavaLangAccess"), accessFlags := 26, slot := 19, constantValue := 0 }, { name := "SOFT_MAX_ARRAY_LENGTH", type := .int, accessFlags := 25, slot := 20, constantValue := 0 }]
  methods := #[k13m0]
  instanceTypes := #[]
  staticTypes := #[(.object "jdk/internal/misc/Unsafe"), .boolean, .int, .int, .int, .int, .int, .int, .int, .int, .int, .int, .int, .int, .int, .int, .int, .int, .int, (.object "jdk/internal/access/JavaLangAccess"), .int]
  resolved := Array.replicate 378 none
  statics := none }

def pool14 : Array CpInfo := pool [(1, u "java/lang/Cloneable"), (0, .class_ 1), (0, u "java/lang/Object"), (0, .class_ 3)] 3

/-- java/lang/Cloneable -/
def k14 : Class := { plain "java/lang/Cloneable" (some 0) with
  accessFlags := 1537
  interfaces := #[]
  cf := some (fileOf pool14 2 #[] #[] 1537 4 #[] #[])
  fields := #[]
  methods := #[]
  instanceTypes := #[]
  staticTypes := #[]
  resolved := Array.replicate 8 none
  statics := none }

/-- the primitive byte -/
def k15 : Class := { plain "byte" none with kind := .primitive 'B', accessFlags := 0x411 }
/-- [B -/
def k16 : Class := { plain "[B" (some 0) with kind := .array 15 .byte, interfaces := #[14, 4], accessFlags := 1041 }

/-- the primitive char -/
def k17 : Class := { plain "char" none with kind := .primitive 'C', accessFlags := 0x411 }
/-- [C -/
def k18 : Class := { plain "[C" (some 0) with kind := .array 17 .char, interfaces := #[14, 4], accessFlags := 1041 }

/-- the primitive int -/
def k19 : Class := { plain "int" none with kind := .primitive 'I', accessFlags := 0x411 }
/-- [I -/
def k20 : Class := { plain "[I" (some 0) with kind := .array 19 .int, interfaces := #[14, 4], accessFlags := 1041 }

def heap : Heap := #[{ cls := 6, slots := #[.ref 3, .ref 4, .ref 5, .ref 6, .ref 7, .ref 8, .int 0, .null], vm := .statics 6 },
  { cls := 9, slots := #[.long 0, .int 1, .null, .int 0, .null, .int 0, .int 0], vm := .statics 9 },
  { cls := 12, slots := #[.null, .null, .null], vm := .statics 12 },
  { cls := 6, slots := #[.null, .int 0, .int 0, .int 1, .int 0, .null], vm := .none },
  { cls := 6, slots := #[.null, .int 1, .int 0, .int 4, .int 0, .null], vm := .none },
  { cls := 6, slots := #[.null, .int 2, .int 0, .int 4, .int 1, .null], vm := .none },
  { cls := 6, slots := #[.null, .int 3, .int 0, .int 2, .int 0, .null], vm := .none },
  { cls := 6, slots := #[.null, .int 4, .int 0, .int 2, .int 1, .null], vm := .none },
  { cls := 6, slots := #[.null, .int 5, .int 0, .int 1, .int 0, .null], vm := .none }]
def classes : Array Class := #[k0, k1, k2, k3, k4, k5, k6, k7, k8, k9, k10, k11, k12, k13, k14, k15, k16, k17, k18, k19, k20]
def interned : List (Array UInt16 × Addr) := []
def slotsUsed : Nat := 54
def theMethod : MethodId := ⟨1, 1⟩
def args0 : Array Value := #[.int 5, .int 1, .int 2, .int 3, .int 4, .int 5]
def aboutOver (below : List Frame) : State where
  vm := { classes := classes, interned := interned.toArray }
  heap := heap
  slotsUsed := slotsUsed
  threads := #[{ frames := .invoking theMethod args0 :: below }]
def below0 : List Frame := [.native { method := ⟨0, 0⟩, args := #[] }]
def about1 : State := aboutOver below0
def p0 : Program := .bare "" "" ""
def e0 : Env := launch0.env 0 0 0
theorem w_frames : about1.frames = Frame.invoking theMethod args0 :: below0 := rfl
set_option maxRecDepth 65536 in
theorem w_args : argsFit about1.vm theMethod args0 = true := by decide +kernel
set_option maxRecDepth 65536 in
theorem w_heap : heapFits about1 = true := by decide +kernel
set_option maxRecDepth 65536 in
theorem w_runnable : about1.curStatus? = some .runnable := by decide +kernel
set_option maxRecDepth 65536 in
theorem w_alone : about1.alone = true := by decide +kernel
set_option maxRecDepth 65536 in
theorem w_named : about1.methodNamed? x = some theMethod := by decide +kernel
set_option maxRecDepth 65536 in
theorem w_hears : about1.hears theMethod below0 = true := by decide +kernel
set_option maxRecDepth 65536 in
theorem w_ripe : about1.ripe theMethod args0 below0 = true := by decide +kernel
theorem w_running : about1.status = .running := rfl
set_option maxRecDepth 65536 in
theorem w_room : about1.hasRoom e0.platform room_1 = true :=
  launch0.hasRoom_least _ room_1 (by decide +kernel) (by decide +kernel) (by decide +kernel) (by decide +kernel) (by decide +kernel) (by decide +kernel)
theorem allAtoms_all (ts : List Jvm.Cond) (a : Array Jvm.Value) (st : Jvm.State) : (allAtoms ts).before a st = ts.all (fun c => c.before a st) := by
  induction ts with
  | nil => rfl
  | cons c t ih =>
    show (Jvm.Cond.and c (allAtoms t)).before a st = _
    rw [Jvm.Cond.before_and, ih, List.all_cons]
def words1 : List Jvm.Cond := Jvm.Cond.code x code maxLocals ret :: tables_1
/-- a 'code' word, met by the world's own term for the bytes: nothing is compared byte by byte -/
theorem code_word {y : MethodName} {bytes : ByteArray} {mx : Nat} {rt : Option FieldType} {a : Array Value} {s : State} {m : MethodId} {meth : Method} {c : Code} (h1 : s.methodNamed? y = some m) (h2 : s.vm.method? m = some meth) (h3 : meth.code = some c) (h4 : c.code = bytes)
    (h5 : (c.maxLocals == mx && c.exceptionTable.isEmpty && decide (c.maxStack ≤ mostOperands) && decide (meth.sig.returnType = rt) && !meth.locks && decide (parseMethodDescriptor y.desc = some meth.sig)) = true) : (Jvm.Cond.code y bytes mx rt).before a s = true := by
  simp only [Bool.and_eq_true, beq_iff_eq, Bool.not_eq_true', decide_eq_true_eq] at h5
  obtain ⟨⟨⟨⟨⟨g1, g2⟩, g3⟩, g4⟩, g5⟩, g6⟩ := h5
  simp [Cond.before, Cond.holds, Cond.value, h1, h2, h3, h4, g1, g2, g3, g4, g5, g6]
def isCode : Jvm.Cond → Bool
  | .code _ _ _ _ => true
  | _ => false
theorem all_split {L : List Jvm.Cond} {P : Jvm.Cond → Bool} (h1 : L.all (fun c => isCode c || P c) = true) (h2 : ∀ c ∈ L.filter isCode, P c = true) : L.all P = true := by
  refine List.all_eq_true.mpr fun c hc => ?_
  have h := List.all_eq_true.mp h1 c hc
  rcases Bool.eq_false_or_eq_true (isCode c) with hi | hi
  · exact h2 c (List.mem_filter.mpr ⟨hc, hi⟩)
  · simpa [hi] using h
set_option maxRecDepth 65536 in
theorem w_c0 : (Jvm.Cond.code x code maxLocals ret).before args0 about1 = true := code_word (m := ⟨1, 1⟩) (meth := k1m1) (c := k1c1) (by decide +kernel) rfl rfl rfl (by decide +kernel)
set_option maxRecDepth 65536 in
theorem w_c1 : (Jvm.Cond.code ({ cls := "java/lang/String", name := "<init>", desc := "([C)V" } : Jvm.MethodName) jdk_42_method_3_code (2 : Nat) (Option.none : Option Jvm.ClassFile.FieldType)).before args0 about1 = true := code_word (m := ⟨9, 1⟩) (meth := k9m1) (c := k9c1) (by decide +kernel) rfl rfl rfl (by decide +kernel)
set_option maxRecDepth 65536 in
theorem w_c2 : (Jvm.Cond.code ({ cls := "java/lang/String", name := "<init>", desc := "([CIILjava/lang/Void;)V" } : Jvm.MethodName) jdk_42_method_149_code (6 : Nat) (Option.none : Option Jvm.ClassFile.FieldType)).before args0 about1 = true := code_word (m := ⟨9, 4⟩) (meth := k9m4) (c := k9c4) (by decide +kernel) rfl rfl rfl (by decide +kernel)
set_option maxRecDepth 65536 in
theorem w_c3 : (Jvm.Cond.code ({ cls := "java/lang/Object", name := "<init>", desc := "()V" } : Jvm.MethodName) object_method_1_code (1 : Nat) (Option.none : Option Jvm.ClassFile.FieldType)).before args0 about1 = true := code_word (m := ⟨0, 0⟩) (meth := k0m0) (c := k0c0) (by decide +kernel) rfl rfl rfl (by decide +kernel)
set_option maxRecDepth 65536 in
theorem w_c4 : (Jvm.Cond.code ({ cls := "java/lang/StringUTF16", name := "compress", desc := "([CII)[B" } : Jvm.MethodName) jdk_52_method_16_code (6 : Nat) (Option.some (Jvm.ClassFile.FieldType.array Jvm.ClassFile.FieldType.byte))).before args0 about1 = true := code_word (m := ⟨10, 2⟩) (meth := k10m2) (c := k10c2) (by decide +kernel) rfl rfl rfl (by decide +kernel)
set_option maxRecDepth 65536 in
theorem w_c5 : (Jvm.Cond.code ({ cls := "java/lang/StringUTF16", name := "compress", desc := "([CI[BII)I" } : Jvm.MethodName) jdk_52_method_21_code (7 : Nat) (Option.some Jvm.ClassFile.FieldType.int)).before args0 about1 = true := code_word (m := ⟨10, 3⟩) (meth := k10m3) (c := k10c3) (by decide +kernel) rfl rfl rfl (by decide +kernel)
set_option maxRecDepth 65536 in
theorem w_c6 : (Jvm.Cond.code ({ cls := "java/lang/StringUTF16", name := "coderFromArrayLen", desc := "([BI)B" } : Jvm.MethodName) jdk_52_method_15_code (2 : Nat) (Option.some Jvm.ClassFile.FieldType.byte)).before args0 about1 = true := code_word (m := ⟨10, 1⟩) (meth := k10m1) (c := k10c1) (by decide +kernel) rfl rfl rfl (by decide +kernel)
set_option maxRecDepth 65536 in
theorem w_c7 : (Jvm.Cond.code ({ cls := "com/example/provenir/provenir/TextEncoding", name := "encode", desc := "(Ljava/lang/String;)[B" } : Jvm.MethodName) prog_73_method_9_code (4 : Nat) (Option.some (Jvm.ClassFile.FieldType.array Jvm.ClassFile.FieldType.byte))).before args0 about1 = true := code_word (m := ⟨6, 0⟩) (meth := k6m0) (c := k6c0) (by decide +kernel) rfl rfl rfl (by decide +kernel)
set_option maxRecDepth 65536 in
theorem w_c8 : (Jvm.Cond.code ({ cls := "java/lang/String", name := "length", desc := "()I" } : Jvm.MethodName) jdk_42_method_54_code (1 : Nat) (Option.some Jvm.ClassFile.FieldType.int)).before args0 about1 = true := code_word (m := ⟨9, 2⟩) (meth := k9m2) (c := k9c2) (by decide +kernel) rfl rfl rfl (by decide +kernel)
set_option maxRecDepth 65536 in
theorem w_c9 : (Jvm.Cond.code ({ cls := "java/lang/String", name := "coder", desc := "()B" } : Jvm.MethodName) jdk_42_method_152_code (1 : Nat) (Option.some Jvm.ClassFile.FieldType.byte)).before args0 about1 = true := code_word (m := ⟨9, 5⟩) (meth := k9m5) (c := k9c5) (by decide +kernel) rfl rfl rfl (by decide +kernel)
set_option maxRecDepth 65536 in
theorem w_c10 : (Jvm.Cond.code ({ cls := "java/lang/String", name := "charAt", desc := "(I)C" } : Jvm.MethodName) jdk_42_method_56_code (2 : Nat) (Option.some Jvm.ClassFile.FieldType.char)).before args0 about1 = true := code_word (m := ⟨9, 3⟩) (meth := k9m3) (c := k9c3) (by decide +kernel) rfl rfl rfl (by decide +kernel)
set_option maxRecDepth 65536 in
theorem w_c11 : (Jvm.Cond.code ({ cls := "java/lang/String", name := "isLatin1", desc := "()Z" } : Jvm.MethodName) jdk_42_method_154_code (1 : Nat) (Option.some Jvm.ClassFile.FieldType.boolean)).before args0 about1 = true := code_word (m := ⟨9, 6⟩) (meth := k9m6) (c := k9c6) (by decide +kernel) rfl rfl rfl (by decide +kernel)
set_option maxRecDepth 65536 in
theorem w_c12 : (Jvm.Cond.code ({ cls := "java/lang/StringLatin1", name := "charAt", desc := "([BI)C" } : Jvm.MethodName) jdk_43_method_2_code (2 : Nat) (Option.some Jvm.ClassFile.FieldType.char)).before args0 about1 = true := code_word (m := ⟨11, 1⟩) (meth := k11m1) (c := k11c1) (by decide +kernel) rfl rfl rfl (by decide +kernel)
set_option maxRecDepth 65536 in
theorem w_c13 : (Jvm.Cond.code ({ cls := "java/lang/String", name := "checkIndex", desc := "(II)V" } : Jvm.MethodName) jdk_42_method_155_code (2 : Nat) (Option.none : Option Jvm.ClassFile.FieldType)).before args0 about1 = true := code_word (m := ⟨9, 7⟩) (meth := k9m7) (c := k9c7) (by decide +kernel) rfl rfl rfl (by decide +kernel)
set_option maxRecDepth 65536 in
theorem w_c14 : (Jvm.Cond.code ({ cls := "jdk/internal/util/Preconditions", name := "checkIndex", desc := "(IILjava/util/function/BiFunction;)I" } : Jvm.MethodName) jdk_41_method_11_code (3 : Nat) (Option.some Jvm.ClassFile.FieldType.int)).before args0 about1 = true := code_word (m := ⟨12, 1⟩) (meth := k12m1) (c := k12c1) (by decide +kernel) rfl rfl rfl (by decide +kernel)
set_option maxRecDepth 65536 in
theorem w_c15 : (Jvm.Cond.code ({ cls := "com/example/provenir/provenir/TextEncodingEncodePinLaw", name := "at", desc := "([BIIZ[C)Z" } : Jvm.MethodName) method_3_code (9 : Nat) (Option.some Jvm.ClassFile.FieldType.boolean)).before args0 about1 = true := code_word (m := ⟨1, 2⟩) (meth := k1m2) (c := k1c2) (by decide +kernel) rfl rfl rfl (by decide +kernel)
def codes1 : List Jvm.Cond := [Jvm.Cond.code x code maxLocals ret, Jvm.Cond.code ({ cls := "java/lang/String", name := "<init>", desc := "([C)V" } : Jvm.MethodName) jdk_42_method_3_code (2 : Nat) (Option.none : Option Jvm.ClassFile.FieldType), Jvm.Cond.code ({ cls := "java/lang/String", name := "<init>", desc := "([CIILjava/lang/Void;)V" } : Jvm.MethodName) jdk_42_method_149_code (6 : Nat) (Option.none : Option Jvm.ClassFile.FieldType), Jvm.Cond.code ({ cls := "java/lang/Object", name := "<init>", desc := "()V" } : Jvm.MethodName) object_method_1_code (1 : Nat) (Option.none : Option Jvm.ClassFile.FieldType), Jvm.Cond.code ({ cls := "java/lang/StringUTF16", name := "compress", desc := "([CII)[B" } : Jvm.MethodName) jdk_52_method_16_code (6 : Nat) (Option.some (Jvm.ClassFile.FieldType.array Jvm.ClassFile.FieldType.byte)), Jvm.Cond.code ({ cls := "java/lang/StringUTF16", name := "compress", desc := "([CI[BII)I" } : Jvm.MethodName) jdk_52_method_21_code (7 : Nat) (Option.some Jvm.ClassFile.FieldType.int), Jvm.Cond.code ({ cls := "java/lang/StringUTF16", name := "coderFromArrayLen", desc := "([BI)B" } : Jvm.MethodName) jdk_52_method_15_code (2 : Nat) (Option.some Jvm.ClassFile.FieldType.byte), Jvm.Cond.code ({ cls := "com/example/provenir/provenir/TextEncoding", name := "encode", desc := "(Ljava/lang/String;)[B" } : Jvm.MethodName) prog_73_method_9_code (4 : Nat) (Option.some (Jvm.ClassFile.FieldType.array Jvm.ClassFile.FieldType.byte)), Jvm.Cond.code ({ cls := "java/lang/String", name := "length", desc := "()I" } : Jvm.MethodName) jdk_42_method_54_code (1 : Nat) (Option.some Jvm.ClassFile.FieldType.int), Jvm.Cond.code ({ cls := "java/lang/String", name := "coder", desc := "()B" } : Jvm.MethodName) jdk_42_method_152_code (1 : Nat) (Option.some Jvm.ClassFile.FieldType.byte), Jvm.Cond.code ({ cls := "java/lang/String", name := "charAt", desc := "(I)C" } : Jvm.MethodName) jdk_42_method_56_code (2 : Nat) (Option.some Jvm.ClassFile.FieldType.char), Jvm.Cond.code ({ cls := "java/lang/String", name := "isLatin1", desc := "()Z" } : Jvm.MethodName) jdk_42_method_154_code (1 : Nat) (Option.some Jvm.ClassFile.FieldType.boolean), Jvm.Cond.code ({ cls := "java/lang/StringLatin1", name := "charAt", desc := "([BI)C" } : Jvm.MethodName) jdk_43_method_2_code (2 : Nat) (Option.some Jvm.ClassFile.FieldType.char), Jvm.Cond.code ({ cls := "java/lang/String", name := "checkIndex", desc := "(II)V" } : Jvm.MethodName) jdk_42_method_155_code (2 : Nat) (Option.none : Option Jvm.ClassFile.FieldType), Jvm.Cond.code ({ cls := "jdk/internal/util/Preconditions", name := "checkIndex", desc := "(IILjava/util/function/BiFunction;)I" } : Jvm.MethodName) jdk_41_method_11_code (3 : Nat) (Option.some Jvm.ClassFile.FieldType.int), Jvm.Cond.code ({ cls := "com/example/provenir/provenir/TextEncodingEncodePinLaw", name := "at", desc := "([BIIZ[C)Z" } : Jvm.MethodName) method_3_code (9 : Nat) (Option.some Jvm.ClassFile.FieldType.boolean)]
set_option maxRecDepth 65536 in
theorem codes_eq : words1.filter isCode = codes1 := rfl
theorem w_codes : ∀ c ∈ words1.filter isCode, c.before args0 about1 = true := by
  rw [codes_eq]
  intro c hc
  simp only [codes1, List.mem_cons, List.not_mem_nil, or_false] at hc
  rcases hc with rfl | rfl | rfl | rfl | rfl | rfl | rfl | rfl | rfl | rfl | rfl | rfl | rfl | rfl | rfl | rfl
  · exact w_c0
  · exact w_c1
  · exact w_c2
  · exact w_c3
  · exact w_c4
  · exact w_c5
  · exact w_c6
  · exact w_c7
  · exact w_c8
  · exact w_c9
  · exact w_c10
  · exact w_c11
  · exact w_c12
  · exact w_c13
  · exact w_c14
  · exact w_c15
set_option maxRecDepth 65536 in
theorem w_t1 : (words1.take 24).all (fun c => isCode c || c.before args0 about1) = true := by decide +kernel
set_option maxRecDepth 65536 in
theorem w_t2 : ((words1.drop 24).take 24).all (fun c => isCode c || c.before args0 about1) = true := by decide +kernel
set_option maxRecDepth 65536 in
theorem w_t3 : (((words1.drop 24).drop 24).take 24).all (fun c => isCode c || c.before args0 about1) = true := by decide +kernel
set_option maxRecDepth 65536 in
theorem w_t4 : (((words1.drop 24).drop 24).drop 24).all (fun c => isCode c || c.before args0 about1) = true := by decide +kernel
theorem w_tables : (allAtoms (Jvm.Cond.code x code maxLocals ret :: tables_1)).before args0 about1 = true := by
  rw [allAtoms_all]
  show words1.all (fun c => c.before args0 about1) = true
  refine all_split ?_ w_codes
  rw [← List.take_append_drop 24 words1, List.all_append, w_t1, ← List.take_append_drop 24 (words1.drop 24), List.all_append, w_t2, ← List.take_append_drop 24 ((words1.drop 24).drop 24), List.all_append, w_t3, w_t4]
  rfl
set_option maxRecDepth 65536 in
theorem w_rest : rest_1_c.before args0 about1 = true := by decide +kernel
set_option maxRecDepth 65536 in
theorem w_case : (Jvm.Cond.and given_1 narrow_1).before args0 about1 = true := by decide +kernel
set_option maxRecDepth 65536 in
theorem w_consts : constsHeld consts_1 about1 := Jvm.Lit.constsHeldB_iff.mp (by decide +kernel)
theorem w_applies : (headSpec (Jvm.Cond.code x code maxLocals ret :: tables_1) room_1).applies x e0.platform about1 = true :=
  (Spec.applies_iff w_frames).mpr ⟨w_running, w_runnable, w_alone, w_named, w_hears, w_ripe, w_room, w_tables⟩
theorem atStart : AtStart classFile x code maxLocals ret World_1 tables_1 room_1 Calls_1 rest_1 Pre_1 launch0 p0 e0 about1 theMethod args0 below0 :=
  ⟨lists_1, trivial, launch0.admits_env _ _ _, launch0.least_env, fairChoices_fair.cas, fairChoices_fair.clock, w_frames, w_args, w_heap, w_applies, ⟨w_consts, trivial⟩, w_rest, w_case⟩
end start1
theorem witness_1 : WitnessClaimed_1 := ⟨start1.p0, start1.e0, start1.about1, start1.theMethod, start1.args0, start1.below0, start1.atStart⟩
end Jvm.Pilot.@@N@@
