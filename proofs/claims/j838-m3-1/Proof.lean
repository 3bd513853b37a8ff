import JvmDerived
import JvmDerived.Pilot.@@N@@Statement
import JvmDerived.Pilot.@@N@@Code
set_option linter.unusedVariables false
set_option linter.unusedSimpArgs false
namespace Jvm.Pilot.@@N@@
open Jvm Jvm.ClassFile Sem Op Lib Jvm.Free Jvm.Stand Jvm.LawKit Jvm.RoadKit Bundle Jvm.Pilot.@@N@@.Jvm.D
section OwnKit
variable {p : Program} {l : Launch} {e : Env} {R : Room} {s : State} {m : MethodId} {args : Array Value} {below : List Frame} {meth : Method} {c : Code} {T : State} {locs : List Loc} {cells slots : Nat}
/-- from S the run comes to an end that Φ takes -/
def own_G (tb : Tables) (e : Env) (below : List Frame) (Φ : State → Outcome → Prop) (S : State) : Prop := ∃ t o, Steps tb e below S t ∧ t.status = .running ∧ Ended t below o ∧ Φ t o
def own_E (s : State) (Q : Option Value → Heap → List Loc → Prop) (kc ks : Nat) : State → Outcome → Prop := fun t o => ∃ v L, o = .returned v ∧ Q v t.heap L ∧ FrameEnd s o t L kc ks
theorem own_st {tb : Tables} {Φ : State → Outcome → Prop} {S S' : State} (h : ∀ t, Steps tb e below S' t → Steps tb e below S t) (g : own_G tb e below Φ S') : own_G tb e below Φ S := by
  obtain ⟨t, o, a, b⟩ := g
  exact ⟨t, o, h t a, b⟩
theorem own_tr {tb : Tables} {Φ : State → Outcome → Prop} {S S' : State} (h : Steps tb e below S S') (g : own_G tb e below Φ S') : own_G tb e below Φ S := by
  obtain ⟨t, o, a, b⟩ := g
  exact ⟨t, o, h.trans a, b⟩
theorem own_in {s₁ : State} (kc ks : Nat) (Q : Option Value → Heap → List Loc → Prop) {mL : Nat} {g : JFrame} (ef : entryFrame m args mL = g) (k : own_G p.tables e below (own_E s Q kc ks) (s₁.setTop g)) :
    ∃ s₂ o, Steps p.tables e below (s₁.setTop (entryFrame m args mL)) s₂ ∧ s₂.status = .running ∧ Ended s₂ below o ∧ ∃ v L, o = .returned v ∧ Q v s₂.heap L ∧ FrameEnd s o s₂ L kc ks := by
  rw [ef]
  exact k
theorem own_retI0 (X : Stand p l e R s m args below meth c T locs cells slots) (hx : p.tables.exec = Jvm.exec) {pc : Nat} {Ls : Array Slot} {z : Int32} {rest : List Value} (hret : meth.sig.returnType = some .int) (hd : decode c.code pc = .ok (.ireturn, 1)) {fs : List Frame}
    (hl : ∀ (f : JFrame) (acts : List Action), f.method = m → f.locked = none → f.entered = [] → (doReturn e (T.setTop f) acts (some (.int z))).1 = T.setFrames fs) : Steps p.tables e below (T.setTop (mkF m pc Ls (.int z :: rest))) (T.setFrames fs) :=
  retOut X hx hret rfl (Or.inl ⟨rfl, Or.inl rfl, z, rfl⟩) hd hl
theorem own_retI (X : Stand p l e R s m args below meth c T locs cells slots) (hx : p.tables.exec = Jvm.exec) (hlk : meth.locks = false) {pc : Nat} {Ls : Array Slot} {z : Int32} {rest : List Value} (hret : meth.sig.returnType = some .int) (hd : decode c.code pc = .ok (.ireturn, 1))
    {Q : Option Value → Heap → List Loc → Prop} {kc ks : Nat} (hc : cells ≤ kc) (hs : slots ≤ ks) (q : Q (some (.int z)) T.heap locs) : own_G p.tables e below (own_E s Q kc ks) (T.setTop (mkF m pc Ls (.int z :: rest))) := by
  obtain ⟨fs, hr, hrun, hended, hW, hsame⟩ := X.leave (v := some (.int z)) (fun h => by rw [hret] at h; cases h)
  exact ⟨_, _, own_retI0 X hx hret hd hr, hrun, hended, _, _, rfl, q, ⟨_, rfl⟩, hW, hsame.mono hc hs⟩
theorem own_retN (X : Stand p l e R s m args below meth c T locs cells slots) (hx : p.tables.exec = Jvm.exec) (hlk : meth.locks = false) {pc : Nat} {Ls : Array Slot} {z : Int32} {t : FieldType} {rest : List Value} (hret : meth.sig.returnType = some t) (ht : t = .boolean ∨ t = .byte ∨ t = .char ∨ t = .short) (hd : decode c.code pc = .ok (.ireturn, 1))
    {Q : Option Value → Heap → List Loc → Prop} {kc ks : Nat} (hc : cells ≤ kc) (hs : slots ≤ ks) {v' : Int32} (hv : nar t z = v') (q : Q (some (.int v')) T.heap locs) : own_G p.tables e below (own_E s Q kc ks) (T.setTop (mkF m pc Ls (.int z :: rest))) := by
  subst hv
  obtain ⟨fs, hr, hrun, hended, hW, hsame⟩ := X.leave (v := some (.int (nar t z))) (fun h => by rw [hret] at h; cases h)
  exact ⟨_, _, retN X hx hret ht hd hr, hrun, hended, _, _, rfl, q, ⟨_, rfl⟩, hW, hsame.mono hc hs⟩
theorem own_retA (X : Stand p l e R s m args below meth c T locs cells slots) (hx : p.tables.exec = Jvm.exec) (hlk : meth.locks = false) {pc : Nat} {Ls : Array Slot} {w : Value} {t : FieldType} {rest : List Value} (hret : meth.sig.returnType = some t) (ht : t.isReference = true) (hw : w.isRef = true) (hd : decode c.code pc = .ok (.areturn, 1))
    {Q : Option Value → Heap → List Loc → Prop} {kc ks : Nat} (hc : cells ≤ kc) (hs : slots ≤ ks) (q : Q (some w) T.heap locs) : own_G p.tables e below (own_E s Q kc ks) (T.setTop (mkF m pc Ls (w :: rest))) := by
  obtain ⟨fs, hr, hrun, hended, hW, hsame⟩ := X.leave (v := some w) (fun h => by rw [hret] at h; cases h)
  have hn : narrow t w = w := by rcases ref_cases hw with rfl | ⟨a, rfl⟩ <;> cases t <;> rfl
  exact ⟨_, _, retOut X hx hret hn (Or.inr (Or.inr (Or.inr (Or.inr ⟨rfl, ht, hw⟩)))) hd hr, hrun, hended, _, _, rfl, q, ⟨_, rfl⟩, hW, hsame.mono hc hs⟩
theorem own_retJ (X : Stand p l e R s m args below meth c T locs cells slots) (hx : p.tables.exec = Jvm.exec) (hlk : meth.locks = false) {pc : Nat} {Ls : Array Slot} {z : Int64} {rest : List Value} (hret : meth.sig.returnType = some .long) (hd : decode c.code pc = .ok (.lreturn, 1))
    {Q : Option Value → Heap → List Loc → Prop} {kc ks : Nat} (hc : cells ≤ kc) (hs : slots ≤ ks) (q : Q (some (.long z)) T.heap locs) : own_G p.tables e below (own_E s Q kc ks) (T.setTop (mkF m pc Ls (.long z :: rest))) := by
  obtain ⟨fs, hr, hrun, hended, hW, hsame⟩ := X.leave (v := some (.long z)) (fun h => by rw [hret] at h; cases h)
  exact ⟨_, _, retOut X hx hret rfl (Or.inr (Or.inl ⟨rfl, rfl, z, rfl⟩)) hd hr, hrun, hended, _, _, rfl, q, ⟨_, rfl⟩, hW, hsame.mono hc hs⟩
theorem own_retV (X : Stand p l e R s m args below meth c T locs cells slots) (hx : p.tables.exec = Jvm.exec) (hlk : meth.locks = false) {pc : Nat} {Ls : Array Slot} (hret : meth.sig.returnType = none) (hd : decode c.code pc = .ok (.return_, 1))
    {Q : Option Value → Heap → List Loc → Prop} {kc ks : Nat} (hc : cells ≤ kc) (hs : slots ≤ ks) (q : Q none T.heap locs) : own_G p.tables e below (own_E s Q kc ks) (T.setTop (mkF m pc Ls [])) := by
  obtain ⟨fs, hr, hrun, hended, hW, hsame⟩ := X.leave (v := none) (fun _ => rfl)
  exact ⟨_, _, X.returnOut hx hret hd hr, hrun, hended, _, _, rfl, q, ⟨_, rfl⟩, hW, hsame.mono hc hs⟩
end OwnKit
theorem own_w {a0 : Array Value} {Z : State} (hw : ∀ d ∈ tables_1, d.before a0 Z = true) (i : Nat) {d : Jvm.Cond} (h : tables_1[i]? = some d) : d.before a0 Z = true := hw d (List.mem_of_getElem? h)
theorem own_cat {v : Value} (h : v.isRef = true) : v.category = 1 := by cases v <;> first | rfl | (simp [Value.isRef] at h)
theorem own_i32 {a b : Int32} (h : a.toInt = b.toInt) : a = b := Int32.toInt_inj.mp h
theorem own_i64 {a b : Int64} (h : a.toInt = b.toInt) : a = b := Int64.toInt_inj.mp h
/-- (x & 0x7fffffff) % d lies from 0 to d - 1 -/
theorem own_mod (x y : Int32) (d : Int) (hy : y.toInt = d) (hd : 0 < d) : 0 ≤ ((x &&& 2147483647) % y).toInt ∧ ((x &&& 2147483647) % y).toInt < d ∧ ((x &&& 2147483647) % y).toInt = (x.toInt % 2147483648) % d := by
  have h1 := c_mask x 2147483647 31 (by decide) (by decide)
  have h2 := (c_irem (x &&& 2147483647) y d hy).1 (by rw [h1]; omega)
  rw [h2, h1]
  refine ⟨Int.emod_nonneg _ (by omega), Int.emod_lt_of_pos _ hd, rfl⟩
abbrev vi (x : Int32) : Slot := .val (.int x)
abbrev vr (x : Addr) : Slot := .val (.ref x)
abbrev gs {tb : Tables} {e : Env} {below : List Frame} {Φ : State → Outcome → Prop} (T : State) (m : MethodId) (pc : Nat) (L : Array Slot) (S : List Value) : Prop := own_G tb e below Φ (T.setTop (mkF m pc L S))
abbrev own_M (l : Launch) (y : MethodName) (code : ByteArray) (ml : Nat) (rt : Option FieldType) (ws : List Jvm.Cond) (R : Room) (Z : State) (A : Array Value) (h0 : Heap) (Q : Option Value → Heap → List Loc → Prop) : Prop :=
  MetFree l y (head1 (Jvm.Cond.code y code ml rt :: ws) R) (fun a U => a = A ∧ Z.Warmed39 U.vm ∧ U.heap = h0) (fun _ _ _ _ _ => True) (fun _ U o U' => ∃ v L, o = .returned v ∧ Q v U'.heap L ∧ FrameEnd U o U' L R.cells R.slots)
theorem own_go {l : Launch} {y : MethodName} {code : ByteArray} {ml : Nat} {rt : Option FieldType} {ws : List Jvm.Cond} {R : Room} {Z : State} {A : Array Value} {h0 : Heap} {Q : Option Value → Heap → List Loc → Prop} (own : String) (ho : y.cls = own) (hp : plainFor y = true) {L : Array Slot} (hef : ∀ m, entryFrame m A ml = mkF m 0 L [])
    (H : ∀ (p : Program) (e : Env) (s : State) (m : MethodId) (below : List Frame) (meth : Method) (c : Code) (s₁ : State), p.tables.exec = Jvm.exec → c.code = code → c.maxLocals = ml → s.vm.findClass own = some m.cls → meth.name = y.name → meth.locks = false → meth.sig.returnType = rt → Z.Warmed39 s.vm → Stand p l e R s m A below meth c s₁ [] 0 0 → s₁.heap = h0 → own_G p.tables e below (own_E s Q R.cells R.slots) (s₁.setTop (mkF m 0 L []))) :
    own_M l y code ml rt ws R Z A h0 Q := by
  refine MetFree.of_bodySF hp hisR ?_
  intro p e s m args below meth c s₁ Bd hml0 hP hK
  obtain ⟨rfl, hZ, hh⟩ := hP
  subst ho
  exact own_in _ _ _ (hef m) (H p e s m below meth c s₁ Bd.exec Bd.bytes hml0 (findClass_of_methodNamed Bd.named) (name_of_methodNamed Bd.named Bd.method).1 Bd.notSynchronized Bd.returns hZ (Stand.of_body Bd) (by rw [← hh, Bd.state]; rfl))
section OwnOps
variable {p : Program} {l : Launch} {e : Env} {R : Room} {s : State} {m : MethodId} {args : Array Value} {below : List Frame} {meth : Method} {c : Code} {T : State} {locs : List Loc} {cells slots : Nat} {Φ : State → Outcome → Prop} {B : ByteArray} {pc : Nat} {L : Array Slot} {S : List Value}
theorem oaloadN (X : Stand p l e R s m args below meth c T locs cells slots) (hx : p.tables.exec = Jvm.exec) (hby : c.code = B) {k : Fin 4} {v : Value} (hd : decode B pc = .ok (.aload_n k, 1)) (hl : L[k.val]? = some (.val v)) (hv : v.isRef = true) (G : gs (tb := p.tables) (e := e) (below := below) (Φ := Φ) T m (pc + 1) L (v :: S)) : gs (tb := p.tables) (e := e) (below := below) (Φ := Φ) T m pc L S := own_st (fun _ kS => XS.aloadN X.here hx rfl (hb hby hd) hl hv kS) G
theorem oiloadN (X : Stand p l e R s m args below meth c T locs cells slots) (hx : p.tables.exec = Jvm.exec) (hby : c.code = B) {k : Fin 4} {v : Int32} (hd : decode B pc = .ok (.iload_n k, 1)) (hl : L[k.val]? = some (.val (.int v))) (G : gs (tb := p.tables) (e := e) (below := below) (Φ := Φ) T m (pc + 1) L (.int v :: S)) : gs (tb := p.tables) (e := e) (below := below) (Φ := Φ) T m pc L S := own_st (fun _ kS => XS.iloadN X.here hx rfl (hb hby hd) hl kS) G
theorem oaload (X : Stand p l e R s m args below meth c T locs cells slots) (hx : p.tables.exec = Jvm.exec) (hby : c.code = B) {k : Nat} {v : Value} (hd : decode B pc = .ok (.aload k, 2)) (hl : L[k]? = some (.val v)) (hv : v.isRef = true) (G : gs (tb := p.tables) (e := e) (below := below) (Φ := Φ) T m (pc + 2) L (v :: S)) : gs (tb := p.tables) (e := e) (below := below) (Φ := Φ) T m pc L S := own_st (fun _ kS => XS.aload X.here hx rfl (hb hby hd) hl hv kS) G
theorem oiload (X : Stand p l e R s m args below meth c T locs cells slots) (hx : p.tables.exec = Jvm.exec) (hby : c.code = B) {k : Nat} {v : Int32} (hd : decode B pc = .ok (.iload k, 2)) (hl : L[k]? = some (.val (.int v))) (G : gs (tb := p.tables) (e := e) (below := below) (Φ := Φ) T m (pc + 2) L (.int v :: S)) : gs (tb := p.tables) (e := e) (below := below) (Φ := Φ) T m pc L S := own_st (fun _ kS => XS.iload X.here hx rfl (hb hby hd) hl kS) G
theorem oiconst (X : Stand p l e R s m args below meth c T locs cells slots) (hx : p.tables.exec = Jvm.exec) (hby : c.code = B) {i : Int} (hd : decode B pc = .ok (.iconst i, 1))  (G : gs (tb := p.tables) (e := e) (below := below) (Φ := Φ) T m (pc + 1) L (.int (Int32.ofInt i) :: S)) : gs (tb := p.tables) (e := e) (below := below) (Φ := Φ) T m pc L S := own_st (fun _ kS => XS.iconst X.here hx rfl (hb hby hd)  kS) G
theorem oV {y : MethodName} {own C : String} {index : Nat} (W : Nat) {bytes : ByteArray} {maxL : Nat} {ret : Option FieldType} {rm : Room} {b : Addr} {argsL rest : List Value} {h : Heap} {Q : Option Value → Heap → List Loc → Prop} {ps : List FieldType} {r : Option FieldType} {Z : State} {a0 : Array Value}
    (X : Stand p l e R s m args below meth c T locs cells slots) (hx : p.tables.exec = Jvm.exec) (hZ : Z.Warmed39 s.vm) (hby : c.code = B) (hml : c.maxLocals = L.size) (hown : s.vm.findClass own = some m.cls)
    (w1 : (Cond.methodLink own index y).before a0 Z = true) (w2 : (Cond.declares y).before a0 Z = true) (w3 : (Cond.selects C y y).before a0 Z = true) (w4 : (Cond.instanceMethod y).before a0 Z = true)
    (hM : own_M l y bytes maxL ret [] rm Z (.ref b :: argsL).toArray h Q) (wc : (Cond.code y bytes maxL ret).before a0 Z = true) (wz : (Cond.initialized y.cls).before a0 Z = true) (eT : T.heap = h) (hE : Exa Z h b C)
    (hn : (y.cls ≠ "java/lang/invoke/MethodHandle" ∧ y.cls ≠ "java/lang/invoke/VarHandle") ∧ rm.frames + 1 ≤ R.frames ∧ W + (maxL + 11) + rm.locals ≤ R.locals ∧ cells + rm.cells ≤ R.cells ∧ slots + rm.slots ≤ R.slots)
    (pd : parseMethodDescriptor y.desc = some ⟨ps, r⟩) (hd : decode B pc = .ok (.invokevirtual index, 3)) (hl : argsL.length = ps.length) (hs : S = argsL.reverse ++ .ref b :: rest) (hW : (rest.map fun v => v.category).sum = W)
    (K : ∀ (T' : State) (L' : List Loc) (v : Option Value), Stand p l e R s m args below meth c T' (locs ++ L') (cells + rm.cells) (slots + rm.slots) → Q v T'.heap L' → own_G p.tables e below Φ (T'.setTop (mkF m (pc + 3) L (v.toList ++ rest)))) :
    gs (tb := p.tables) (e := e) (below := below) (Φ := Φ) T m pc L S := by
  subst hs
  obtain ⟨cq, kq, qa, qb, qc⟩ := isOf hZ eT hE
  obtain ⟨v, _, ⟨T', L', k', n'⟩, -, X', ⟨Lc, hQ, hl', hy', hz'⟩, st⟩ := X.virtualBack hx hown (mvT hZ w1) (mvT hZ w2) (notFace_of_selects (args := #[]) (mvT hZ w3)) (mvT hZ w3) (mvT hZ w4) hn.1 (backOf (W := W) hM hZ wc wz hn.2.1 hn.2.2.1) qa qc (g := mkF m pc L (argsL.reverse ++ .ref b :: rest)) rfl hml.symm (Steps.refl _) (argsL := argsL) (rest := rest) (lenOf pd hl) rfl (by show 2 * 0 + _ ≤ _; omega) (hb hby hd) (fun _ _ => ⟨rfl, eT, hn.2.2.2.1, hn.2.2.2.2⟩)
  dsimp only [Pt.U, Pt.locs, Pt.cells, Pt.slots] at X' hl' hy' hz' st hQ
  subst hl' hy' hz'
  exact own_tr st (K T' Lc v X' hQ)
theorem oN {y : MethodName} {own : String} {index : Nat} (W : Nat) {bytes : ByteArray} {maxL : Nat} {rm : Room} {b : Addr} {argsL rest : List Value} {h : Heap} {Q : Option Value → Heap → List Loc → Prop} {ps : List FieldType} {r : Option FieldType} {Z : State} {a0 : Array Value}
    (X : Stand p l e R s m args below meth c T locs cells slots) (hx : p.tables.exec = Jvm.exec) (hZ : Z.Warmed39 s.vm) (hby : c.code = B) (hml : c.maxLocals = L.size) (hown : s.vm.findClass own = some m.cls)
    (w1 : (Cond.methodLink own index y).before a0 Z = true) (w4 : (Cond.instanceMethod y).before a0 Z = true) (wz : (Cond.initialized y.cls).before a0 Z = true) (wc : (Cond.code y bytes maxL none).before a0 Z = true)
    (hM : own_M l y bytes maxL none [] rm Z (.ref b :: argsL).toArray h Q) (eT : T.heap = h) (hy1 : y.name = "<init>")
    (hn : (y.cls ≠ "java/lang/invoke/MethodHandle" ∧ y.cls ≠ "java/lang/invoke/VarHandle") ∧ rm.frames + 1 ≤ R.frames ∧ W + (maxL + 11) + rm.locals ≤ R.locals ∧ cells + rm.cells ≤ R.cells ∧ slots + rm.slots ≤ R.slots)
    (pd : parseMethodDescriptor y.desc = some ⟨ps, r⟩) (hd : decode B pc = .ok (.invokespecial index, 3)) (hl : argsL.length = ps.length) (hs : S = argsL.reverse ++ .ref b :: rest) (hW : (rest.map fun v => v.category).sum = W)
    (K : ∀ (T' : State) (L' : List Loc) (v : Option Value), Stand p l e R s m args below meth c T' (locs ++ L') (cells + rm.cells) (slots + rm.slots) → Q v T'.heap L' → own_G p.tables e below Φ (T'.setTop (mkF m (pc + 3) L (v.toList ++ rest)))) :
    gs (tb := p.tables) (e := e) (below := below) (Φ := Φ) T m pc L S := by
  subst hs
  obtain ⟨v, _, ⟨T', L', k', n'⟩, -, X', ⟨Lc, hQ, hl', hy', hz'⟩, st⟩ := X.specialBack hx hy1 hown (mvT hZ w1) (mvT hZ w4) (mvT hZ wc) hn.1 (backOf (W := W) hM hZ wc wz hn.2.1 hn.2.2.1) (g := mkF m pc L (argsL.reverse ++ .ref b :: rest)) rfl hml.symm (Steps.refl _) (a := b) (argsL := argsL) (rest := rest) (lenOf pd hl) rfl (by show 2 * 0 + _ ≤ _; omega) (hb hby hd) (fun _ _ => ⟨rfl, eT, hn.2.2.2.1, hn.2.2.2.2⟩)
  dsimp only [Pt.U, Pt.locs, Pt.cells, Pt.slots] at X' hl' hy' hz' st hQ
  subst hl' hy' hz'
  exact own_tr st (K T' Lc v X' hQ)
theorem oS {y : MethodName} {own : String} {index : Nat} (W : Nat) {bytes : ByteArray} {maxL : Nat} {ret : Option FieldType} {rm : Room} {argsL rest : List Value} {h : Heap} {Q : Option Value → Heap → List Loc → Prop} {ps : List FieldType} {r : Option FieldType} {Z : State} {a0 : Array Value}
    (X : Stand p l e R s m args below meth c T locs cells slots) (hx : p.tables.exec = Jvm.exec) (hZ : Z.Warmed39 s.vm) (hby : c.code = B) (hml : c.maxLocals = L.size) (hown : s.vm.findClass own = some m.cls)
    (w1 : (Cond.methodLink own index y).before a0 Z = true) (w2 : (Cond.static y).before a0 Z = true) (wz : (Cond.initialized y.cls).before a0 Z = true) (wc : (Cond.code y bytes maxL ret).before a0 Z = true)
    (hM : own_M l y bytes maxL ret [] rm Z argsL.toArray h Q) (eT : T.heap = h)
    (hn : (y.cls ≠ "java/lang/invoke/MethodHandle" ∧ y.cls ≠ "java/lang/invoke/VarHandle") ∧ rm.frames + 1 ≤ R.frames ∧ W + (maxL + 11) + rm.locals ≤ R.locals ∧ cells + rm.cells ≤ R.cells ∧ slots + rm.slots ≤ R.slots)
    (pd : parseMethodDescriptor y.desc = some ⟨ps, r⟩) (hd : decode B pc = .ok (.invokestatic index, 3)) (hl : argsL.length = ps.length) (hs : S = argsL.reverse ++ rest) (hW : (rest.map fun v => v.category).sum = W)
    (K : ∀ (T' : State) (L' : List Loc) (v : Option Value), Stand p l e R s m args below meth c T' (locs ++ L') (cells + rm.cells) (slots + rm.slots) → Q v T'.heap L' → own_G p.tables e below Φ (T'.setTop (mkF m (pc + 3) L (v.toList ++ rest)))) :
    gs (tb := p.tables) (e := e) (below := below) (Φ := Φ) T m pc L S := by
  subst hs
  obtain ⟨v, _, ⟨T', L', k', n'⟩, -, X', ⟨Lc, hQ, hl', hy', hz'⟩, st⟩ := Jvm.LawKit.callS X hx hown (mvT hZ w1) (mvT hZ w2) (mvT hZ wz) (mvT hZ wc) hn.1 (backOf (W := W) hM hZ wc wz hn.2.1 hn.2.2.1) (g := mkF m pc L (argsL.reverse ++ rest)) rfl hml.symm (argsL := argsL) (rest := rest) (lenOf pd hl) rfl (by show 2 * 0 + _ ≤ _; omega) (hb hby hd) (fun _ _ => ⟨rfl, eT, hn.2.2.2.1, hn.2.2.2.2⟩)
  dsimp only [Pt.U, Pt.locs, Pt.cells, Pt.slots] at X' hl' hy' hz' st hQ
  subst hl' hy' hz'
  exact own_st st (K T' Lc v X' hQ)
end OwnOps
theorem own_face {s : State} {args : Array Value} {C : String} {y0 z y : MethodName} (ws : (Jvm.Cond.selects C y0 z).before args s = true) (hc : z.cls = y.cls) : ∀ c, s.vm.findClass y.cls = some c → ∃ k, s.vm.classes[c]? = some k ∧ k.isInterface = false := by
  intro c h1
  obtain ⟨c2, r2, m2, -, -, q3, -, kP, hkP, hkPi⟩ := Cond.selects_spec ws
  have h2 := findClass_of_methodNamed q3
  rw [hc, h1] at h2
  cases h2
  exact ⟨kP, hkP, hkPi⟩
theorem own_nf {s : State} {args : Array Value} {C : String} {y0 z y : MethodName} (ws : (Jvm.Cond.selects C y0 z).before args s = true) (hc : z.cls = y.cls) : NotFace s y := fun _ h0 => own_face ws hc _ (findClass_of_methodNamed h0)
theorem own_selp2 {s : State} {args : Array Value} {C : String} {y : MethodName} (ws : (Jvm.Cond.selects C y y).before args s = true) (hp : s.PrivateAt y) (hi : (Jvm.Cond.instanceMethod y).before args s = true) (hy : y.cls ≠ "java/lang/invoke/MethodHandle" ∧ y.cls ≠ "java/lang/invoke/VarHandle") : (Jvm.Cond.selects y.cls y y).before args s = true := by
  obtain ⟨mk, methM, hnamed, -⟩ := Cond.instanceMethod_spec hi
  obtain ⟨k, hk, hni⟩ := own_face (y := y) ws rfl _ (findClass_of_methodNamed hnamed)
  exact selects_self_of_private (findClass_of_methodNamed hnamed) hk hni hp hi hy
theorem own_same {s : State} {args : Array Value} {C : String} {y0 z y : MethodName} (ws : (Jvm.Cond.selects C y0 z).before args s = true) (hc : z.cls = y.cls) (hi : (Jvm.Cond.instanceMethod y).before args s = true) (hy : y.cls ≠ "java/lang/invoke/MethodHandle" ∧ y.cls ≠ "java/lang/invoke/VarHandle") : (Jvm.Cond.sameMethod y.cls y.cls y.name y.desc).before args s = true := by
  obtain ⟨mk, methM, hnamed, -⟩ := Cond.instanceMethod_spec hi
  have h1 := findClass_of_methodNamed hnamed
  obtain ⟨k, hk, hni⟩ := own_face (y := y) ws hc _ h1
  have hf := State.methodFound?_of_named hnamed hy
  have hn : s.methodNamed? ⟨y.cls, y.name, y.desc⟩ = some mk := hnamed
  simp [Cond.before, Cond.holds, Cond.value, h1, hf, hn, hk, hni]
theorem own_inb0 {x : Int32} {d : Int} (h : 0 ≤ x.toInt ∧ x.toInt < d) (hd : d ≤ 8) : ¬ x < 0 ∧ x < (8 : Int32) := by
  have e0 : (0 : Int32).toInt = 0 := by decide
  have e8 : (8 : Int32).toInt = 8 := by decide
  rw [Int32.lt_iff_toInt_lt, Int32.lt_iff_toInt_lt, e0, e8]
  omega
theorem own_inb {x : Int32} {d : Int} (h : 0 ≤ x.toInt ∧ x.toInt < d) (c : Int32) (hc : 0 ≤ c.toInt ∧ d + c.toInt ≤ 8) : ¬ (x + c) < 0 ∧ (x + c) < (8 : Int32) := by
  have h1 := c_iadd x c
  have h2 := rng32 (x + c)
  have e0 : (0 : Int32).toInt = 0 := by decide
  have e8 : (8 : Int32).toInt = 8 := by decide
  rw [Int32.lt_iff_toInt_lt, Int32.lt_iff_toInt_lt, e0, e8]
  omega
theorem own_ixL (x w i o : Int32) (h : w.toInt - 1 - i.toInt = o.toInt) (hw : 0 ≤ w.toInt ∧ w.toInt < 100) (hi : 0 ≤ i.toInt ∧ i.toInt < 100) : ((x + w) - 1) - i = x + o := by
  have h1 := c_iadd x w
  have h2 := c_isub (x + w) 1
  have h3 := c_isub ((x + w) - 1) i
  have h4 := c_iadd x o
  have r1 := rng32 (((x + w) - 1) - i)
  have r2 := rng32 (x + o)
  have e1 : (1 : Int32).toInt = 1 := by decide
  refine own_i32 ?_
  omega
theorem own_add0 (x : Int32) : x + 0 = x := by
  have h1 := c_iadd x 0
  have r1 := rng32 (x + 0)
  have r2 := rng32 x
  have e1 : (0 : Int32).toInt = 0 := by decide
  refine own_i32 ?_
  omega
theorem own_subx (x c : Int32) : (x + c) - x = c := by
  have h1 := c_iadd x c
  have h2 := c_isub (x + c) x
  have r1 := rng32 ((x + c) - x)
  have r2 := rng32 c
  refine own_i32 ?_
  omega
theorem own_sub0 (x : Int32) : x - x = (0 : Int32) := by
  have h2 := c_isub x x
  have r1 := rng32 (x - x)
  have e1 : (0 : Int32).toInt = 0 := by decide
  refine own_i32 ?_
  omega
theorem own_addc (x a b o : Int32) (h : a.toInt + b.toInt = o.toInt) : (x + a) + b = x + o := by
  have h1 := c_iadd x a
  have h2 := c_iadd (x + a) b
  have h3 := c_iadd x o
  have r1 := rng32 ((x + a) + b)
  have r2 := rng32 (x + o)
  refine own_i32 ?_
  omega
theorem own_lt0 {x : Int32} {d : Int} (h : 0 ≤ x.toInt ∧ x.toInt < d) (c : Int32) (hc : 0 < c.toInt ∧ d + c.toInt ≤ 100) : x < x + c := by
  have h1 := c_iadd x c
  have h2 := rng32 (x + c)
  rw [Int32.lt_iff_toInt_lt]
  omega
theorem own_ltc {x : Int32} {d : Int} (h : 0 ≤ x.toInt ∧ x.toInt < d) (a c : Int32) (hc : 0 ≤ a.toInt ∧ a.toInt < c.toInt ∧ d + c.toInt ≤ 100) : x + a < x + c := by
  have h1 := c_iadd x c
  have h2 := rng32 (x + c)
  have h3 := c_iadd x a
  have h4 := rng32 (x + a)
  rw [Int32.lt_iff_toInt_lt]
  omega
theorem own_b1 {x : Int32} {d d' : Int} (h : 0 ≤ x.toInt ∧ x.toInt < d) (hd : d ≤ d') : 0 ≤ x.toInt ∧ x.toInt < d' := ⟨h.1, by omega⟩
theorem own_b2 {x : Int32} {d d' : Int} (h : 0 ≤ x.toInt ∧ x.toInt < d) (c : Int32) (hc : 0 ≤ c.toInt ∧ c.toInt ≤ 100 ∧ d ≤ 100) (hd : d + c.toInt ≤ d') : 0 ≤ (x + c).toInt ∧ (x + c).toInt < d' := by
  have h1 := c_iadd x c
  have h2 := rng32 (x + c)
  omega
theorem own_tab {Z : State} {h : Heap} {a : Addr} {k : ClassId} {ty : FieldType} {z : Int32} {vs : List Value} {d : Int32} (F : Arv Z h a k ty z vs (.int d)) (hv : ∀ i, ∃ x, vs.getD i (.int d) = .int x) : ∃ c, Tab Z h a c ty z := by
  obtain ⟨c, A, -, S, M, H, -⟩ := F
  refine ⟨c, A, S, M, fun j hj => ?_⟩
  obtain ⟨x, hx⟩ := hv j.toNatClampNeg
  have e := (H j.toNatClampNeg (Nat.lt_of_not_le fun q => hj (Or.inr q))).trans (congrArg some hx)
  rw [atv_of e]
  exact e
theorem own_tabk {Z : State} {h h' : Heap} {a : Addr} {c : Cell} {ty : FieldType} {z : Int32} {ws : List Addr} (F : Tab Z h a c ty z) (K : Keep h h' ws) (q : a ∉ ws) : Tab Z h' a c ty z := ⟨⟨K.2.1 a c F.1.1 q, F.1.2⟩, F.2⟩
def own_chr (u : Int32) : Int32 := if u < (0 : Int32) then (65533 : Int32) else if (65535 : Int32) < u then (65533 : Int32) else (u.toUInt32.toUInt16.toUInt32.toInt32)
def own_lat (y : Int32) : Int32 := nar .char ((y &&& (255 : Int32)).toUInt32.toUInt16.toUInt32.toInt32)
def own_u16 (y z : Int32) : Int32 := nar .char ((((y &&& (255 : Int32)) <<< ((0 : Int32) &&& 31)) ||| ((z &&& (255 : Int32)) <<< ((8 : Int32) &&& 31))).toUInt32.toUInt16.toUInt32.toInt32)
theorem own_nn (x : Int32) : nar .char (nar .char x) = nar .char x := by
  have h1 := c_i2c x
  have h2 := c_i2c (x.toUInt32.toUInt16.toUInt32.toInt32)
  refine own_i32 ?_
  show ((x.toUInt32.toUInt16.toUInt32.toInt32).toUInt32.toUInt16.toUInt32.toInt32).toInt = (x.toUInt32.toUInt16.toUInt32.toInt32).toInt
  omega
theorem own_nlat (y : Int32) : nar .char (own_lat y) = own_lat y := own_nn _
theorem own_nu16 (y z : Int32) : nar .char (own_u16 y z) = own_u16 y z := own_nn _
theorem own_chr_rng (u : Int32) : 0 ≤ (own_chr u).toInt ∧ (own_chr u).toInt < 65536 := by
  have h1 := c_i2c u
  have e1 : (65533 : Int32).toInt = 65533 := by decide
  unfold own_chr
  split
  · omega
  · split
    · omega
    · exact h1.2
/-- the number that (x & 255) is, and what (byte) leaves of it -/
theorem own_m255 (x : Int32) : (x &&& (255 : Int32)).toInt = x.toInt % 256 := c_mask x 255 8 (by decide) (by decide)
theorem own_narb (x : Int32) : ((nar .byte x.toInt8.toInt32).toInt - x.toInt) % 256 = 0 := by
  have h1 := c_i2b x
  have h2 := c_i2b x.toInt8.toInt32
  show ((x.toInt8.toInt32).toInt8.toInt32.toInt - x.toInt) % 256 = 0
  omega
theorem own_fL (u : Int32) (h : ¬ ((255 : Int32) < own_chr u)) : own_lat (nar .byte (own_chr u).toInt8.toInt32) = own_chr u := by
  have h1 := own_chr_rng u
  have h2 := own_narb (own_chr u)
  have h3 := own_m255 (nar .byte (own_chr u).toInt8.toInt32)
  have h4 := c_i2c ((nar .byte (own_chr u).toInt8.toInt32) &&& (255 : Int32))
  have h5 := c_i2c (((nar .byte (own_chr u).toInt8.toInt32) &&& (255 : Int32)).toUInt32.toUInt16.toUInt32.toInt32)
  have e1 : (255 : Int32).toInt = 255 := by decide
  rw [Int32.lt_iff_toInt_lt, e1] at h
  refine own_i32 ?_
  show ((((nar .byte (own_chr u).toInt8.toInt32) &&& (255 : Int32)).toUInt32.toUInt16.toUInt32.toInt32).toUInt32.toUInt16.toUInt32.toInt32).toInt = _
  omega
/-- a char put as two bytes and read back -/
theorem own_rt (c : Int32) (h : 0 ≤ c.toInt ∧ c.toInt < 65536) : own_u16 (nar .byte (c >>> ((0 : Int32) &&& 31)).toInt8.toInt32) (nar .byte (c >>> ((8 : Int32) &&& 31)).toInt8.toInt32) = c := by
  have s0 := c_ishr c 0 0 (by decide)
  have s8 := c_ishr c 8 8 (by decide)
  have b0 := own_narb (c >>> ((0 : Int32) &&& 31))
  have b8 := own_narb (c >>> ((8 : Int32) &&& 31))
  have m0 := own_m255 (nar .byte (c >>> ((0 : Int32) &&& 31)).toInt8.toInt32)
  have m8 := own_m255 (nar .byte (c >>> ((8 : Int32) &&& 31)).toInt8.toInt32)
  obtain ⟨A, hA⟩ : ∃ A, A = (nar .byte (c >>> ((0 : Int32) &&& 31)).toInt8.toInt32) &&& (255 : Int32) := ⟨_, rfl⟩
  obtain ⟨B, hB⟩ : ∃ B, B = (nar .byte (c >>> ((8 : Int32) &&& 31)).toInt8.toInt32) &&& (255 : Int32) := ⟨_, rfl⟩
  rw [← hA] at m0
  rw [← hB] at m8
  have l0 := c_ishl A 0 0 (by decide)
  have l8 := c_ishl B 8 8 (by decide)
  have r0 := rng32 (A <<< ((0 : Int32) &&& 31))
  have r8 := rng32 (B <<< ((8 : Int32) &&& 31))
  have p0 : ((2 ^ 0 : Nat) : Int) = 1 := by decide
  have p8 : ((2 ^ 8 : Nat) : Int) = 256 := by decide
  rw [p0] at s0 l0
  rw [p8] at s8 l8
  have hr := c_or' (A <<< ((0 : Int32) &&& 31)) (B <<< ((8 : Int32) &&& 31)) 8 (by decide) 256 (by decide) (by omega) (by omega) (by omega)
  have rr := rng32 ((A <<< ((0 : Int32) &&& 31)) ||| (B <<< ((8 : Int32) &&& 31)))
  have h4 := c_i2c ((A <<< ((0 : Int32) &&& 31)) ||| (B <<< ((8 : Int32) &&& 31)))
  have h5 := c_i2c (((A <<< ((0 : Int32) &&& 31)) ||| (B <<< ((8 : Int32) &&& 31))).toUInt32.toUInt16.toUInt32.toInt32)
  refine own_i32 ?_
  unfold own_u16
  rw [← hA, ← hB]
  show ((((A <<< ((0 : Int32) &&& 31)) ||| (B <<< ((8 : Int32) &&& 31))).toUInt32.toUInt16.toUInt32.toInt32).toUInt32.toUInt16.toUInt32.toInt32).toInt = _
  omega
theorem own_fU (u : Int32) : own_u16 (nar .byte ((own_chr u) >>> ((0 : Int32) &&& 31)).toInt8.toInt32) (nar .byte ((own_chr u) >>> ((8 : Int32) &&& 31)).toInt8.toInt32) = own_chr u := own_rt _ (own_chr_rng u)
theorem own_lowb (u : Int32) (h : ¬ ((255 : Int32) < own_chr u)) : (nar .byte (own_chr u).toInt8.toInt32) &&& (255 : Int32) = own_chr u := by
  have h1 := own_chr_rng u
  have h2 := own_narb (own_chr u)
  have h3 := own_m255 (nar .byte (own_chr u).toInt8.toInt32)
  have e1 : (255 : Int32).toInt = 255 := by decide
  rw [Int32.lt_iff_toInt_lt, e1] at h
  refine own_i32 ?_
  omega
theorem own_fX (u : Int32) (h : ¬ ((255 : Int32) < own_chr u)) : own_u16 (nar .byte (((nar .byte (own_chr u).toInt8.toInt32) &&& (255 : Int32)) >>> ((0 : Int32) &&& 31)).toInt8.toInt32) (nar .byte (((nar .byte (own_chr u).toInt8.toInt32) &&& (255 : Int32)) >>> ((8 : Int32) &&& 31)).toInt8.toInt32) = own_chr u := by
  rw [own_lowb u h]
  exact own_fU u
theorem own_k1 (x : Int32) : own_chr (x &&& (255 : Int32)) = nar .char ((x &&& (255 : Int32)).toUInt32.toUInt16.toUInt32.toInt32) := by
  have h3 := own_m255 x
  have e0 : (0 : Int32).toInt = 0 := by decide
  have e1 : (65535 : Int32).toInt = 65535 := by decide
  have n1 : ¬ (x &&& (255 : Int32)) < (0 : Int32) := by rw [Int32.lt_iff_toInt_lt, e0]; omega
  have n2 : ¬ (65535 : Int32) < (x &&& (255 : Int32)) := by rw [Int32.lt_iff_toInt_lt, e1]; omega
  rw [own_chr, if_neg n1, if_neg n2]
  exact (own_nn _).symm
/-- hi << 8 | lo -/
theorem own_pair (a b : Int32) (ha : 0 ≤ a.toInt ∧ a.toInt < 256) (hb' : 0 ≤ b.toInt ∧ b.toInt < 256) : ((a <<< ((8 : Int32) &&& 31)) ||| b).toInt = a.toInt * 256 + b.toInt := by
  have l8 := c_ishl a 8 8 (by decide)
  have p8 : ((2 ^ 8 : Nat) : Int) = 256 := by decide
  rw [p8] at l8
  have r8 := rng32 (a <<< ((8 : Int32) &&& 31))
  have hr := c_or (a <<< ((8 : Int32) &&& 31)) b 8 (by decide) 256 (by decide) (by omega) (by omega) (by omega)
  have rr := rng32 ((a <<< ((8 : Int32) &&& 31)) ||| b)
  omega
theorem own_zor (x : Int32) : (0 : Int32) ||| x = x := by
  apply Int32.toBitVec_inj.mp
  show 0#32 ||| x.toBitVec = x.toBitVec
  simp
theorem own_k2 (a b : Int32) : own_chr ((((0 : Int32) ||| (a &&& (255 : Int32))) <<< ((8 : Int32) &&& 31)) ||| (b &&& (255 : Int32))) = nar .char ((((a &&& (255 : Int32)) <<< ((8 : Int32) &&& 31)) ||| (b &&& (255 : Int32))).toUInt32.toUInt16.toUInt32.toInt32) := by
  have ha := own_m255 a
  have hb' := own_m255 b
  have hp := own_pair (a &&& (255 : Int32)) (b &&& (255 : Int32)) (by omega) (by omega)
  rw [own_zor]
  have e0 : (0 : Int32).toInt = 0 := by decide
  have e1 : (65535 : Int32).toInt = 65535 := by decide
  have n1 : ¬ (((a &&& (255 : Int32)) <<< ((8 : Int32) &&& 31)) ||| (b &&& (255 : Int32))) < (0 : Int32) := by rw [Int32.lt_iff_toInt_lt, e0]; omega
  have n2 : ¬ (65535 : Int32) < (((a &&& (255 : Int32)) <<< ((8 : Int32) &&& 31)) ||| (b &&& (255 : Int32))) := by rw [Int32.lt_iff_toInt_lt, e1]; omega
  rw [own_chr, if_neg n1, if_neg n2]
  exact (own_nn _).symm
theorem own_k4 (a b c d : Int32) : own_chr ((((((((0 : Int32) ||| (a &&& (255 : Int32))) <<< ((8 : Int32) &&& 31)) ||| (b &&& (255 : Int32))) <<< ((8 : Int32) &&& 31)) ||| (c &&& (255 : Int32))) <<< ((8 : Int32) &&& 31)) ||| (d &&& (255 : Int32))) = if (a &&& (255 : Int32)) = (0 : Int32) then (if (b &&& (255 : Int32)) = (0 : Int32) then nar .char ((((c &&& (255 : Int32)) <<< ((8 : Int32) &&& 31)) ||| (d &&& (255 : Int32))).toUInt32.toUInt16.toUInt32.toInt32) else (65533 : Int32)) else (65533 : Int32) := by
  have ha := own_m255 a
  have hb' := own_m255 b
  have hc' := own_m255 c
  have hd' := own_m255 d
  obtain ⟨A, hA⟩ : ∃ A, A = a &&& (255 : Int32) := ⟨_, rfl⟩
  obtain ⟨B, hB⟩ : ∃ B, B = b &&& (255 : Int32) := ⟨_, rfl⟩
  obtain ⟨C, hC⟩ : ∃ C, C = c &&& (255 : Int32) := ⟨_, rfl⟩
  obtain ⟨D, hD⟩ : ∃ D, D = d &&& (255 : Int32) := ⟨_, rfl⟩
  rw [own_zor, ← hA, ← hB, ← hC, ← hD]
  rw [← hA] at ha
  rw [← hB] at hb'
  rw [← hC] at hc'
  rw [← hD] at hd'
  have p8 : ((2 ^ 8 : Nat) : Int) = 256 := by decide
  have h1 := own_pair A B (by omega) (by omega)
  have hcd := own_pair C D (by omega) (by omega)
  obtain ⟨P, hP⟩ : ∃ P, P = (A <<< ((8 : Int32) &&& 31)) ||| B := ⟨_, rfl⟩
  rw [← hP] at h1 ⊢
  have l2 := c_ishl P 8 8 (by decide)
  rw [p8] at l2
  have r2 := rng32 (P <<< ((8 : Int32) &&& 31))
  have o2 := c_or (P <<< ((8 : Int32) &&& 31)) C 8 (by decide) 256 (by decide) (by omega) (by omega) (by omega)
  have q2 := rng32 ((P <<< ((8 : Int32) &&& 31)) ||| C)
  obtain ⟨Q, hQ⟩ : ∃ Q, Q = (P <<< ((8 : Int32) &&& 31)) ||| C := ⟨_, rfl⟩
  rw [← hQ] at o2 q2 ⊢
  have l3 := c_ishl Q 8 8 (by decide)
  rw [p8] at l3
  have r3 := rng32 (Q <<< ((8 : Int32) &&& 31))
  have o3 := c_or (Q <<< ((8 : Int32) &&& 31)) D 8 (by decide) 256 (by decide) (by omega) (by omega) (by omega)
  have q3 := rng32 ((Q <<< ((8 : Int32) &&& 31)) ||| D)
  obtain ⟨U, hU⟩ : ∃ U, U = (Q <<< ((8 : Int32) &&& 31)) ||| D := ⟨_, rfl⟩
  rw [← hU] at o3 q3 ⊢
  have e0 : (0 : Int32).toInt = 0 := by decide
  have e1 : (65535 : Int32).toInt = 65535 := by decide
  have hUi : U.toInt = A.toInt * 16777216 + B.toInt * 65536 + C.toInt * 256 + D.toInt ∨ U.toInt = A.toInt * 16777216 + B.toInt * 65536 + C.toInt * 256 + D.toInt - 4294967296 := by omega
  by_cases zA : A = (0 : Int32)
  · rw [if_pos zA]
    have zA' : A.toInt = 0 := by rw [zA]; decide
    by_cases zB : B = (0 : Int32)
    · rw [if_pos zB]
      have zB' : B.toInt = 0 := by rw [zB]; decide
      have hUe : U = (C <<< ((8 : Int32) &&& 31)) ||| D := own_i32 (by omega)
      have n1 : ¬ U < (0 : Int32) := by rw [Int32.lt_iff_toInt_lt, e0]; omega
      have n2 : ¬ (65535 : Int32) < U := by rw [Int32.lt_iff_toInt_lt, e1]; omega
      rw [own_chr, if_neg n1, if_neg n2, hUe]
      exact (own_nn _).symm
    · rw [if_neg zB]
      have zB' : B.toInt ≠ 0 := fun q => zB (own_i32 (q.trans e0.symm))
      have n1 : ¬ U < (0 : Int32) := by rw [Int32.lt_iff_toInt_lt, e0]; omega
      have n2 : (65535 : Int32) < U := by rw [Int32.lt_iff_toInt_lt, e1]; omega
      rw [own_chr, if_neg n1, if_pos n2]
  · rw [if_neg zA]
    have zA' : A.toInt ≠ 0 := fun q => zA (own_i32 (q.trans e0.symm))
    by_cases n1 : U < (0 : Int32)
    · rw [own_chr, if_pos n1]
    · have n1' := n1
      rw [Int32.lt_iff_toInt_lt, e0] at n1'
      have n2 : (65535 : Int32) < U := by rw [Int32.lt_iff_toInt_lt, e1]; omega
      rw [own_chr, if_neg n1, if_pos n2]
def own_un1_0 (cB : Cell) (x : Int32) : Int32 := ((atv cB x) &&& (255 : Int32))
def own_ex1_0 (cB : Cell) (x : Int32) : Int32 := nar .char (((atv cB x) &&& (255 : Int32)).toUInt32.toUInt16.toUInt32.toInt32)
theorem own_eq1_0 (cB : Cell) (x : Int32) : own_chr (own_un1_0 cB x) = own_ex1_0 cB x := own_k1 _
def own_un4_0 (cB : Cell) (x : Int32) : Int32 := ((((((((0 : Int32) ||| ((atv cB x) &&& (255 : Int32))) <<< ((8 : Int32) &&& 31)) ||| ((atv cB (x + (1 : Int32))) &&& (255 : Int32))) <<< ((8 : Int32) &&& 31)) ||| ((atv cB (x + (2 : Int32))) &&& (255 : Int32))) <<< ((8 : Int32) &&& 31)) ||| ((atv cB (x + (3 : Int32))) &&& (255 : Int32)))
def own_ex4_0 (cB : Cell) (x : Int32) : Int32 := if ((atv cB x) &&& (255 : Int32)) = (0 : Int32) then (if ((atv cB (x + (1 : Int32))) &&& (255 : Int32)) = (0 : Int32) then nar .char (((((atv cB (x + (2 : Int32))) &&& (255 : Int32)) <<< ((8 : Int32) &&& 31)) ||| ((atv cB (x + (3 : Int32))) &&& (255 : Int32))).toUInt32.toUInt16.toUInt32.toInt32) else (65533 : Int32)) else (65533 : Int32)
theorem own_eq4_0 (cB : Cell) (x : Int32) : own_chr (own_un4_0 cB x) = own_ex4_0 cB x := own_k4 _ _ _ _
def own_un4_1 (cB : Cell) (x : Int32) : Int32 := ((((((((0 : Int32) ||| ((atv cB (x + (3 : Int32))) &&& (255 : Int32))) <<< ((8 : Int32) &&& 31)) ||| ((atv cB (x + (2 : Int32))) &&& (255 : Int32))) <<< ((8 : Int32) &&& 31)) ||| ((atv cB (x + (1 : Int32))) &&& (255 : Int32))) <<< ((8 : Int32) &&& 31)) ||| ((atv cB x) &&& (255 : Int32)))
def own_ex4_1 (cB : Cell) (x : Int32) : Int32 := if ((atv cB (x + (3 : Int32))) &&& (255 : Int32)) = (0 : Int32) then (if ((atv cB (x + (2 : Int32))) &&& (255 : Int32)) = (0 : Int32) then nar .char (((((atv cB (x + (1 : Int32))) &&& (255 : Int32)) <<< ((8 : Int32) &&& 31)) ||| ((atv cB x) &&& (255 : Int32))).toUInt32.toUInt16.toUInt32.toInt32) else (65533 : Int32)) else (65533 : Int32)
theorem own_eq4_1 (cB : Cell) (x : Int32) : own_chr (own_un4_1 cB x) = own_ex4_1 cB x := own_k4 _ _ _ _
def own_un2_0 (cB : Cell) (x : Int32) : Int32 := ((((0 : Int32) ||| ((atv cB x) &&& (255 : Int32))) <<< ((8 : Int32) &&& 31)) ||| ((atv cB (x + (1 : Int32))) &&& (255 : Int32)))
def own_ex2_0 (cB : Cell) (x : Int32) : Int32 := nar .char (((((atv cB x) &&& (255 : Int32)) <<< ((8 : Int32) &&& 31)) ||| ((atv cB (x + (1 : Int32))) &&& (255 : Int32))).toUInt32.toUInt16.toUInt32.toInt32)
theorem own_eq2_0 (cB : Cell) (x : Int32) : own_chr (own_un2_0 cB x) = own_ex2_0 cB x := own_k2 _ _
def own_un2_1 (cB : Cell) (x : Int32) : Int32 := ((((0 : Int32) ||| ((atv cB (x + (1 : Int32))) &&& (255 : Int32))) <<< ((8 : Int32) &&& 31)) ||| ((atv cB x) &&& (255 : Int32)))
def own_ex2_1 (cB : Cell) (x : Int32) : Int32 := nar .char (((((atv cB (x + (1 : Int32))) &&& (255 : Int32)) <<< ((8 : Int32) &&& 31)) ||| ((atv cB x) &&& (255 : Int32))).toUInt32.toUInt16.toUInt32.toInt32)
theorem own_eq2_1 (cB : Cell) (x : Int32) : own_chr (own_un2_1 cB x) = own_ex2_1 cB x := own_k2 _ _
def own_wl (w le : Int32) (cB : Cell) (x u : Int32) : Prop := (w = 1 ∧ le = 0 ∧ u = own_un1_0 cB x) ∨ (w = 4 ∧ le = 0 ∧ u = own_un4_0 cB x) ∨ (w = 4 ∧ le = 1 ∧ u = own_un4_1 cB x) ∨ (w = 2 ∧ le = 0 ∧ u = own_un2_0 cB x) ∨ (w = 2 ∧ le = 1 ∧ u = own_un2_1 cB x)
def own_w5 (w le : Int32) : Prop := (w = 1 ∧ le = 0) ∨ (w = 4 ∧ le = 0) ∨ (w = 4 ∧ le = 1) ∨ (w = 2 ∧ le = 0) ∨ (w = 2 ∧ le = 1)
theorem own_bc1 {x : Int32} (h : 0 ≤ x.toInt ∧ x.toInt + (1 : Int32).toInt ≤ 8) : 0 ≤ x.toInt ∧ x.toInt < 8 := by
  have e : (1 : Int32).toInt = 1 := by decide
  omega
theorem own_bc2 {x : Int32} (h : 0 ≤ x.toInt ∧ x.toInt + (2 : Int32).toInt ≤ 8) : 0 ≤ x.toInt ∧ x.toInt < 7 := by
  have e : (2 : Int32).toInt = 2 := by decide
  omega
theorem own_bc4 {x : Int32} (h : 0 ≤ x.toInt ∧ x.toInt + (4 : Int32).toInt ≤ 8) : 0 ≤ x.toInt ∧ x.toInt < 5 := by
  have e : (4 : Int32).toInt = 4 := by decide
  omega
theorem own_wlx {w le : Int32} (cB : Cell) (x : Int32) (h : own_w5 w le) : ∃ u, own_wl w le cB x u := by
  rcases h with ⟨rfl, rfl⟩ | ⟨rfl, rfl⟩ | ⟨rfl, rfl⟩ | ⟨rfl, rfl⟩ | ⟨rfl, rfl⟩
  · exact ⟨_, Or.inl ⟨rfl, rfl, rfl⟩⟩
  · exact ⟨_, Or.inr (Or.inl ⟨rfl, rfl, rfl⟩)⟩
  · exact ⟨_, Or.inr (Or.inr (Or.inl ⟨rfl, rfl, rfl⟩))⟩
  · exact ⟨_, Or.inr (Or.inr (Or.inr (Or.inl ⟨rfl, rfl, rfl⟩)))⟩
  · exact ⟨_, Or.inr (Or.inr (Or.inr (Or.inr (⟨rfl, rfl, rfl⟩))))⟩
theorem own_w3 {w le : Int32} (h : own_w5 w le) : w = 1 ∨ w = 2 ∨ w = 4 := by
  rcases h with ⟨rfl, _⟩ | ⟨rfl, _⟩ | ⟨rfl, _⟩ | ⟨rfl, _⟩ | ⟨rfl, _⟩
  · exact Or.inl rfl
  · exact Or.inr (Or.inr rfl)
  · exact Or.inr (Or.inr rfl)
  · exact Or.inr (Or.inl rfl)
  · exact Or.inr (Or.inl rfl)
def own_rg (n w x t : Int32) : Prop := 0 ≤ x.toInt ∧ x.toInt + n.toInt * w.toInt = t.toInt ∧ t.toInt ≤ 8 ∧ (w = 1 ∨ w = 2 ∨ w = 4)
theorem own_wv {w : Int32} (h : w = 1 ∨ w = 2 ∨ w = 4) : w.toInt = 1 ∨ w.toInt = 2 ∨ w.toInt = 4 := by
  rcases h with rfl | rfl | rfl
  · exact Or.inl (by decide)
  · exact Or.inr (Or.inl (by decide))
  · exact Or.inr (Or.inr (by decide))
theorem own_wne {n w x t : Int32} (hr : own_rg n w x t) : w ≠ 0 := fun h => by
  have := own_wv hr.2.2.2
  have e : (0 : Int32).toInt = 0 := by decide
  rw [h] at this
  omega
theorem own_div {n w x t : Int32} (hr : own_rg n w x t) (hn : 0 ≤ n.toInt ∧ n.toInt ≤ 2) : (t - x) / w = n := by
  obtain ⟨h1, h2, h3, h4⟩ := hr
  have a := c_isub t x
  have b := rng32 (t - x)
  have c0 := rng32 ((t - x) / w)
  refine own_i32 ?_
  rcases h4 with rfl | rfl | rfl
  · have e : (1 : Int32).toInt = 1 := by decide
    rw [e] at h2
    have d := (c_idiv (t - x) 1 1 e (by decide)).1 (by omega)
    omega
  · have e : (2 : Int32).toInt = 2 := by decide
    rw [e] at h2
    have d := (c_idiv (t - x) 2 2 e (by decide)).1 (by omega)
    omega
  · have e : (4 : Int32).toInt = 4 := by decide
    rw [e] at h2
    have d := (c_idiv (t - x) 4 4 e (by decide)).1 (by omega)
    omega
theorem own_e1 : (1 : Int32).toInt = 1 := by decide
theorem own_e2 : (2 : Int32).toInt = 2 := by decide
theorem own_e0 : (0 : Int32).toInt = 0 := by decide
theorem own_lz {w x t : Int32} (hr : own_rg 0 w x t) : ¬ x < t := by
  obtain ⟨h1, h2, h3, h4⟩ := hr
  rw [own_e0] at h2
  rw [Int32.lt_iff_toInt_lt]
  omega
theorem own_l1 {w x t : Int32} (hr : own_rg 1 w x t) : x < t := by
  obtain ⟨h1, h2, h3, h4⟩ := hr
  have := own_wv h4
  rw [own_e1] at h2
  rw [Int32.lt_iff_toInt_lt]
  omega
theorem own_l2 {w x t : Int32} (hr : own_rg 2 w x t) : x < t := by
  obtain ⟨h1, h2, h3, h4⟩ := hr
  have := own_wv h4
  rw [own_e2] at h2
  rw [Int32.lt_iff_toInt_lt]
  omega
theorem own_xw {n w x t : Int32} (hr : own_rg n w x t) (hn : n = 1 ∨ n = 2) : (x + w).toInt = x.toInt + w.toInt := by
  obtain ⟨h1, h2, h3, h4⟩ := hr
  have := own_wv h4
  have a := c_iadd x w
  have b := rng32 (x + w)
  rcases hn with rfl | rfl
  · rw [own_e1] at h2
    omega
  · rw [own_e2] at h2
    omega
theorem own_m1 {w x t : Int32} (hr : own_rg 1 w x t) : ¬ (x + w) < t := by
  have a := own_xw hr (Or.inl rfl)
  obtain ⟨h1, h2, h3, h4⟩ := hr
  rw [own_e1] at h2
  rw [Int32.lt_iff_toInt_lt]
  omega
theorem own_m2 {w x t : Int32} (hr : own_rg 2 w x t) : (x + w) < t := by
  have a := own_xw hr (Or.inr rfl)
  obtain ⟨h1, h2, h3, h4⟩ := hr
  have := own_wv h4
  rw [own_e2] at h2
  rw [Int32.lt_iff_toInt_lt]
  omega
theorem own_m3 {w x t : Int32} (hr : own_rg 2 w x t) : ¬ ((x + w) + w) < t := by
  have a := own_xw hr (Or.inr rfl)
  obtain ⟨h1, h2, h3, h4⟩ := hr
  have := own_wv h4
  have c := c_iadd (x + w) w
  have b := rng32 ((x + w) + w)
  rw [own_e2] at h2
  rw [Int32.lt_iff_toInt_lt]
  omega
theorem own_g1 {w x t : Int32} (hr : own_rg 1 w x t) : 0 ≤ x.toInt ∧ x.toInt + w.toInt ≤ 8 := by
  obtain ⟨h1, h2, h3, h4⟩ := hr
  rw [own_e1] at h2
  omega
theorem own_g2 {w x t : Int32} (hr : own_rg 2 w x t) : 0 ≤ x.toInt ∧ x.toInt + w.toInt ≤ 8 := by
  obtain ⟨h1, h2, h3, h4⟩ := hr
  have := own_wv h4
  rw [own_e2] at h2
  omega
theorem own_g3 {w x t : Int32} (hr : own_rg 2 w x t) : 0 ≤ (x + w).toInt ∧ (x + w).toInt + w.toInt ≤ 8 := by
  have a := own_xw hr (Or.inr rfl)
  obtain ⟨h1, h2, h3, h4⟩ := hr
  have := own_wv h4
  rw [own_e2] at h2
  omega
theorem own_rnz {n w : Int32} (hn : n = 0 ∨ n = 1 ∨ n = 2) (hw : w = 1 ∨ w = 2 ∨ w = 4) : (((8 : Int32) - (n * w)) + (1 : Int32)) ≠ 0 := by
  rcases hn with rfl | rfl | rfl <;> rcases hw with rfl | rfl | rfl <;> decide
theorem own_rnv {n w : Int32} (hn : n = 0 ∨ n = 1 ∨ n = 2) (hw : w = 1 ∨ w = 2 ∨ w = 4) : (((8 : Int32) - (n * w)) + (1 : Int32)).toInt = 9 - n.toInt * w.toInt ∧ (n * w).toInt = n.toInt * w.toInt ∧ n.toInt * w.toInt ≤ 8 ∧ 0 ≤ n.toInt * w.toInt := by
  rcases hn with rfl | rfl | rfl <;> rcases hw with rfl | rfl | rfl <;> decide
theorem own_rgx {n w : Int32} (p x t : Int32) (hn : n = 0 ∨ n = 1 ∨ n = 2) (hw : w = 1 ∨ w = 2 ∨ w = 4) (hx : x = (p &&& (2147483647 : Int32)) % (((8 : Int32) - (n * w)) + (1 : Int32))) (ht : t = x + (n * w)) : own_rg n w x t := by
  obtain ⟨e1, e2, e3, e4⟩ := own_rnv hn hw
  have m := c_mask p 2147483647 31 (by decide) (by decide)
  have m2 : (p &&& (2147483647 : Int32)).toInt = p.toInt % 2147483648 := m
  have r := (c_irem (p &&& (2147483647 : Int32)) _ _ e1).1 (by omega)
  rw [← hx] at r
  have a := c_iadd x (n * w)
  have b := rng32 (x + (n * w))
  rw [← ht, e2] at a
  rw [← ht] at b
  have q1 := Int.emod_lt_of_pos (p &&& (2147483647 : Int32)).toInt (show 0 < 9 - n.toInt * w.toInt by omega)
  have q2 := Int.emod_nonneg (p &&& (2147483647 : Int32)).toInt (show 9 - n.toInt * w.toInt ≠ 0 by omega)
  rw [← r] at q1 q2
  unfold own_rg
  generalize n.toInt * w.toInt = z at *
  refine ⟨by omega, by omega, by omega, hw⟩
theorem own_mod6 (x : Int32) : (x &&& 2147483647) % 6 = (0 : Int32) ∨ (x &&& 2147483647) % 6 = (1 : Int32) ∨ (x &&& 2147483647) % 6 = (2 : Int32) ∨ (x &&& 2147483647) % 6 = (3 : Int32) ∨ (x &&& 2147483647) % 6 = (4 : Int32) ∨ (x &&& 2147483647) % 6 = (5 : Int32) := by
  have h := own_mod x 6 6 (by decide) (by decide)
  have : ((x &&& 2147483647) % 6).toInt = 0 ∨ ((x &&& 2147483647) % 6).toInt = 1 ∨ ((x &&& 2147483647) % 6).toInt = 2 ∨ ((x &&& 2147483647) % 6).toInt = 3 ∨ ((x &&& 2147483647) % 6).toInt = 4 ∨ ((x &&& 2147483647) % 6).toInt = 5 := by omega
  rcases this with h | h | h | h | h | h
  · exact Or.inl (own_i32 (h.trans (by decide)))
  · exact Or.inr (Or.inl (own_i32 (h.trans (by decide))))
  · exact Or.inr (Or.inr (Or.inl (own_i32 (h.trans (by decide)))))
  · exact Or.inr (Or.inr (Or.inr (Or.inl (own_i32 (h.trans (by decide))))))
  · exact Or.inr (Or.inr (Or.inr (Or.inr (Or.inl (own_i32 (h.trans (by decide)))))))
  · exact Or.inr (Or.inr (Or.inr (Or.inr (Or.inr (own_i32 (h.trans (by decide)))))))
theorem own_mod3 (x : Int32) : (x &&& 2147483647) % 3 = (0 : Int32) ∨ (x &&& 2147483647) % 3 = (1 : Int32) ∨ (x &&& 2147483647) % 3 = (2 : Int32) := by
  have h := own_mod x 3 3 (by decide) (by decide)
  have : ((x &&& 2147483647) % 3).toInt = 0 ∨ ((x &&& 2147483647) % 3).toInt = 1 ∨ ((x &&& 2147483647) % 3).toInt = 2 := by omega
  rcases this with h | h | h
  · exact Or.inl (own_i32 (h.trans (by decide)))
  · exact Or.inr (Or.inl (own_i32 (h.trans (by decide))))
  · exact Or.inr (Or.inr (own_i32 (h.trans (by decide))))
set_option maxRecDepth 65536
set_option maxHeartbeats 40000000
abbrev rmk (f c s l : Nat) : Room := { frames := f, cells := c, slots := s, locals := l }
abbrev HW (a0 : Array Value) (Z : State) : Prop := ∀ d ∈ tables_1, d.before a0 Z = true
abbrev sk0 (Z : State) (h : Heap) (v : Value) : Prop := Sta Z h "java/lang/String" "COMPACT_STRINGS" "Z" v
abbrev sk1 (Z : State) (h : Heap) (v : Value) : Prop := Sta Z h "java/lang/StringUTF16" "$assertionsDisabled" "Z" v
abbrev sk2 (Z : State) (h : Heap) (v : Value) : Prop := Sta Z h "java/lang/StringUTF16" "HI_BYTE_SHIFT" "I" v
abbrev sk3 (Z : State) (h : Heap) (v : Value) : Prop := Sta Z h "java/lang/StringUTF16" "LO_BYTE_SHIFT" "I" v
abbrev sk4 (Z : State) (h : Heap) (v : Value) : Prop := Sta Z h "jdk/internal/util/Preconditions" "SIOOBE_FORMATTER" "Ljava/util/function/BiFunction;" v
abbrev sk5 (Z : State) (h : Heap) (v : Value) : Prop := Sta Z h "com/example/provenir/provenir/TextEncoding" "UTF_8" "Lcom/example/provenir/provenir/TextEncoding;" v
abbrev sk6 (Z : State) (h : Heap) (v : Value) : Prop := Sta Z h "com/example/provenir/provenir/TextEncoding" "UTF_32BE" "Lcom/example/provenir/provenir/TextEncoding;" v
abbrev sk7 (Z : State) (h : Heap) (v : Value) : Prop := Sta Z h "com/example/provenir/provenir/TextEncoding" "UTF_32LE" "Lcom/example/provenir/provenir/TextEncoding;" v
abbrev sk8 (Z : State) (h : Heap) (v : Value) : Prop := Sta Z h "com/example/provenir/provenir/TextEncoding" "UTF_16BE" "Lcom/example/provenir/provenir/TextEncoding;" v
abbrev sk9 (Z : State) (h : Heap) (v : Value) : Prop := Sta Z h "com/example/provenir/provenir/TextEncoding" "UTF_16LE" "Lcom/example/provenir/provenir/TextEncoding;" v
abbrev sk10 (Z : State) (h : Heap) (v : Value) : Prop := Sta Z h "com/example/provenir/provenir/TextEncoding" "UNMARKED" "Lcom/example/provenir/provenir/TextEncoding;" v
abbrev fk11 (Z : State) (h : Heap) (a : Addr) (v : Value) : Prop := Fld Z h a "java/lang/AbstractStringBuilder" "value" "[B" v
abbrev fk12 (Z : State) (h : Heap) (a : Addr) (v : Value) : Prop := Fld Z h a "java/lang/AbstractStringBuilder" "coder" "B" v
abbrev fk13 (Z : State) (h : Heap) (a : Addr) (v : Value) : Prop := Fld Z h a "java/lang/AbstractStringBuilder" "count" "I" v
abbrev fk14 (Z : State) (h : Heap) (a : Addr) (v : Value) : Prop := Fld Z h a "java/lang/AbstractStringBuilder" "maybeLatin1" "Z" v
abbrev fk15 (Z : State) (h : Heap) (a : Addr) (v : Value) : Prop := Fld Z h a "java/lang/String" "coder" "B" v
abbrev fk16 (Z : State) (h : Heap) (a : Addr) (v : Value) : Prop := Fld Z h a "java/lang/String" "value" "[B" v
abbrev fk17 (Z : State) (h : Heap) (a : Addr) (v : Value) : Prop := Fld Z h a "com/example/provenir/provenir/TextEncoding" "width" "I" v
abbrev fk18 (Z : State) (h : Heap) (a : Addr) (v : Value) : Prop := Fld Z h a "com/example/provenir/provenir/TextEncoding" "littleEndian" "Z" v
abbrev ek19 (Z : State) (h : Heap) (a : Addr) : Prop := Exa Z h a "[B"
abbrev ek20 (Z : State) (h : Heap) (a : Addr) : Prop := Exa Z h a "java/lang/StringBuilder"
abbrev ek21 (Z : State) (h : Heap) (a : Addr) : Prop := Exa Z h a "java/lang/String"
abbrev ek22 (Z : State) (h : Heap) (a : Addr) : Prop := Exa Z h a "com/example/provenir/provenir/TextEncoding"
abbrev dk (B : ByteArray) (pc : Nat) (i : Instr) (n : Nat) : Prop := decode B pc = .ok (i, n)
abbrev B0 : ByteArray := jdk_43_method_3_code
abbrev B1 : ByteArray := jdk_68_method_2_code
abbrev B2 : ByteArray := jdk_67_method_2_code
abbrev B3 : ByteArray := jdk_52_method_4_code
abbrev B4 : ByteArray := jdk_52_method_6_code
abbrev B5 : ByteArray := jdk_41_method_11_code
abbrev B6 : ByteArray := jdk_42_method_155_code
abbrev B7 : ByteArray := jdk_52_method_91_code
abbrev B8 : ByteArray := jdk_52_method_71_code
abbrev B9 : ByteArray := jdk_68_method_68_code
abbrev B10 : ByteArray := jdk_52_method_3_code
abbrev B11 : ByteArray := jdk_52_method_2_code
abbrev B12 : ByteArray := jdk_41_method_13_code
abbrev B13 : ByteArray := jdk_42_method_157_code
abbrev B14 : ByteArray := jdk_52_method_94_code
abbrev B15 : ByteArray := jdk_52_method_86_code
abbrev B16 : ByteArray := jdk_43_method_50_code
abbrev B17 : ByteArray := jdk_68_method_11_code
abbrev B18 : ByteArray := jdk_68_method_9_code
abbrev B19 : ByteArray := jdk_68_method_31_code
abbrev B20 : ByteArray := jdk_67_method_14_code
abbrev B21 : ByteArray := jdk_68_method_64_code
abbrev B22 : ByteArray := jdk_68_method_6_code
abbrev B23 : ByteArray := jdk_67_method_93_code
abbrev B24 : ByteArray := jdk_65_method_132_code
abbrev B25 : ByteArray := jdk_42_method_150_code
abbrev B26 : ByteArray := jdk_42_method_53_code
abbrev B27 : ByteArray := jdk_67_method_42_code
abbrev B28 : ByteArray := prog_73_method_8_code
abbrev B29 : ByteArray := method_4_code
abbrev B30 : ByteArray := method_3_code
abbrev B31 : ByteArray := prog_73_method_10_code
abbrev B32 : ByteArray := jdk_42_method_152_code
abbrev B33 : ByteArray := jdk_42_method_54_code
abbrev B34 : ByteArray := jdk_43_method_2_code
abbrev B35 : ByteArray := jdk_42_method_154_code
abbrev B36 : ByteArray := jdk_42_method_56_code
abbrev B37 : ByteArray := jdk_52_method_5_code
abbrev B38 : ByteArray := jdk_52_method_83_code
abbrev M0 (l : Launch) (ws : List Jvm.Cond) (R : Room) (Z : State) (A : Array Value) (h0 : Heap) (Q : Option Value → Heap → List Loc → Prop) : Prop := own_M l (⟨"java/lang/StringLatin1", "canEncode", "(C)Z"⟩ : MethodName) jdk_43_method_3_code 1 (some .boolean) ws R Z A h0 Q
abbrev M1 (l : Launch) (ws : List Jvm.Cond) (R : Room) (Z : State) (A : Array Value) (h0 : Heap) (Q : Option Value → Heap → List Loc → Prop) : Prop := own_M l (⟨"java/lang/AbstractStringBuilder", "<init>", "(I)V"⟩ : MethodName) jdk_68_method_2_code 2 none ws R Z A h0 Q
abbrev M2 (l : Launch) (ws : List Jvm.Cond) (R : Room) (Z : State) (A : Array Value) (h0 : Heap) (Q : Option Value → Heap → List Loc → Prop) : Prop := own_M l (⟨"java/lang/StringBuilder", "<init>", "(I)V"⟩ : MethodName) jdk_67_method_2_code 2 none ws R Z A h0 Q
abbrev M3 (l : Launch) (ws : List Jvm.Cond) (R : Room) (Z : State) (A : Array Value) (h0 : Heap) (Q : Option Value → Heap → List Loc → Prop) : Prop := own_M l (⟨"java/lang/StringUTF16", "putChar", "([BII)V"⟩ : MethodName) jdk_52_method_4_code 3 none ws R Z A h0 Q
abbrev M4 (l : Launch) (ws : List Jvm.Cond) (R : Room) (Z : State) (A : Array Value) (h0 : Heap) (Q : Option Value → Heap → List Loc → Prop) : Prop := own_M l (⟨"java/lang/StringUTF16", "length", "([B)I"⟩ : MethodName) jdk_52_method_6_code 1 (some .int) ws R Z A h0 Q
abbrev M5 (l : Launch) (ws : List Jvm.Cond) (R : Room) (Z : State) (A : Array Value) (h0 : Heap) (Q : Option Value → Heap → List Loc → Prop) : Prop := own_M l (⟨"jdk/internal/util/Preconditions", "checkIndex", "(IILjava/util/function/BiFunction;)I"⟩ : MethodName) jdk_41_method_11_code 3 (some .int) ws R Z A h0 Q
abbrev M6 (l : Launch) (ws : List Jvm.Cond) (R : Room) (Z : State) (A : Array Value) (h0 : Heap) (Q : Option Value → Heap → List Loc → Prop) : Prop := own_M l (⟨"java/lang/String", "checkIndex", "(II)V"⟩ : MethodName) jdk_42_method_155_code 2 none ws R Z A h0 Q
abbrev M7 (l : Launch) (ws : List Jvm.Cond) (R : Room) (Z : State) (A : Array Value) (h0 : Heap) (Q : Option Value → Heap → List Loc → Prop) : Prop := own_M l (⟨"java/lang/StringUTF16", "checkIndex", "(I[B)V"⟩ : MethodName) jdk_52_method_91_code 2 none ws R Z A h0 Q
abbrev M8 (l : Launch) (ws : List Jvm.Cond) (R : Room) (Z : State) (A : Array Value) (h0 : Heap) (Q : Option Value → Heap → List Loc → Prop) : Prop := own_M l (⟨"java/lang/StringUTF16", "putCharSB", "([BII)V"⟩ : MethodName) jdk_52_method_71_code 3 none ws R Z A h0 Q
abbrev M9 (l : Launch) (ws : List Jvm.Cond) (R : Room) (Z : State) (A : Array Value) (h0 : Heap) (Q : Option Value → Heap → List Loc → Prop) : Prop := own_M l (⟨"java/lang/AbstractStringBuilder", "isLatin1", "()Z"⟩ : MethodName) jdk_68_method_68_code 1 (some .boolean) ws R Z A h0 Q
abbrev M10 (l : Launch) (ws : List Jvm.Cond) (R : Room) (Z : State) (A : Array Value) (h0 : Heap) (Q : Option Value → Heap → List Loc → Prop) : Prop := own_M l (⟨"java/lang/StringUTF16", "newBytesLength", "(I)I"⟩ : MethodName) jdk_52_method_3_code 1 (some .int) ws R Z A h0 Q
abbrev M11 (l : Launch) (ws : List Jvm.Cond) (R : Room) (Z : State) (A : Array Value) (h0 : Heap) (Q : Option Value → Heap → List Loc → Prop) : Prop := own_M l (⟨"java/lang/StringUTF16", "newBytesFor", "(I)[B"⟩ : MethodName) jdk_52_method_2_code 1 (some (.array .byte)) ws R Z A h0 Q
abbrev M12 (l : Launch) (ws : List Jvm.Cond) (R : Room) (Z : State) (A : Array Value) (h0 : Heap) (Q : Option Value → Heap → List Loc → Prop) : Prop := own_M l (⟨"jdk/internal/util/Preconditions", "checkFromIndexSize", "(IIILjava/util/function/BiFunction;)I"⟩ : MethodName) jdk_41_method_13_code 4 (some .int) ws R Z A h0 Q
abbrev M13 (l : Launch) (ws : List Jvm.Cond) (R : Room) (Z : State) (A : Array Value) (h0 : Heap) (Q : Option Value → Heap → List Loc → Prop) : Prop := own_M l (⟨"java/lang/String", "checkBoundsOffCount", "(III)I"⟩ : MethodName) jdk_42_method_157_code 3 (some .int) ws R Z A h0 Q
abbrev M14 (l : Launch) (ws : List Jvm.Cond) (R : Room) (Z : State) (A : Array Value) (h0 : Heap) (Q : Option Value → Heap → List Loc → Prop) : Prop := own_M l (⟨"java/lang/StringUTF16", "checkBoundsOffCount", "(II[B)V"⟩ : MethodName) jdk_52_method_94_code 3 none ws R Z A h0 Q
abbrev M15 (l : Launch) (ws : List Jvm.Cond) (R : Room) (Z : State) (A : Array Value) (h0 : Heap) (Q : Option Value → Heap → List Loc → Prop) : Prop := own_M l (⟨"java/lang/StringUTF16", "inflate", "([BI[BII)V"⟩ : MethodName) jdk_52_method_86_code 6 none ws R Z A h0 Q
abbrev M16 (l : Launch) (ws : List Jvm.Cond) (R : Room) (Z : State) (A : Array Value) (h0 : Heap) (Q : Option Value → Heap → List Loc → Prop) : Prop := own_M l (⟨"java/lang/StringLatin1", "inflate", "([BI[BII)V"⟩ : MethodName) jdk_43_method_50_code 5 none ws R Z A h0 Q
abbrev M17 (l : Launch) (ws : List Jvm.Cond) (R : Room) (Z : State) (A : Array Value) (h0 : Heap) (Q : Option Value → Heap → List Loc → Prop) : Prop := own_M l (⟨"java/lang/AbstractStringBuilder", "inflate", "()V"⟩ : MethodName) jdk_68_method_11_code 2 none ws R Z A h0 Q
abbrev M18 (l : Launch) (ws : List Jvm.Cond) (R : Room) (Z : State) (A : Array Value) (h0 : Heap) (Q : Option Value → Heap → List Loc → Prop) : Prop := own_M l (⟨"java/lang/AbstractStringBuilder", "ensureCapacityInternal", "(I)V"⟩ : MethodName) jdk_68_method_9_code 3 none ws R Z A h0 Q
abbrev M19 (l : Launch) (ws : List Jvm.Cond) (R : Room) (Z : State) (A : Array Value) (h0 : Heap) (Q : Option Value → Heap → List Loc → Prop) : Prop := own_M l (⟨"java/lang/AbstractStringBuilder", "append", "(C)Ljava/lang/AbstractStringBuilder;"⟩ : MethodName) jdk_68_method_31_code 2 (some (.object "java/lang/AbstractStringBuilder")) ws R Z A h0 Q
abbrev M20 (l : Launch) (ws : List Jvm.Cond) (R : Room) (Z : State) (A : Array Value) (h0 : Heap) (Q : Option Value → Heap → List Loc → Prop) : Prop := own_M l (⟨"java/lang/StringBuilder", "append", "(C)Ljava/lang/StringBuilder;"⟩ : MethodName) jdk_67_method_14_code 2 (some (.object "java/lang/StringBuilder")) ws R Z A h0 Q
abbrev M21 (l : Launch) (ws : List Jvm.Cond) (R : Room) (Z : State) (A : Array Value) (h0 : Heap) (Q : Option Value → Heap → List Loc → Prop) : Prop := own_M l (⟨"java/lang/AbstractStringBuilder", "getValue", "()[B"⟩ : MethodName) jdk_68_method_64_code 1 (some (.array .byte)) ws R Z A h0 Q
abbrev M22 (l : Launch) (ws : List Jvm.Cond) (R : Room) (Z : State) (A : Array Value) (h0 : Heap) (Q : Option Value → Heap → List Loc → Prop) : Prop := own_M l (⟨"java/lang/AbstractStringBuilder", "length", "()I"⟩ : MethodName) jdk_68_method_6_code 1 (some .int) ws R Z A h0 Q
abbrev M23 (l : Launch) (ws : List Jvm.Cond) (R : Room) (Z : State) (A : Array Value) (h0 : Heap) (Q : Option Value → Heap → List Loc → Prop) : Prop := own_M l (⟨"java/lang/StringBuilder", "length", "()I"⟩ : MethodName) jdk_67_method_93_code 1 (some .int) ws R Z A h0 Q
abbrev M24 (l : Launch) (ws : List Jvm.Cond) (R : Room) (Z : State) (A : Array Value) (h0 : Heap) (Q : Option Value → Heap → List Loc → Prop) : Prop := own_M l (⟨"java/util/Arrays", "copyOfRange", "([BII)[B"⟩ : MethodName) jdk_65_method_132_code 3 (some (.array .byte)) ws R Z A h0 Q
abbrev M25 (l : Launch) (ws : List Jvm.Cond) (R : Room) (Z : State) (A : Array Value) (h0 : Heap) (Q : Option Value → Heap → List Loc → Prop) : Prop := own_M l (⟨"java/lang/String", "<init>", "(Ljava/lang/AbstractStringBuilder;Ljava/lang/Void;)V"⟩ : MethodName) jdk_42_method_150_code 5 none ws R Z A h0 Q
abbrev M26 (l : Launch) (ws : List Jvm.Cond) (R : Room) (Z : State) (A : Array Value) (h0 : Heap) (Q : Option Value → Heap → List Loc → Prop) : Prop := own_M l (⟨"java/lang/String", "<init>", "(Ljava/lang/StringBuilder;)V"⟩ : MethodName) jdk_42_method_53_code 2 none ws R Z A h0 Q
abbrev M27 (l : Launch) (ws : List Jvm.Cond) (R : Room) (Z : State) (A : Array Value) (h0 : Heap) (Q : Option Value → Heap → List Loc → Prop) : Prop := own_M l (⟨"java/lang/StringBuilder", "toString", "()Ljava/lang/String;"⟩ : MethodName) jdk_67_method_42_code 1 (some (.object "java/lang/String")) ws R Z A h0 Q
abbrev M28 (l : Launch) (ws : List Jvm.Cond) (R : Room) (Z : State) (A : Array Value) (h0 : Heap) (Q : Option Value → Heap → List Loc → Prop) : Prop := own_M l (⟨"com/example/provenir/provenir/TextEncoding", "unitAt", "([BI)I"⟩ : MethodName) prog_73_method_8_code 5 (some .int) ws R Z A h0 Q
abbrev M29 (l : Launch) (ws : List Jvm.Cond) (R : Room) (Z : State) (A : Array Value) (h0 : Heap) (Q : Option Value → Heap → List Loc → Prop) : Prop := own_M l (⟨"com/example/provenir/provenir/TextEncodingDecodePinLaw", "expected", "([BIIZ)C"⟩ : MethodName) method_4_code 8 (some .char) ws R Z A h0 Q
abbrev M30 (l : Launch) (ws : List Jvm.Cond) (R : Room) (Z : State) (A : Array Value) (h0 : Heap) (Q : Option Value → Heap → List Loc → Prop) : Prop := own_M l (⟨"com/example/provenir/provenir/TextEncodingDecodePinLaw", "encoding", "(I)Lcom/example/provenir/provenir/TextEncoding;"⟩ : MethodName) method_3_code 1 (some (.object "com/example/provenir/provenir/TextEncoding")) ws R Z A h0 Q
abbrev M31 (l : Launch) (ws : List Jvm.Cond) (R : Room) (Z : State) (A : Array Value) (h0 : Heap) (Q : Option Value → Heap → List Loc → Prop) : Prop := own_M l (⟨"com/example/provenir/provenir/TextEncoding", "decode", "([BII)Ljava/lang/String;"⟩ : MethodName) prog_73_method_10_code 7 (some (.object "java/lang/String")) ws R Z A h0 Q
abbrev M32 (l : Launch) (ws : List Jvm.Cond) (R : Room) (Z : State) (A : Array Value) (h0 : Heap) (Q : Option Value → Heap → List Loc → Prop) : Prop := own_M l (⟨"java/lang/String", "coder", "()B"⟩ : MethodName) jdk_42_method_152_code 1 (some .byte) ws R Z A h0 Q
abbrev M33 (l : Launch) (ws : List Jvm.Cond) (R : Room) (Z : State) (A : Array Value) (h0 : Heap) (Q : Option Value → Heap → List Loc → Prop) : Prop := own_M l (⟨"java/lang/String", "length", "()I"⟩ : MethodName) jdk_42_method_54_code 1 (some .int) ws R Z A h0 Q
abbrev M34 (l : Launch) (ws : List Jvm.Cond) (R : Room) (Z : State) (A : Array Value) (h0 : Heap) (Q : Option Value → Heap → List Loc → Prop) : Prop := own_M l (⟨"java/lang/StringLatin1", "charAt", "([BI)C"⟩ : MethodName) jdk_43_method_2_code 2 (some .char) ws R Z A h0 Q
abbrev M35 (l : Launch) (ws : List Jvm.Cond) (R : Room) (Z : State) (A : Array Value) (h0 : Heap) (Q : Option Value → Heap → List Loc → Prop) : Prop := own_M l (⟨"java/lang/String", "isLatin1", "()Z"⟩ : MethodName) jdk_42_method_154_code 1 (some .boolean) ws R Z A h0 Q
abbrev M36 (l : Launch) (ws : List Jvm.Cond) (R : Room) (Z : State) (A : Array Value) (h0 : Heap) (Q : Option Value → Heap → List Loc → Prop) : Prop := own_M l (⟨"java/lang/String", "charAt", "(I)C"⟩ : MethodName) jdk_42_method_56_code 2 (some .char) ws R Z A h0 Q
abbrev M37 (l : Launch) (ws : List Jvm.Cond) (R : Room) (Z : State) (A : Array Value) (h0 : Heap) (Q : Option Value → Heap → List Loc → Prop) : Prop := own_M l (⟨"java/lang/StringUTF16", "getChar", "([BI)C"⟩ : MethodName) jdk_52_method_5_code 2 (some .char) ws R Z A h0 Q
abbrev M38 (l : Launch) (ws : List Jvm.Cond) (R : Room) (Z : State) (A : Array Value) (h0 : Heap) (Q : Option Value → Heap → List Loc → Prop) : Prop := own_M l (⟨"java/lang/StringUTF16", "charAt", "([BI)C"⟩ : MethodName) jdk_52_method_83_code 2 (some .char) ws R Z A h0 Q
theorem d20_0 : dk B0 0 (.iload_n 0) 1 := by decide +kernel
theorem d20_1 : dk B0 1 (.sipush 255) 3 := by decide +kernel
theorem d20_4 : dk B0 4 (.if_icmp .gt 7) 3 := by decide +kernel
theorem d20_7 : dk B0 7 (.iconst 1) 1 := by decide +kernel
theorem d20_8 : dk B0 8 (.goto 4) 3 := by decide +kernel
theorem d20_11 : dk B0 11 (.iconst 0) 1 := by decide +kernel
theorem d20_12 : dk B0 12 (.ireturn) 1 := by decide +kernel
theorem pn_20 : plainName "java/lang/StringLatin1" = true := by first | (simp [plainName, overriddenIn]; done) | decide +kernel
theorem ef_canEnc0 (m : MethodId) (x0 : Int32) : entryFrame m #[(.int x0)] 1 = mkF m 0 #[.val (.int x0)] [] := by first | (simp [entryFrame, mkF, argsToLocals, Value.category]; done) | rfl
def Q_canEnc0 (Z : State) (c1 : Int32) (h0 : Heap) (n0 : Nat) (v : Option Value) (h : Heap) (L : List Loc) : Prop := v = some (.int 0) ∧ Fr n0 L ∧ h = h0
theorem rm_canEnc0 (l : Launch) (Z : State) (a0 : Array Value) (hw : HW a0 Z) (ws : List Jvm.Cond) (c1 : Int32) (h0 : Heap) (n0 : Nat) (Z0 : n0 ≤ h0.size) (hcc : (255 : Int32) < c1) :
    M0 l ws (rmk 0 0 0 0) Z #[(.int c1)] h0 (Q_canEnc0 Z c1 h0 n0) := by
  refine own_go "java/lang/StringLatin1" rfl (plainFor_of_name pn_20) (fun m => ef_canEnc0 m c1) (fun p e s m below meth c s₁ hx hby hml hown hnm hlk hret hZ X0 e0 => ?_)
  have N0 := Fr.nil n0
  show gs s₁ m 0 #[vi c1] []
  refine oiloadN X0 hx hby d20_0 rfl ?_
  refine own_st (fun _ kS => XS.sipush X0.here hx rfl (hb hby d20_1) kS) ?_
  show gs s₁ m 4 #[vi c1] [(.int 255), (.int c1)]
  refine own_st (fun _ kS => XS.icmpYes X0.here hx rfl (pc0 := 4) (pc' := 11) rfl (hb hby d20_4) rfl (tlt (hcc : (255 : Int32) < c1)).2.2.1 (by decide) (by decide) kS) ?_
  show gs s₁ m 11 #[vi c1] []
  refine oiconst X0 hx hby d20_11 ?_
  exact own_retN X0 hx hlk (t := .boolean) hret (by simp) (hb hby d20_12) (by decide) (by decide) (v' := (0 : Int32)) rfl (by rw [e0]; exact ⟨rfl, N0, rfl⟩)
theorem ef_canEnc1 (m : MethodId) (x0 : Int32) : entryFrame m #[(.int x0)] 1 = mkF m 0 #[.val (.int x0)] [] := by first | (simp [entryFrame, mkF, argsToLocals, Value.category]; done) | rfl
def Q_canEnc1 (Z : State) (c1 : Int32) (h0 : Heap) (n0 : Nat) (v : Option Value) (h : Heap) (L : List Loc) : Prop := v = some (.int 1) ∧ Fr n0 L ∧ h = h0
theorem rm_canEnc1 (l : Launch) (Z : State) (a0 : Array Value) (hw : HW a0 Z) (ws : List Jvm.Cond) (c1 : Int32) (h0 : Heap) (n0 : Nat) (Z0 : n0 ≤ h0.size) (hcc : ¬ ((255 : Int32) < c1)) :
    M0 l ws (rmk 0 0 0 0) Z #[(.int c1)] h0 (Q_canEnc1 Z c1 h0 n0) := by
  refine own_go "java/lang/StringLatin1" rfl (plainFor_of_name pn_20) (fun m => ef_canEnc1 m c1) (fun p e s m below meth c s₁ hx hby hml hown hnm hlk hret hZ X0 e0 => ?_)
  have N0 := Fr.nil n0
  show gs s₁ m 0 #[vi c1] []
  refine oiloadN X0 hx hby d20_0 rfl ?_
  refine own_st (fun _ kS => XS.sipush X0.here hx rfl (hb hby d20_1) kS) ?_
  show gs s₁ m 4 #[vi c1] [(.int 255), (.int c1)]
  refine own_st (fun _ kS => XS.icmpNo X0.here hx rfl (hb hby d20_4) rfl (flt (hcc : ¬ ((255 : Int32) < c1))).2.2.1 kS) ?_
  show gs s₁ m 7 #[vi c1] []
  refine oiconst X0 hx hby d20_7 ?_
  refine own_st (fun _ kS => XS.goto X0.here hx rfl (pc0 := 8) (pc' := 12) rfl (hb hby d20_8) (by decide) (by decide) kS) ?_
  show gs s₁ m 12 #[vi c1] [(.int 1)]
  exact own_retN X0 hx hlk (t := .boolean) hret (by simp) (hb hby d20_12) (by decide) (by decide) (v' := (1 : Int32)) rfl (by rw [e0]; exact ⟨rfl, N0, rfl⟩)
theorem d4_0 : dk B1 0 (.aload_n 0) 1 := by decide +kernel
theorem d4_1 : dk B1 1 (.invokespecial 3) 3 := by decide +kernel
theorem d4_4 : dk B1 4 (.getstatic 18) 3 := by decide +kernel
theorem d4_7 : dk B1 7 (.ifCond .eq 18) 3 := by decide +kernel
theorem d4_10 : dk B1 10 (.aload_n 0) 1 := by decide +kernel
theorem d4_11 : dk B1 11 (.iload_n 1) 1 := by decide +kernel
theorem d4_12 : dk B1 12 (.newarray .byte) 2 := by decide +kernel
theorem d4_14 : dk B1 14 (.putfield 15) 3 := by decide +kernel
theorem d4_17 : dk B1 17 (.aload_n 0) 1 := by decide +kernel
theorem d4_18 : dk B1 18 (.iconst 0) 1 := by decide +kernel
theorem d4_19 : dk B1 19 (.putfield 22) 3 := by decide +kernel
theorem d4_22 : dk B1 22 (.goto 16) 3 := by decide +kernel
theorem d4_25 : dk B1 25 (.aload_n 0) 1 := by decide +kernel
theorem d4_26 : dk B1 26 (.iload_n 1) 1 := by decide +kernel
theorem d4_27 : dk B1 27 (.invokestatic 26) 3 := by decide +kernel
theorem d4_30 : dk B1 30 (.putfield 15) 3 := by decide +kernel
theorem d4_33 : dk B1 33 (.aload_n 0) 1 := by decide +kernel
theorem d4_34 : dk B1 34 (.iconst 1) 1 := by decide +kernel
theorem d4_35 : dk B1 35 (.putfield 22) 3 := by decide +kernel
theorem d4_38 : dk B1 38 (.return_) 1 := by decide +kernel
theorem pn_4 : plainName "java/lang/AbstractStringBuilder" = true := by first | (simp [plainName, overriddenIn]; done) | decide +kernel
theorem ef_asbInit_0 (m : MethodId) (x0 : Addr) : entryFrame m #[(.ref x0), (.int 0)] 2 = mkF m 0 #[.val (.ref x0), .val (.int 0)] [] := by first | (simp [entryFrame, mkF, argsToLocals, Value.category]; done) | rfl
def Q_asbInit_0 (Z : State) (a1 : Addr) (zCS : Int32) (h0 : Heap) (n0 : Nat) (v : Option Value) (h : Heap) (L : List Loc) : Prop := ∃ tN : Addr, ∃ kN : ClassId, v = none ∧ Fr n0 L ∧ Keep h0 h [a1] ∧ h0.size ≤ tN ∧ ek19 Z h tN ∧ ek20 Z h a1 ∧ fk11 Z h a1 (.ref tN) ∧ fk12 Z h a1 (.int 0) ∧ fk13 Z h a1 (.int 0) ∧ fk14 Z h a1 (.int 0) ∧ Arv Z h tN kN .byte (0 : Int32) [] (.int 0)
theorem rm_asbInit_0 (l : Launch) (Z : State) (a0 : Array Value) (hw : HW a0 Z) (ws : List Jvm.Cond) (a1 : Addr) (zCS : Int32) (h0 : Heap) (n0 : Nat) (Z0 : n0 ≤ h0.size) (O0 : Old Z n0 h0) (E_1 : ek20 Z h0 a1) (g_1 : n0 ≤ a1) (Fv : fk11 Z h0 a1 .null) (Fc : fk12 Z h0 a1 (.int 0)) (Fn : fk13 Z h0 a1 (.int 0)) (Fm : fk14 Z h0 a1 (.int 0)) (S_CS : sk0 Z Z.heap (.int zCS)) (P_CS : ¬ zCS = 0) :
    M1 l ws (rmk 1 1 0 12) Z #[(.ref a1), (.int 0)] h0 (Q_asbInit_0 Z a1 zCS h0 n0) := by
  refine own_go "java/lang/AbstractStringBuilder" rfl (plainFor_of_name pn_4) (fun m => ef_asbInit_0 m a1) (fun p e s m below meth c s₁ hx hby hml hown hnm hlk hret hZ X0 e0 => ?_)
  have N0 := Fr.nil n0
  have K0 := Keep.refl h0 [a1]
  show gs s₁ m 0 #[vr a1, vi 0] []
  refine oaloadN X0 hx hby d4_0 rfl rfl ?_
  obtain ⟨T1, X1, e1, st1⟩ := initO X0 hx hZ hown (own_w hw 28 rfl) (own_w hw 29 rfl) (own_w hw 30 rfl) e0 (g := (mkF m 1 #[vr a1, vi 0] [(.ref a1)])) rfl (by rw [hml]; rfl) rfl (hb hby d4_1) (by decide) (W := 0) (by show 2 * 0 + _ ≤ _; exact Nat.le_of_eq rfl) (by decide)
  refine own_st st1 ?_
  show gs T1 m 4 #[vr a1, vi 0] []
  obtain ⟨T2, X2, e2, st2⟩ := getS2 X1 hx hZ hown (host := "") (Or.inl (own_w hw 31 rfl)) Via.refl e1 (Sta.ext O0.2 S_CS) (g := (mkF m 4 #[vr a1, vi 0] [])) rfl (hb hby d4_4)
  refine own_st st2 ?_
  show gs T2 m 7 #[vr a1, vi 0] [(.int zCS)]
  refine own_st (fun _ kS => XS.ifNo X2.here hx rfl (hb hby d4_7) rfl ((if0 _ _).trans (feq (P_CS : ¬ (zCS = (0 : Int32)))).1) kS) ?_
  show gs T2 m 10 #[vr a1, vi 0] []
  refine oaloadN X2 hx hby d4_10 rfl rfl ?_
  refine oiloadN X2 hx hby d4_11 rfl ?_
  show gs T2 m 12 #[vr a1, vi 0] [(.int 0), (.ref a1)]
  obtain ⟨T3, h3, k3, X3, e3, E3, A3, B3, st3⟩ := newPE X2 hx hZ (own_w hw 8 rfl) e2 (g := (mkF m 12 #[vr a1, vi 0] [(.int 0), (.ref a1)])) rfl (hb hby d4_12) rfl (by decide) (cap := 0) (by decide) (by decide) (by decide) (by decide) (ad := "[B") rfl
  obtain ⟨b3, g3⟩ : ∃ z, z = h0.size := ⟨_, rfl⟩
  have ne_a1_b3 : a1 ≠ b3 := Nat.ne_of_lt (Nat.lt_of_lt_of_eq E_1.lt g3.symm)
  have ge_b3 : n0 ≤ b3 := Nat.le_trans Z0 (Nat.le_of_eq g3.symm)
  have sz_b3 : h0.size ≤ b3 := Nat.le_trans K0.1 (Nat.le_of_eq g3.symm)
  rw [← g3] at A3 B3 st3
  have K3 := K0.ext E3
  have O3 := O0.ext E3
  have R3 : Arv Z h3 b3 k3 .byte (0 : Int32) [] (.int 0) := (Arv.new A3 (by decide)).pad (pad_rep [] (.int 0) 0)
  refine own_st st3 ?_
  show gs T3 m 14 #[vr a1, vi 0] [(.ref b3), (.ref a1)]
  obtain ⟨T4, h4, X4, e4, W4, st4⟩ := putF X3 hx hZ hown (host := "") (Or.inl (own_w hw 33 rfl)) Via.refl e3 (Fld.ext E3 Fv) (Exa.ext E3 E_1) (Or.inl (own_w hw 34 rfl)) (own_w hw 15 rfl) (ty := (.array .byte)) (by decide) rfl rfl (g := (mkF m 14 #[vr a1, vi 0] [(.ref b3), (.ref a1)])) rfl rfl (hb hby d4_14)
  refine own_st st4 ?_
  have N4 := Fr.snoc X4 N0 g_1
  have K4 := K3.wr W4 (Or.inl (List.mem_of_getElem? (i := 0) rfl))
  have O4 := O3.wr W4 g_1
  have Fw4 := Fld.same W4 (Fld.ext E3 Fv)
  show gs T4 m 17 #[vr a1, vi 0] []
  refine oaloadN X4 hx hby d4_17 rfl rfl ?_
  refine oiconst X4 hx hby d4_18 ?_
  show gs T4 m 19 #[vr a1, vi 0] [(.int 0), (.ref a1)]
  obtain ⟨T5, h5, X5, e5, W5, st5⟩ := putFN X4 hx hZ hown (own_w hw 35 rfl) Via.refl e4 (Fld.other W4 (Fld.ext E3 Fc) (Or.inr (slot_ne (Or.inl (own_w hw 36 rfl)) (Or.inl (own_w hw 34 rfl)) (by decide) (t := .byte) (t' := (.array .byte)) (by decide) (by decide)))) (Exa.wr W4 (Exa.ext E3 E_1)) (Or.inl (own_w hw 36 rfl)) (own_w hw 15 rfl) (ty := .byte) (v' := (.int 0)) (by decide) rfl (by decide) (g := (mkF m 19 #[vr a1, vi 0] [(.int 0), (.ref a1)])) rfl rfl (hb hby d4_19)
  refine own_st st5 ?_
  have N5 := Fr.snoc X5 N4 g_1
  have K5 := K4.wr W5 (Or.inl (List.mem_of_getElem? (i := 0) rfl))
  have O5 := O4.wr W5 g_1
  have Fw5 := Fld.same W5 (Fld.other W4 (Fld.ext E3 Fc) (Or.inr (slot_ne (Or.inl (own_w hw 36 rfl)) (Or.inl (own_w hw 34 rfl)) (by decide) (t := .byte) (t' := (.array .byte)) (by decide) (by decide))))
  show gs T5 m 22 #[vr a1, vi 0] []
  refine own_st (fun _ kS => XS.goto X5.here hx rfl (pc0 := 22) (pc' := 38) rfl (hb hby d4_22) (by decide) (by decide) kS) ?_
  show gs T5 m 38 #[vr a1, vi 0] []
  exact own_retV X5 hx hlk hret (hb hby d4_38) (by decide) (by decide) (by rw [e5]; exact ⟨b3, k3, ⟨rfl, N5, K5, sz_b3, (Exa.wr W5 (Exa.wr W4 B3)), (Exa.wr W5 (Exa.wr W4 (Exa.ext E3 E_1))), (Fld.other W5 Fw4 (Or.inr (slot_ne (Or.inl (own_w hw 34 rfl)) (Or.inl (own_w hw 36 rfl)) (by decide) (t := (.array .byte)) (t' := .byte) (by decide) (by decide)))), Fw5, (Fld.other W5 (Fld.other W4 (Fld.ext E3 Fn) (Or.inr (slot_ne (Or.inl (own_w hw 67 rfl)) (Or.inl (own_w hw 34 rfl)) (by decide) (t := .int) (t' := (.array .byte)) (by decide) (by decide)))) (Or.inr (slot_ne (Or.inl (own_w hw 67 rfl)) (Or.inl (own_w hw 36 rfl)) (by decide) (t := .int) (t' := .byte) (by decide) (by decide)))), (Fld.other W5 (Fld.other W4 (Fld.ext E3 Fm) (Or.inr (slot_ne (Or.inl (own_w hw 204 rfl)) (Or.inl (own_w hw 34 rfl)) (by decide) (t := .boolean) (t' := (.array .byte)) (by decide) (by decide)))) (Or.inr (slot_ne (Or.inl (own_w hw 204 rfl)) (Or.inl (own_w hw 36 rfl)) (by decide) (t := .boolean) (t' := .byte) (by decide) (by decide)))), ((R3.other W4 (Ne.symm ne_a1_b3)).other W5 (Ne.symm ne_a1_b3))⟩⟩)
theorem d3_0 : dk B2 0 (.aload_n 0) 1 := by decide +kernel
theorem d3_1 : dk B2 1 (.iload_n 1) 1 := by decide +kernel
theorem d3_2 : dk B2 2 (.invokespecial 1) 3 := by decide +kernel
theorem d3_5 : dk B2 5 (.return_) 1 := by decide +kernel
theorem pn_3 : plainName "java/lang/StringBuilder" = true := by first | (simp [plainName, overriddenIn]; done) | decide +kernel
theorem own_pd0 : parseMethodDescriptor "(I)V" = some ⟨[.int], none⟩ := by decide +kernel
theorem ef_sbInit_0 (m : MethodId) (x0 : Addr) : entryFrame m #[(.ref x0), (.int 0)] 2 = mkF m 0 #[.val (.ref x0), .val (.int 0)] [] := by first | (simp [entryFrame, mkF, argsToLocals, Value.category]; done) | rfl
def Q_sbInit_0 (Z : State) (a1 : Addr) (zCS : Int32) (h0 : Heap) (n0 : Nat) (v : Option Value) (h : Heap) (L : List Loc) : Prop := ∃ tN : Addr, ∃ kN : ClassId, v = none ∧ Fr n0 L ∧ Keep h0 h [a1] ∧ h0.size ≤ tN ∧ ek19 Z h tN ∧ ek20 Z h a1 ∧ fk11 Z h a1 (.ref tN) ∧ fk12 Z h a1 (.int 0) ∧ fk13 Z h a1 (.int 0) ∧ fk14 Z h a1 (.int 0) ∧ Arv Z h tN kN .byte (0 : Int32) [] (.int 0)
theorem rm_sbInit_0 (l : Launch) (Z : State) (a0 : Array Value) (hw : HW a0 Z) (ws : List Jvm.Cond) (a1 : Addr) (zCS : Int32) (h0 : Heap) (n0 : Nat) (Z0 : n0 ≤ h0.size) (O0 : Old Z n0 h0) (E_1 : ek20 Z h0 a1) (g_1 : n0 ≤ a1) (Fv : fk11 Z h0 a1 .null) (Fc : fk12 Z h0 a1 (.int 0)) (Fn : fk13 Z h0 a1 (.int 0)) (Fm : fk14 Z h0 a1 (.int 0)) (S_CS : sk0 Z Z.heap (.int zCS)) (P_CS : ¬ zCS = 0) :
    M2 l ws (rmk 2 1 0 25) Z #[(.ref a1), (.int 0)] h0 (Q_sbInit_0 Z a1 zCS h0 n0) := by
  refine own_go "java/lang/StringBuilder" rfl (plainFor_of_name pn_3) (fun m => ef_sbInit_0 m a1) (fun p e s m below meth c s₁ hx hby hml hown hnm hlk hret hZ X0 e0 => ?_)
  have N0 := Fr.nil n0
  have K0 := Keep.refl h0 [a1]
  show gs s₁ m 0 #[vr a1, vi 0] []
  refine oaloadN X0 hx hby d3_0 rfl rfl ?_
  refine oiloadN X0 hx hby d3_1 rfl ?_
  refine oN 0 X0 hx hZ hby hml hown (own_w hw 22 rfl) (own_w hw 23 rfl) (own_w hw 26 rfl) (own_w hw 27 rfl) (rm_asbInit_0 l Z a0 hw [] a1 zCS h0 n0 Z0 O0 E_1 g_1 Fv Fc Fn Fm S_CS P_CS) e0 rfl (by decide) own_pd0 d3_2 rfl rfl rfl (fun T1 L1 v1 X1 hQ1 => ?_)
  obtain ⟨tN_1, kN_1, rfl, Nq1, Kc1, P1_0, P1_1, P1_2, P1_3, P1_4, P1_5, P1_6, P1_7⟩ := hQ1
  have N1 := Fr.app N0 Nq1
  have ne_a1_tN_1 : a1 ≠ tN_1 := Nat.ne_of_lt (Nat.lt_of_lt_of_le E_1.lt P1_0)
  have ge_tN_1 : n0 ≤ tN_1 := Nat.le_trans Z0 P1_0
  have sz_tN_1 : h0.size ≤ tN_1 := Nat.le_trans K0.1 P1_0
  have K1 := K0.trans Kc1 (allS (Or.inl (List.mem_of_getElem? (i := 0) rfl)) all0)
  have O1 := O0.keep Kc1 (allS g_1 all0)
  show gs T1 m 5 #[vr a1, vi 0] []
  exact own_retV X1 hx hlk hret (hb hby d3_5) (by decide) (by decide) (show Q_sbInit_0 Z a1 zCS h0 n0 _ _ _ from ⟨tN_1, kN_1, ⟨rfl, N1, K1, sz_tN_1, P1_1, P1_2, P1_3, P1_4, P1_5, P1_6, P1_7⟩⟩)
theorem ef_asbInit_1 (m : MethodId) (x0 : Addr) : entryFrame m #[(.ref x0), (.int 1)] 2 = mkF m 0 #[.val (.ref x0), .val (.int 1)] [] := by first | (simp [entryFrame, mkF, argsToLocals, Value.category]; done) | rfl
def Q_asbInit_1 (Z : State) (a1 : Addr) (zCS : Int32) (h0 : Heap) (n0 : Nat) (v : Option Value) (h : Heap) (L : List Loc) : Prop := ∃ tN : Addr, ∃ kN : ClassId, v = none ∧ Fr n0 L ∧ Keep h0 h [a1] ∧ h0.size ≤ tN ∧ ek19 Z h tN ∧ ek20 Z h a1 ∧ fk11 Z h a1 (.ref tN) ∧ fk12 Z h a1 (.int 0) ∧ fk13 Z h a1 (.int 0) ∧ fk14 Z h a1 (.int 0) ∧ Arv Z h tN kN .byte (1 : Int32) [(.int 0)] (.int 0)
theorem rm_asbInit_1 (l : Launch) (Z : State) (a0 : Array Value) (hw : HW a0 Z) (ws : List Jvm.Cond) (a1 : Addr) (zCS : Int32) (h0 : Heap) (n0 : Nat) (Z0 : n0 ≤ h0.size) (O0 : Old Z n0 h0) (E_1 : ek20 Z h0 a1) (g_1 : n0 ≤ a1) (Fv : fk11 Z h0 a1 .null) (Fc : fk12 Z h0 a1 (.int 0)) (Fn : fk13 Z h0 a1 (.int 0)) (Fm : fk14 Z h0 a1 (.int 0)) (S_CS : sk0 Z Z.heap (.int zCS)) (P_CS : ¬ zCS = 0) :
    M1 l ws (rmk 1 1 1 12) Z #[(.ref a1), (.int 1)] h0 (Q_asbInit_1 Z a1 zCS h0 n0) := by
  refine own_go "java/lang/AbstractStringBuilder" rfl (plainFor_of_name pn_4) (fun m => ef_asbInit_1 m a1) (fun p e s m below meth c s₁ hx hby hml hown hnm hlk hret hZ X0 e0 => ?_)
  have N0 := Fr.nil n0
  have K0 := Keep.refl h0 [a1]
  show gs s₁ m 0 #[vr a1, vi 1] []
  refine oaloadN X0 hx hby d4_0 rfl rfl ?_
  obtain ⟨T1, X1, e1, st1⟩ := initO X0 hx hZ hown (own_w hw 28 rfl) (own_w hw 29 rfl) (own_w hw 30 rfl) e0 (g := (mkF m 1 #[vr a1, vi 1] [(.ref a1)])) rfl (by rw [hml]; rfl) rfl (hb hby d4_1) (by decide) (W := 0) (by show 2 * 0 + _ ≤ _; exact Nat.le_of_eq rfl) (by decide)
  refine own_st st1 ?_
  show gs T1 m 4 #[vr a1, vi 1] []
  obtain ⟨T2, X2, e2, st2⟩ := getS2 X1 hx hZ hown (host := "") (Or.inl (own_w hw 31 rfl)) Via.refl e1 (Sta.ext O0.2 S_CS) (g := (mkF m 4 #[vr a1, vi 1] [])) rfl (hb hby d4_4)
  refine own_st st2 ?_
  show gs T2 m 7 #[vr a1, vi 1] [(.int zCS)]
  refine own_st (fun _ kS => XS.ifNo X2.here hx rfl (hb hby d4_7) rfl ((if0 _ _).trans (feq (P_CS : ¬ (zCS = (0 : Int32)))).1) kS) ?_
  show gs T2 m 10 #[vr a1, vi 1] []
  refine oaloadN X2 hx hby d4_10 rfl rfl ?_
  refine oiloadN X2 hx hby d4_11 rfl ?_
  show gs T2 m 12 #[vr a1, vi 1] [(.int 1), (.ref a1)]
  obtain ⟨T3, h3, k3, X3, e3, E3, A3, B3, st3⟩ := newPE X2 hx hZ (own_w hw 8 rfl) e2 (g := (mkF m 12 #[vr a1, vi 1] [(.int 1), (.ref a1)])) rfl (hb hby d4_12) rfl (by decide) (cap := 1) (by decide) (by decide) (by decide) (by decide) (ad := "[B") rfl
  obtain ⟨b3, g3⟩ : ∃ z, z = h0.size := ⟨_, rfl⟩
  have ne_a1_b3 : a1 ≠ b3 := Nat.ne_of_lt (Nat.lt_of_lt_of_eq E_1.lt g3.symm)
  have ge_b3 : n0 ≤ b3 := Nat.le_trans Z0 (Nat.le_of_eq g3.symm)
  have sz_b3 : h0.size ≤ b3 := Nat.le_trans K0.1 (Nat.le_of_eq g3.symm)
  rw [← g3] at A3 B3 st3
  have K3 := K0.ext E3
  have O3 := O0.ext E3
  have R3 : Arv Z h3 b3 k3 .byte (1 : Int32) [(.int 0)] (.int 0) := (Arv.new A3 (by decide)).pad (pad_rep [] (.int 0) 1)
  refine own_st st3 ?_
  show gs T3 m 14 #[vr a1, vi 1] [(.ref b3), (.ref a1)]
  obtain ⟨T4, h4, X4, e4, W4, st4⟩ := putF X3 hx hZ hown (host := "") (Or.inl (own_w hw 33 rfl)) Via.refl e3 (Fld.ext E3 Fv) (Exa.ext E3 E_1) (Or.inl (own_w hw 34 rfl)) (own_w hw 15 rfl) (ty := (.array .byte)) (by decide) rfl rfl (g := (mkF m 14 #[vr a1, vi 1] [(.ref b3), (.ref a1)])) rfl rfl (hb hby d4_14)
  refine own_st st4 ?_
  have N4 := Fr.snoc X4 N0 g_1
  have K4 := K3.wr W4 (Or.inl (List.mem_of_getElem? (i := 0) rfl))
  have O4 := O3.wr W4 g_1
  have Fw4 := Fld.same W4 (Fld.ext E3 Fv)
  show gs T4 m 17 #[vr a1, vi 1] []
  refine oaloadN X4 hx hby d4_17 rfl rfl ?_
  refine oiconst X4 hx hby d4_18 ?_
  show gs T4 m 19 #[vr a1, vi 1] [(.int 0), (.ref a1)]
  obtain ⟨T5, h5, X5, e5, W5, st5⟩ := putFN X4 hx hZ hown (own_w hw 35 rfl) Via.refl e4 (Fld.other W4 (Fld.ext E3 Fc) (Or.inr (slot_ne (Or.inl (own_w hw 36 rfl)) (Or.inl (own_w hw 34 rfl)) (by decide) (t := .byte) (t' := (.array .byte)) (by decide) (by decide)))) (Exa.wr W4 (Exa.ext E3 E_1)) (Or.inl (own_w hw 36 rfl)) (own_w hw 15 rfl) (ty := .byte) (v' := (.int 0)) (by decide) rfl (by decide) (g := (mkF m 19 #[vr a1, vi 1] [(.int 0), (.ref a1)])) rfl rfl (hb hby d4_19)
  refine own_st st5 ?_
  have N5 := Fr.snoc X5 N4 g_1
  have K5 := K4.wr W5 (Or.inl (List.mem_of_getElem? (i := 0) rfl))
  have O5 := O4.wr W5 g_1
  have Fw5 := Fld.same W5 (Fld.other W4 (Fld.ext E3 Fc) (Or.inr (slot_ne (Or.inl (own_w hw 36 rfl)) (Or.inl (own_w hw 34 rfl)) (by decide) (t := .byte) (t' := (.array .byte)) (by decide) (by decide))))
  show gs T5 m 22 #[vr a1, vi 1] []
  refine own_st (fun _ kS => XS.goto X5.here hx rfl (pc0 := 22) (pc' := 38) rfl (hb hby d4_22) (by decide) (by decide) kS) ?_
  show gs T5 m 38 #[vr a1, vi 1] []
  exact own_retV X5 hx hlk hret (hb hby d4_38) (by decide) (by decide) (by rw [e5]; exact ⟨b3, k3, ⟨rfl, N5, K5, sz_b3, (Exa.wr W5 (Exa.wr W4 B3)), (Exa.wr W5 (Exa.wr W4 (Exa.ext E3 E_1))), (Fld.other W5 Fw4 (Or.inr (slot_ne (Or.inl (own_w hw 34 rfl)) (Or.inl (own_w hw 36 rfl)) (by decide) (t := (.array .byte)) (t' := .byte) (by decide) (by decide)))), Fw5, (Fld.other W5 (Fld.other W4 (Fld.ext E3 Fn) (Or.inr (slot_ne (Or.inl (own_w hw 67 rfl)) (Or.inl (own_w hw 34 rfl)) (by decide) (t := .int) (t' := (.array .byte)) (by decide) (by decide)))) (Or.inr (slot_ne (Or.inl (own_w hw 67 rfl)) (Or.inl (own_w hw 36 rfl)) (by decide) (t := .int) (t' := .byte) (by decide) (by decide)))), (Fld.other W5 (Fld.other W4 (Fld.ext E3 Fm) (Or.inr (slot_ne (Or.inl (own_w hw 204 rfl)) (Or.inl (own_w hw 34 rfl)) (by decide) (t := .boolean) (t' := (.array .byte)) (by decide) (by decide)))) (Or.inr (slot_ne (Or.inl (own_w hw 204 rfl)) (Or.inl (own_w hw 36 rfl)) (by decide) (t := .boolean) (t' := .byte) (by decide) (by decide)))), ((R3.other W4 (Ne.symm ne_a1_b3)).other W5 (Ne.symm ne_a1_b3))⟩⟩)
theorem ef_sbInit_1 (m : MethodId) (x0 : Addr) : entryFrame m #[(.ref x0), (.int 1)] 2 = mkF m 0 #[.val (.ref x0), .val (.int 1)] [] := by first | (simp [entryFrame, mkF, argsToLocals, Value.category]; done) | rfl
def Q_sbInit_1 (Z : State) (a1 : Addr) (zCS : Int32) (h0 : Heap) (n0 : Nat) (v : Option Value) (h : Heap) (L : List Loc) : Prop := ∃ tN : Addr, ∃ kN : ClassId, v = none ∧ Fr n0 L ∧ Keep h0 h [a1] ∧ h0.size ≤ tN ∧ ek19 Z h tN ∧ ek20 Z h a1 ∧ fk11 Z h a1 (.ref tN) ∧ fk12 Z h a1 (.int 0) ∧ fk13 Z h a1 (.int 0) ∧ fk14 Z h a1 (.int 0) ∧ Arv Z h tN kN .byte (1 : Int32) [(.int 0)] (.int 0)
theorem rm_sbInit_1 (l : Launch) (Z : State) (a0 : Array Value) (hw : HW a0 Z) (ws : List Jvm.Cond) (a1 : Addr) (zCS : Int32) (h0 : Heap) (n0 : Nat) (Z0 : n0 ≤ h0.size) (O0 : Old Z n0 h0) (E_1 : ek20 Z h0 a1) (g_1 : n0 ≤ a1) (Fv : fk11 Z h0 a1 .null) (Fc : fk12 Z h0 a1 (.int 0)) (Fn : fk13 Z h0 a1 (.int 0)) (Fm : fk14 Z h0 a1 (.int 0)) (S_CS : sk0 Z Z.heap (.int zCS)) (P_CS : ¬ zCS = 0) :
    M2 l ws (rmk 2 1 1 25) Z #[(.ref a1), (.int 1)] h0 (Q_sbInit_1 Z a1 zCS h0 n0) := by
  refine own_go "java/lang/StringBuilder" rfl (plainFor_of_name pn_3) (fun m => ef_sbInit_1 m a1) (fun p e s m below meth c s₁ hx hby hml hown hnm hlk hret hZ X0 e0 => ?_)
  have N0 := Fr.nil n0
  have K0 := Keep.refl h0 [a1]
  show gs s₁ m 0 #[vr a1, vi 1] []
  refine oaloadN X0 hx hby d3_0 rfl rfl ?_
  refine oiloadN X0 hx hby d3_1 rfl ?_
  refine oN 0 X0 hx hZ hby hml hown (own_w hw 22 rfl) (own_w hw 23 rfl) (own_w hw 26 rfl) (own_w hw 27 rfl) (rm_asbInit_1 l Z a0 hw [] a1 zCS h0 n0 Z0 O0 E_1 g_1 Fv Fc Fn Fm S_CS P_CS) e0 rfl (by decide) own_pd0 d3_2 rfl rfl rfl (fun T1 L1 v1 X1 hQ1 => ?_)
  obtain ⟨tN_1, kN_1, rfl, Nq1, Kc1, P1_0, P1_1, P1_2, P1_3, P1_4, P1_5, P1_6, P1_7⟩ := hQ1
  have N1 := Fr.app N0 Nq1
  have ne_a1_tN_1 : a1 ≠ tN_1 := Nat.ne_of_lt (Nat.lt_of_lt_of_le E_1.lt P1_0)
  have ge_tN_1 : n0 ≤ tN_1 := Nat.le_trans Z0 P1_0
  have sz_tN_1 : h0.size ≤ tN_1 := Nat.le_trans K0.1 P1_0
  have K1 := K0.trans Kc1 (allS (Or.inl (List.mem_of_getElem? (i := 0) rfl)) all0)
  have O1 := O0.keep Kc1 (allS g_1 all0)
  show gs T1 m 5 #[vr a1, vi 1] []
  exact own_retV X1 hx hlk hret (hb hby d3_5) (by decide) (by decide) (show Q_sbInit_1 Z a1 zCS h0 n0 _ _ _ from ⟨tN_1, kN_1, ⟨rfl, N1, K1, sz_tN_1, P1_1, P1_2, P1_3, P1_4, P1_5, P1_6, P1_7⟩⟩)
theorem ef_asbInit_2 (m : MethodId) (x0 : Addr) : entryFrame m #[(.ref x0), (.int 2)] 2 = mkF m 0 #[.val (.ref x0), .val (.int 2)] [] := by first | (simp [entryFrame, mkF, argsToLocals, Value.category]; done) | rfl
def Q_asbInit_2 (Z : State) (a1 : Addr) (zCS : Int32) (h0 : Heap) (n0 : Nat) (v : Option Value) (h : Heap) (L : List Loc) : Prop := ∃ tN : Addr, ∃ kN : ClassId, v = none ∧ Fr n0 L ∧ Keep h0 h [a1] ∧ h0.size ≤ tN ∧ ek19 Z h tN ∧ ek20 Z h a1 ∧ fk11 Z h a1 (.ref tN) ∧ fk12 Z h a1 (.int 0) ∧ fk13 Z h a1 (.int 0) ∧ fk14 Z h a1 (.int 0) ∧ Arv Z h tN kN .byte (2 : Int32) [(.int 0), (.int 0)] (.int 0)
theorem rm_asbInit_2 (l : Launch) (Z : State) (a0 : Array Value) (hw : HW a0 Z) (ws : List Jvm.Cond) (a1 : Addr) (zCS : Int32) (h0 : Heap) (n0 : Nat) (Z0 : n0 ≤ h0.size) (O0 : Old Z n0 h0) (E_1 : ek20 Z h0 a1) (g_1 : n0 ≤ a1) (Fv : fk11 Z h0 a1 .null) (Fc : fk12 Z h0 a1 (.int 0)) (Fn : fk13 Z h0 a1 (.int 0)) (Fm : fk14 Z h0 a1 (.int 0)) (S_CS : sk0 Z Z.heap (.int zCS)) (P_CS : ¬ zCS = 0) :
    M1 l ws (rmk 1 1 2 12) Z #[(.ref a1), (.int 2)] h0 (Q_asbInit_2 Z a1 zCS h0 n0) := by
  refine own_go "java/lang/AbstractStringBuilder" rfl (plainFor_of_name pn_4) (fun m => ef_asbInit_2 m a1) (fun p e s m below meth c s₁ hx hby hml hown hnm hlk hret hZ X0 e0 => ?_)
  have N0 := Fr.nil n0
  have K0 := Keep.refl h0 [a1]
  show gs s₁ m 0 #[vr a1, vi 2] []
  refine oaloadN X0 hx hby d4_0 rfl rfl ?_
  obtain ⟨T1, X1, e1, st1⟩ := initO X0 hx hZ hown (own_w hw 28 rfl) (own_w hw 29 rfl) (own_w hw 30 rfl) e0 (g := (mkF m 1 #[vr a1, vi 2] [(.ref a1)])) rfl (by rw [hml]; rfl) rfl (hb hby d4_1) (by decide) (W := 0) (by show 2 * 0 + _ ≤ _; exact Nat.le_of_eq rfl) (by decide)
  refine own_st st1 ?_
  show gs T1 m 4 #[vr a1, vi 2] []
  obtain ⟨T2, X2, e2, st2⟩ := getS2 X1 hx hZ hown (host := "") (Or.inl (own_w hw 31 rfl)) Via.refl e1 (Sta.ext O0.2 S_CS) (g := (mkF m 4 #[vr a1, vi 2] [])) rfl (hb hby d4_4)
  refine own_st st2 ?_
  show gs T2 m 7 #[vr a1, vi 2] [(.int zCS)]
  refine own_st (fun _ kS => XS.ifNo X2.here hx rfl (hb hby d4_7) rfl ((if0 _ _).trans (feq (P_CS : ¬ (zCS = (0 : Int32)))).1) kS) ?_
  show gs T2 m 10 #[vr a1, vi 2] []
  refine oaloadN X2 hx hby d4_10 rfl rfl ?_
  refine oiloadN X2 hx hby d4_11 rfl ?_
  show gs T2 m 12 #[vr a1, vi 2] [(.int 2), (.ref a1)]
  obtain ⟨T3, h3, k3, X3, e3, E3, A3, B3, st3⟩ := newPE X2 hx hZ (own_w hw 8 rfl) e2 (g := (mkF m 12 #[vr a1, vi 2] [(.int 2), (.ref a1)])) rfl (hb hby d4_12) rfl (by decide) (cap := 2) (by decide) (by decide) (by decide) (by decide) (ad := "[B") rfl
  obtain ⟨b3, g3⟩ : ∃ z, z = h0.size := ⟨_, rfl⟩
  have ne_a1_b3 : a1 ≠ b3 := Nat.ne_of_lt (Nat.lt_of_lt_of_eq E_1.lt g3.symm)
  have ge_b3 : n0 ≤ b3 := Nat.le_trans Z0 (Nat.le_of_eq g3.symm)
  have sz_b3 : h0.size ≤ b3 := Nat.le_trans K0.1 (Nat.le_of_eq g3.symm)
  rw [← g3] at A3 B3 st3
  have K3 := K0.ext E3
  have O3 := O0.ext E3
  have R3 : Arv Z h3 b3 k3 .byte (2 : Int32) [(.int 0), (.int 0)] (.int 0) := (Arv.new A3 (by decide)).pad (pad_rep [] (.int 0) 2)
  refine own_st st3 ?_
  show gs T3 m 14 #[vr a1, vi 2] [(.ref b3), (.ref a1)]
  obtain ⟨T4, h4, X4, e4, W4, st4⟩ := putF X3 hx hZ hown (host := "") (Or.inl (own_w hw 33 rfl)) Via.refl e3 (Fld.ext E3 Fv) (Exa.ext E3 E_1) (Or.inl (own_w hw 34 rfl)) (own_w hw 15 rfl) (ty := (.array .byte)) (by decide) rfl rfl (g := (mkF m 14 #[vr a1, vi 2] [(.ref b3), (.ref a1)])) rfl rfl (hb hby d4_14)
  refine own_st st4 ?_
  have N4 := Fr.snoc X4 N0 g_1
  have K4 := K3.wr W4 (Or.inl (List.mem_of_getElem? (i := 0) rfl))
  have O4 := O3.wr W4 g_1
  have Fw4 := Fld.same W4 (Fld.ext E3 Fv)
  show gs T4 m 17 #[vr a1, vi 2] []
  refine oaloadN X4 hx hby d4_17 rfl rfl ?_
  refine oiconst X4 hx hby d4_18 ?_
  show gs T4 m 19 #[vr a1, vi 2] [(.int 0), (.ref a1)]
  obtain ⟨T5, h5, X5, e5, W5, st5⟩ := putFN X4 hx hZ hown (own_w hw 35 rfl) Via.refl e4 (Fld.other W4 (Fld.ext E3 Fc) (Or.inr (slot_ne (Or.inl (own_w hw 36 rfl)) (Or.inl (own_w hw 34 rfl)) (by decide) (t := .byte) (t' := (.array .byte)) (by decide) (by decide)))) (Exa.wr W4 (Exa.ext E3 E_1)) (Or.inl (own_w hw 36 rfl)) (own_w hw 15 rfl) (ty := .byte) (v' := (.int 0)) (by decide) rfl (by decide) (g := (mkF m 19 #[vr a1, vi 2] [(.int 0), (.ref a1)])) rfl rfl (hb hby d4_19)
  refine own_st st5 ?_
  have N5 := Fr.snoc X5 N4 g_1
  have K5 := K4.wr W5 (Or.inl (List.mem_of_getElem? (i := 0) rfl))
  have O5 := O4.wr W5 g_1
  have Fw5 := Fld.same W5 (Fld.other W4 (Fld.ext E3 Fc) (Or.inr (slot_ne (Or.inl (own_w hw 36 rfl)) (Or.inl (own_w hw 34 rfl)) (by decide) (t := .byte) (t' := (.array .byte)) (by decide) (by decide))))
  show gs T5 m 22 #[vr a1, vi 2] []
  refine own_st (fun _ kS => XS.goto X5.here hx rfl (pc0 := 22) (pc' := 38) rfl (hb hby d4_22) (by decide) (by decide) kS) ?_
  show gs T5 m 38 #[vr a1, vi 2] []
  exact own_retV X5 hx hlk hret (hb hby d4_38) (by decide) (by decide) (by rw [e5]; exact ⟨b3, k3, ⟨rfl, N5, K5, sz_b3, (Exa.wr W5 (Exa.wr W4 B3)), (Exa.wr W5 (Exa.wr W4 (Exa.ext E3 E_1))), (Fld.other W5 Fw4 (Or.inr (slot_ne (Or.inl (own_w hw 34 rfl)) (Or.inl (own_w hw 36 rfl)) (by decide) (t := (.array .byte)) (t' := .byte) (by decide) (by decide)))), Fw5, (Fld.other W5 (Fld.other W4 (Fld.ext E3 Fn) (Or.inr (slot_ne (Or.inl (own_w hw 67 rfl)) (Or.inl (own_w hw 34 rfl)) (by decide) (t := .int) (t' := (.array .byte)) (by decide) (by decide)))) (Or.inr (slot_ne (Or.inl (own_w hw 67 rfl)) (Or.inl (own_w hw 36 rfl)) (by decide) (t := .int) (t' := .byte) (by decide) (by decide)))), (Fld.other W5 (Fld.other W4 (Fld.ext E3 Fm) (Or.inr (slot_ne (Or.inl (own_w hw 204 rfl)) (Or.inl (own_w hw 34 rfl)) (by decide) (t := .boolean) (t' := (.array .byte)) (by decide) (by decide)))) (Or.inr (slot_ne (Or.inl (own_w hw 204 rfl)) (Or.inl (own_w hw 36 rfl)) (by decide) (t := .boolean) (t' := .byte) (by decide) (by decide)))), ((R3.other W4 (Ne.symm ne_a1_b3)).other W5 (Ne.symm ne_a1_b3))⟩⟩)
theorem ef_sbInit_2 (m : MethodId) (x0 : Addr) : entryFrame m #[(.ref x0), (.int 2)] 2 = mkF m 0 #[.val (.ref x0), .val (.int 2)] [] := by first | (simp [entryFrame, mkF, argsToLocals, Value.category]; done) | rfl
def Q_sbInit_2 (Z : State) (a1 : Addr) (zCS : Int32) (h0 : Heap) (n0 : Nat) (v : Option Value) (h : Heap) (L : List Loc) : Prop := ∃ tN : Addr, ∃ kN : ClassId, v = none ∧ Fr n0 L ∧ Keep h0 h [a1] ∧ h0.size ≤ tN ∧ ek19 Z h tN ∧ ek20 Z h a1 ∧ fk11 Z h a1 (.ref tN) ∧ fk12 Z h a1 (.int 0) ∧ fk13 Z h a1 (.int 0) ∧ fk14 Z h a1 (.int 0) ∧ Arv Z h tN kN .byte (2 : Int32) [(.int 0), (.int 0)] (.int 0)
theorem rm_sbInit_2 (l : Launch) (Z : State) (a0 : Array Value) (hw : HW a0 Z) (ws : List Jvm.Cond) (a1 : Addr) (zCS : Int32) (h0 : Heap) (n0 : Nat) (Z0 : n0 ≤ h0.size) (O0 : Old Z n0 h0) (E_1 : ek20 Z h0 a1) (g_1 : n0 ≤ a1) (Fv : fk11 Z h0 a1 .null) (Fc : fk12 Z h0 a1 (.int 0)) (Fn : fk13 Z h0 a1 (.int 0)) (Fm : fk14 Z h0 a1 (.int 0)) (S_CS : sk0 Z Z.heap (.int zCS)) (P_CS : ¬ zCS = 0) :
    M2 l ws (rmk 2 1 2 25) Z #[(.ref a1), (.int 2)] h0 (Q_sbInit_2 Z a1 zCS h0 n0) := by
  refine own_go "java/lang/StringBuilder" rfl (plainFor_of_name pn_3) (fun m => ef_sbInit_2 m a1) (fun p e s m below meth c s₁ hx hby hml hown hnm hlk hret hZ X0 e0 => ?_)
  have N0 := Fr.nil n0
  have K0 := Keep.refl h0 [a1]
  show gs s₁ m 0 #[vr a1, vi 2] []
  refine oaloadN X0 hx hby d3_0 rfl rfl ?_
  refine oiloadN X0 hx hby d3_1 rfl ?_
  refine oN 0 X0 hx hZ hby hml hown (own_w hw 22 rfl) (own_w hw 23 rfl) (own_w hw 26 rfl) (own_w hw 27 rfl) (rm_asbInit_2 l Z a0 hw [] a1 zCS h0 n0 Z0 O0 E_1 g_1 Fv Fc Fn Fm S_CS P_CS) e0 rfl (by decide) own_pd0 d3_2 rfl rfl rfl (fun T1 L1 v1 X1 hQ1 => ?_)
  obtain ⟨tN_1, kN_1, rfl, Nq1, Kc1, P1_0, P1_1, P1_2, P1_3, P1_4, P1_5, P1_6, P1_7⟩ := hQ1
  have N1 := Fr.app N0 Nq1
  have ne_a1_tN_1 : a1 ≠ tN_1 := Nat.ne_of_lt (Nat.lt_of_lt_of_le E_1.lt P1_0)
  have ge_tN_1 : n0 ≤ tN_1 := Nat.le_trans Z0 P1_0
  have sz_tN_1 : h0.size ≤ tN_1 := Nat.le_trans K0.1 P1_0
  have K1 := K0.trans Kc1 (allS (Or.inl (List.mem_of_getElem? (i := 0) rfl)) all0)
  have O1 := O0.keep Kc1 (allS g_1 all0)
  show gs T1 m 5 #[vr a1, vi 2] []
  exact own_retV X1 hx hlk hret (hb hby d3_5) (by decide) (by decide) (show Q_sbInit_2 Z a1 zCS h0 n0 _ _ _ from ⟨tN_1, kN_1, ⟨rfl, N1, K1, sz_tN_1, P1_1, P1_2, P1_3, P1_4, P1_5, P1_6, P1_7⟩⟩)
theorem d38_0 : dk B3 0 (.getstatic 44) 3 := by decide +kernel
theorem d38_3 : dk B3 3 (.ifCond .ne 25) 3 := by decide +kernel
theorem d38_6 : dk B3 6 (.iload_n 1) 1 := by decide +kernel
theorem d38_7 : dk B3 7 (.ifCond .lt 11) 3 := by decide +kernel
theorem d38_10 : dk B3 10 (.iload_n 1) 1 := by decide +kernel
theorem d38_11 : dk B3 11 (.aload_n 0) 1 := by decide +kernel
theorem d38_12 : dk B3 12 (.invokestatic 48) 3 := by decide +kernel
theorem d38_15 : dk B3 15 (.if_icmp .lt 13) 3 := by decide +kernel
theorem d38_18 : dk B3 18 (.new 52) 3 := by decide +kernel
theorem d38_21 : dk B3 21 (.dup) 1 := by decide +kernel
theorem d38_22 : dk B3 22 (.ldc 54) 2 := by decide +kernel
theorem d38_24 : dk B3 24 (.invokespecial 56) 3 := by decide +kernel
theorem d38_27 : dk B3 27 (.athrow) 1 := by decide +kernel
theorem d38_28 : dk B3 28 (.iload_n 1) 1 := by decide +kernel
theorem d38_29 : dk B3 29 (.iconst 1) 1 := by decide +kernel
theorem d38_30 : dk B3 30 (.ishl) 1 := by decide +kernel
theorem d38_31 : dk B3 31 (.istore_n 1) 1 := by decide +kernel
theorem d38_32 : dk B3 32 (.aload_n 0) 1 := by decide +kernel
theorem d38_33 : dk B3 33 (.iload_n 1) 1 := by decide +kernel
theorem d38_34 : dk B3 34 (.iinc 1 1) 3 := by decide +kernel
theorem d38_37 : dk B3 37 (.iload_n 2) 1 := by decide +kernel
theorem d38_38 : dk B3 38 (.getstatic 59) 3 := by decide +kernel
theorem d38_41 : dk B3 41 (.ishr) 1 := by decide +kernel
theorem d38_42 : dk B3 42 (.i2b) 1 := by decide +kernel
theorem d38_43 : dk B3 43 (.bastore) 1 := by decide +kernel
theorem d38_44 : dk B3 44 (.aload_n 0) 1 := by decide +kernel
theorem d38_45 : dk B3 45 (.iload_n 1) 1 := by decide +kernel
theorem d38_46 : dk B3 46 (.iload_n 2) 1 := by decide +kernel
theorem d38_47 : dk B3 47 (.getstatic 63) 3 := by decide +kernel
theorem d38_50 : dk B3 50 (.ishr) 1 := by decide +kernel
theorem d38_51 : dk B3 51 (.i2b) 1 := by decide +kernel
theorem d38_52 : dk B3 52 (.bastore) 1 := by decide +kernel
theorem d38_53 : dk B3 53 (.return_) 1 := by decide +kernel
theorem pn_38 : plainName "java/lang/StringUTF16" = true := by first | (simp [plainName, overriddenIn]; done) | decide +kernel
theorem ef_put_0_1 (m : MethodId) (x0 : Addr) (x1 : Int32) : entryFrame m #[(.ref x0), (.int 0), (.int x1)] 3 = mkF m 0 #[.val (.ref x0), .val (.int 0), .val (.int x1)] [] := by first | (simp [entryFrame, mkF, argsToLocals, Value.category]; done) | rfl
def Q_put_0_1 (Z : State) (tA : Addr) (kA : ClassId) (c1 : Int32) (y0 : Int32) (y1 : Int32) (h0 : Heap) (n0 : Nat) (v : Option Value) (h : Heap) (L : List Loc) : Prop := v = none ∧ Fr n0 L ∧ Keep h0 h [tA] ∧ Arv Z h tA kA .byte (2 : Int32) [(.int (nar .byte ((c1 >>> ((0 : Int32) &&& 31)).toInt8.toInt32))), (.int (nar .byte ((c1 >>> ((8 : Int32) &&& 31)).toInt8.toInt32)))] (.int 0)
theorem rm_put_0_1 (l : Launch) (Z : State) (a0 : Array Value) (hw : HW a0 Z) (ws : List Jvm.Cond) (tA : Addr) (kA : ClassId) (c1 : Int32) (y0 : Int32) (y1 : Int32) (h0 : Heap) (n0 : Nat) (Z0 : n0 ≤ h0.size) (O0 : Old Z n0 h0) (R_A : Arv Z h0 tA kA .byte (2 : Int32) [(.int y0), (.int y1)] (.int 0)) (g_A : n0 ≤ tA) (S_AD : sk1 Z Z.heap (.int 1)) (S_HI : sk2 Z Z.heap (.int 0)) (S_LO : sk3 Z Z.heap (.int 8)) :
    M3 l ws (rmk 0 0 0 0) Z #[(.ref tA), (.int 0), (.int c1)] h0 (Q_put_0_1 Z tA kA c1 y0 y1 h0 n0) := by
  refine own_go "java/lang/StringUTF16" rfl (plainFor_of_name pn_38) (fun m => ef_put_0_1 m tA c1) (fun p e s m below meth c s₁ hx hby hml hown hnm hlk hret hZ X0 e0 => ?_)
  have N0 := Fr.nil n0
  have K0 := Keep.refl h0 [tA]
  show gs s₁ m 0 #[vr tA, vi 0, vi c1] []
  obtain ⟨T1, X1, e1, st1⟩ := getS2 X0 hx hZ hown (host := "") (Or.inl (own_w hw 200 rfl)) Via.refl e0 (Sta.ext O0.2 S_AD) (g := (mkF m 0 #[vr tA, vi 0, vi c1] [])) rfl (hb hby d38_0)
  refine own_st st1 ?_
  show gs T1 m 3 #[vr tA, vi 0, vi c1] [(.int 1)]
  refine own_st (fun _ kS => XS.ifYes X1.here hx rfl (pc0 := 3) (pc' := 28) rfl (hb hby d38_3) rfl ((if0 _ _).trans (feq (by decide : ¬ ((1 : Int32) = (0 : Int32)))).2) (by decide) (by decide) kS) ?_
  show gs T1 m 28 #[vr tA, vi 0, vi c1] []
  refine oiloadN X1 hx hby d38_28 rfl ?_
  refine oiconst X1 hx hby d38_29 ?_
  refine own_st (fun _ kS => XT.ishl X1.here hx rfl (hb hby d38_30) rfl kS) ?_
  refine own_st (fun _ kS => XS.istoreN X1.here hx rfl (hb hby d38_31) rfl (l' := #[vr tA, vi 0, vi c1]) rfl kS) ?_
  refine oaloadN X1 hx hby d38_32 rfl rfl ?_
  refine oiloadN X1 hx hby d38_33 rfl ?_
  refine own_st (fun _ kS => XS.iinc X1.here hx rfl (hb hby d38_34) rfl (l' := #[vr tA, vi 1, vi c1]) rfl kS) ?_
  refine oiloadN X1 hx hby d38_37 rfl ?_
  obtain ⟨T2, X2, e2, st2⟩ := getS2 X1 hx hZ hown (host := "") (Or.inl (own_w hw 201 rfl)) Via.refl e1 (Sta.ext O0.2 S_HI) (g := (mkF m 38 #[vr tA, vi 1, vi c1] [(.int c1), (.int 0), (.ref tA)])) rfl (hb hby d38_38)
  refine own_st st2 ?_
  show gs T2 m 41 #[vr tA, vi 1, vi c1] [(.int 0), (.int c1), (.int 0), (.ref tA)]
  refine own_st (fun _ kS => XT.ishr X2.here hx rfl (hb hby d38_41) rfl kS) ?_
  refine own_st (fun _ kS => XT.i2b X2.here hx rfl (hb hby d38_42) rfl kS) ?_
  show gs T2 m 43 #[vr tA, vi 1, vi c1] [(.int ((c1 >>> ((0 : Int32) &&& 31)).toInt8.toInt32)), (.int 0), (.ref tA)]
  obtain ⟨cl3, Ar3, qa3, qs3, qn3, qh3, qg3⟩ := id R_A
  obtain ⟨T3, h3, X3, e3, W3, st3⟩ := stB X2 hx hZ e2 Ar3 (j := (0 : Int32)) (inb_of qs3 ⟨by decide, by decide⟩) (g := (mkF m 43 #[vr tA, vi 1, vi c1] [(.int ((c1 >>> ((0 : Int32) &&& 31)).toInt8.toInt32)), (.int 0), (.ref tA)])) rfl rfl (hb hby d38_43)
  have N3 := Fr.snoc X3 N0 g_A
  have K3 := K0.wr W3 (Or.inl (List.mem_of_getElem? (i := 0) rfl))
  have O3 := O0.wr W3 g_A
  have R3 : Arv Z h3 tA kA .byte (2 : Int32) [(.int (nar .byte ((c1 >>> ((0 : Int32) &&& 31)).toInt8.toInt32))), (.int y1)] (.int 0) := Arv.set Ar3 qa3 qs3 qn3 qh3 qg3 (fits_nar_byte _) W3 0 rfl (Nat.le_of_ble_eq_true rfl)
  refine own_st st3 ?_
  show gs T3 m 44 #[vr tA, vi 1, vi c1] []
  refine oaloadN X3 hx hby d38_44 rfl rfl ?_
  refine oiloadN X3 hx hby d38_45 rfl ?_
  refine oiloadN X3 hx hby d38_46 rfl ?_
  obtain ⟨T4, X4, e4, st4⟩ := getS2 X3 hx hZ hown (host := "") (Or.inl (own_w hw 202 rfl)) Via.refl e3 (Sta.ext O3.2 S_LO) (g := (mkF m 47 #[vr tA, vi 1, vi c1] [(.int c1), (.int 1), (.ref tA)])) rfl (hb hby d38_47)
  refine own_st st4 ?_
  show gs T4 m 50 #[vr tA, vi 1, vi c1] [(.int 8), (.int c1), (.int 1), (.ref tA)]
  refine own_st (fun _ kS => XT.ishr X4.here hx rfl (hb hby d38_50) rfl kS) ?_
  refine own_st (fun _ kS => XT.i2b X4.here hx rfl (hb hby d38_51) rfl kS) ?_
  show gs T4 m 52 #[vr tA, vi 1, vi c1] [(.int ((c1 >>> ((8 : Int32) &&& 31)).toInt8.toInt32)), (.int 1), (.ref tA)]
  obtain ⟨cl5, Ar5, qa5, qs5, qn5, qh5, qg5⟩ := id R3
  obtain ⟨T5, h5, X5, e5, W5, st5⟩ := stB X4 hx hZ e4 Ar5 (j := (1 : Int32)) (inb_of qs5 ⟨by decide, by decide⟩) (g := (mkF m 52 #[vr tA, vi 1, vi c1] [(.int ((c1 >>> ((8 : Int32) &&& 31)).toInt8.toInt32)), (.int 1), (.ref tA)])) rfl rfl (hb hby d38_52)
  have N5 := Fr.snoc X5 N3 g_A
  have K5 := K3.wr W5 (Or.inl (List.mem_of_getElem? (i := 0) rfl))
  have O5 := O3.wr W5 g_A
  have R5 : Arv Z h5 tA kA .byte (2 : Int32) [(.int (nar .byte ((c1 >>> ((0 : Int32) &&& 31)).toInt8.toInt32))), (.int (nar .byte ((c1 >>> ((8 : Int32) &&& 31)).toInt8.toInt32)))] (.int 0) := Arv.set Ar5 qa5 qs5 qn5 qh5 qg5 (fits_nar_byte _) W5 1 rfl (Nat.le_of_ble_eq_true rfl)
  refine own_st st5 ?_
  show gs T5 m 53 #[vr tA, vi 1, vi c1] []
  exact own_retV X5 hx hlk hret (hb hby d38_53) (by decide) (by decide) (by rw [e5]; exact ⟨rfl, N5, K5, R5⟩)
theorem ef_put_0_2 (m : MethodId) (x0 : Addr) (x1 : Int32) : entryFrame m #[(.ref x0), (.int 0), (.int x1)] 3 = mkF m 0 #[.val (.ref x0), .val (.int 0), .val (.int x1)] [] := by first | (simp [entryFrame, mkF, argsToLocals, Value.category]; done) | rfl
def Q_put_0_2 (Z : State) (tA : Addr) (kA : ClassId) (c1 : Int32) (y0 : Int32) (y1 : Int32) (y2 : Int32) (y3 : Int32) (h0 : Heap) (n0 : Nat) (v : Option Value) (h : Heap) (L : List Loc) : Prop := v = none ∧ Fr n0 L ∧ Keep h0 h [tA] ∧ Arv Z h tA kA .byte (4 : Int32) [(.int (nar .byte ((c1 >>> ((0 : Int32) &&& 31)).toInt8.toInt32))), (.int (nar .byte ((c1 >>> ((8 : Int32) &&& 31)).toInt8.toInt32))), (.int y2), (.int y3)] (.int 0)
theorem rm_put_0_2 (l : Launch) (Z : State) (a0 : Array Value) (hw : HW a0 Z) (ws : List Jvm.Cond) (tA : Addr) (kA : ClassId) (c1 : Int32) (y0 : Int32) (y1 : Int32) (y2 : Int32) (y3 : Int32) (h0 : Heap) (n0 : Nat) (Z0 : n0 ≤ h0.size) (O0 : Old Z n0 h0) (R_A : Arv Z h0 tA kA .byte (4 : Int32) [(.int y0), (.int y1), (.int y2), (.int y3)] (.int 0)) (g_A : n0 ≤ tA) (S_AD : sk1 Z Z.heap (.int 1)) (S_HI : sk2 Z Z.heap (.int 0)) (S_LO : sk3 Z Z.heap (.int 8)) :
    M3 l ws (rmk 0 0 0 0) Z #[(.ref tA), (.int 0), (.int c1)] h0 (Q_put_0_2 Z tA kA c1 y0 y1 y2 y3 h0 n0) := by
  refine own_go "java/lang/StringUTF16" rfl (plainFor_of_name pn_38) (fun m => ef_put_0_2 m tA c1) (fun p e s m below meth c s₁ hx hby hml hown hnm hlk hret hZ X0 e0 => ?_)
  have N0 := Fr.nil n0
  have K0 := Keep.refl h0 [tA]
  show gs s₁ m 0 #[vr tA, vi 0, vi c1] []
  obtain ⟨T1, X1, e1, st1⟩ := getS2 X0 hx hZ hown (host := "") (Or.inl (own_w hw 200 rfl)) Via.refl e0 (Sta.ext O0.2 S_AD) (g := (mkF m 0 #[vr tA, vi 0, vi c1] [])) rfl (hb hby d38_0)
  refine own_st st1 ?_
  show gs T1 m 3 #[vr tA, vi 0, vi c1] [(.int 1)]
  refine own_st (fun _ kS => XS.ifYes X1.here hx rfl (pc0 := 3) (pc' := 28) rfl (hb hby d38_3) rfl ((if0 _ _).trans (feq (by decide : ¬ ((1 : Int32) = (0 : Int32)))).2) (by decide) (by decide) kS) ?_
  show gs T1 m 28 #[vr tA, vi 0, vi c1] []
  refine oiloadN X1 hx hby d38_28 rfl ?_
  refine oiconst X1 hx hby d38_29 ?_
  refine own_st (fun _ kS => XT.ishl X1.here hx rfl (hb hby d38_30) rfl kS) ?_
  refine own_st (fun _ kS => XS.istoreN X1.here hx rfl (hb hby d38_31) rfl (l' := #[vr tA, vi 0, vi c1]) rfl kS) ?_
  refine oaloadN X1 hx hby d38_32 rfl rfl ?_
  refine oiloadN X1 hx hby d38_33 rfl ?_
  refine own_st (fun _ kS => XS.iinc X1.here hx rfl (hb hby d38_34) rfl (l' := #[vr tA, vi 1, vi c1]) rfl kS) ?_
  refine oiloadN X1 hx hby d38_37 rfl ?_
  obtain ⟨T2, X2, e2, st2⟩ := getS2 X1 hx hZ hown (host := "") (Or.inl (own_w hw 201 rfl)) Via.refl e1 (Sta.ext O0.2 S_HI) (g := (mkF m 38 #[vr tA, vi 1, vi c1] [(.int c1), (.int 0), (.ref tA)])) rfl (hb hby d38_38)
  refine own_st st2 ?_
  show gs T2 m 41 #[vr tA, vi 1, vi c1] [(.int 0), (.int c1), (.int 0), (.ref tA)]
  refine own_st (fun _ kS => XT.ishr X2.here hx rfl (hb hby d38_41) rfl kS) ?_
  refine own_st (fun _ kS => XT.i2b X2.here hx rfl (hb hby d38_42) rfl kS) ?_
  show gs T2 m 43 #[vr tA, vi 1, vi c1] [(.int ((c1 >>> ((0 : Int32) &&& 31)).toInt8.toInt32)), (.int 0), (.ref tA)]
  obtain ⟨cl3, Ar3, qa3, qs3, qn3, qh3, qg3⟩ := id R_A
  obtain ⟨T3, h3, X3, e3, W3, st3⟩ := stB X2 hx hZ e2 Ar3 (j := (0 : Int32)) (inb_of qs3 ⟨by decide, by decide⟩) (g := (mkF m 43 #[vr tA, vi 1, vi c1] [(.int ((c1 >>> ((0 : Int32) &&& 31)).toInt8.toInt32)), (.int 0), (.ref tA)])) rfl rfl (hb hby d38_43)
  have N3 := Fr.snoc X3 N0 g_A
  have K3 := K0.wr W3 (Or.inl (List.mem_of_getElem? (i := 0) rfl))
  have O3 := O0.wr W3 g_A
  have R3 : Arv Z h3 tA kA .byte (4 : Int32) [(.int (nar .byte ((c1 >>> ((0 : Int32) &&& 31)).toInt8.toInt32))), (.int y1), (.int y2), (.int y3)] (.int 0) := Arv.set Ar3 qa3 qs3 qn3 qh3 qg3 (fits_nar_byte _) W3 0 rfl (Nat.le_of_ble_eq_true rfl)
  refine own_st st3 ?_
  show gs T3 m 44 #[vr tA, vi 1, vi c1] []
  refine oaloadN X3 hx hby d38_44 rfl rfl ?_
  refine oiloadN X3 hx hby d38_45 rfl ?_
  refine oiloadN X3 hx hby d38_46 rfl ?_
  obtain ⟨T4, X4, e4, st4⟩ := getS2 X3 hx hZ hown (host := "") (Or.inl (own_w hw 202 rfl)) Via.refl e3 (Sta.ext O3.2 S_LO) (g := (mkF m 47 #[vr tA, vi 1, vi c1] [(.int c1), (.int 1), (.ref tA)])) rfl (hb hby d38_47)
  refine own_st st4 ?_
  show gs T4 m 50 #[vr tA, vi 1, vi c1] [(.int 8), (.int c1), (.int 1), (.ref tA)]
  refine own_st (fun _ kS => XT.ishr X4.here hx rfl (hb hby d38_50) rfl kS) ?_
  refine own_st (fun _ kS => XT.i2b X4.here hx rfl (hb hby d38_51) rfl kS) ?_
  show gs T4 m 52 #[vr tA, vi 1, vi c1] [(.int ((c1 >>> ((8 : Int32) &&& 31)).toInt8.toInt32)), (.int 1), (.ref tA)]
  obtain ⟨cl5, Ar5, qa5, qs5, qn5, qh5, qg5⟩ := id R3
  obtain ⟨T5, h5, X5, e5, W5, st5⟩ := stB X4 hx hZ e4 Ar5 (j := (1 : Int32)) (inb_of qs5 ⟨by decide, by decide⟩) (g := (mkF m 52 #[vr tA, vi 1, vi c1] [(.int ((c1 >>> ((8 : Int32) &&& 31)).toInt8.toInt32)), (.int 1), (.ref tA)])) rfl rfl (hb hby d38_52)
  have N5 := Fr.snoc X5 N3 g_A
  have K5 := K3.wr W5 (Or.inl (List.mem_of_getElem? (i := 0) rfl))
  have O5 := O3.wr W5 g_A
  have R5 : Arv Z h5 tA kA .byte (4 : Int32) [(.int (nar .byte ((c1 >>> ((0 : Int32) &&& 31)).toInt8.toInt32))), (.int (nar .byte ((c1 >>> ((8 : Int32) &&& 31)).toInt8.toInt32))), (.int y2), (.int y3)] (.int 0) := Arv.set Ar5 qa5 qs5 qn5 qh5 qg5 (fits_nar_byte _) W5 1 rfl (Nat.le_of_ble_eq_true rfl)
  refine own_st st5 ?_
  show gs T5 m 53 #[vr tA, vi 1, vi c1] []
  exact own_retV X5 hx hlk hret (hb hby d38_53) (by decide) (by decide) (by rw [e5]; exact ⟨rfl, N5, K5, R5⟩)
theorem ef_put_1_2 (m : MethodId) (x0 : Addr) (x1 : Int32) : entryFrame m #[(.ref x0), (.int 1), (.int x1)] 3 = mkF m 0 #[.val (.ref x0), .val (.int 1), .val (.int x1)] [] := by first | (simp [entryFrame, mkF, argsToLocals, Value.category]; done) | rfl
def Q_put_1_2 (Z : State) (tA : Addr) (kA : ClassId) (c1 : Int32) (y0 : Int32) (y1 : Int32) (y2 : Int32) (y3 : Int32) (h0 : Heap) (n0 : Nat) (v : Option Value) (h : Heap) (L : List Loc) : Prop := v = none ∧ Fr n0 L ∧ Keep h0 h [tA] ∧ Arv Z h tA kA .byte (4 : Int32) [(.int y0), (.int y1), (.int (nar .byte ((c1 >>> ((0 : Int32) &&& 31)).toInt8.toInt32))), (.int (nar .byte ((c1 >>> ((8 : Int32) &&& 31)).toInt8.toInt32)))] (.int 0)
theorem rm_put_1_2 (l : Launch) (Z : State) (a0 : Array Value) (hw : HW a0 Z) (ws : List Jvm.Cond) (tA : Addr) (kA : ClassId) (c1 : Int32) (y0 : Int32) (y1 : Int32) (y2 : Int32) (y3 : Int32) (h0 : Heap) (n0 : Nat) (Z0 : n0 ≤ h0.size) (O0 : Old Z n0 h0) (R_A : Arv Z h0 tA kA .byte (4 : Int32) [(.int y0), (.int y1), (.int y2), (.int y3)] (.int 0)) (g_A : n0 ≤ tA) (S_AD : sk1 Z Z.heap (.int 1)) (S_HI : sk2 Z Z.heap (.int 0)) (S_LO : sk3 Z Z.heap (.int 8)) :
    M3 l ws (rmk 0 0 0 0) Z #[(.ref tA), (.int 1), (.int c1)] h0 (Q_put_1_2 Z tA kA c1 y0 y1 y2 y3 h0 n0) := by
  refine own_go "java/lang/StringUTF16" rfl (plainFor_of_name pn_38) (fun m => ef_put_1_2 m tA c1) (fun p e s m below meth c s₁ hx hby hml hown hnm hlk hret hZ X0 e0 => ?_)
  have N0 := Fr.nil n0
  have K0 := Keep.refl h0 [tA]
  show gs s₁ m 0 #[vr tA, vi 1, vi c1] []
  obtain ⟨T1, X1, e1, st1⟩ := getS2 X0 hx hZ hown (host := "") (Or.inl (own_w hw 200 rfl)) Via.refl e0 (Sta.ext O0.2 S_AD) (g := (mkF m 0 #[vr tA, vi 1, vi c1] [])) rfl (hb hby d38_0)
  refine own_st st1 ?_
  show gs T1 m 3 #[vr tA, vi 1, vi c1] [(.int 1)]
  refine own_st (fun _ kS => XS.ifYes X1.here hx rfl (pc0 := 3) (pc' := 28) rfl (hb hby d38_3) rfl ((if0 _ _).trans (feq (by decide : ¬ ((1 : Int32) = (0 : Int32)))).2) (by decide) (by decide) kS) ?_
  show gs T1 m 28 #[vr tA, vi 1, vi c1] []
  refine oiloadN X1 hx hby d38_28 rfl ?_
  refine oiconst X1 hx hby d38_29 ?_
  refine own_st (fun _ kS => XT.ishl X1.here hx rfl (hb hby d38_30) rfl kS) ?_
  refine own_st (fun _ kS => XS.istoreN X1.here hx rfl (hb hby d38_31) rfl (l' := #[vr tA, vi 2, vi c1]) rfl kS) ?_
  refine oaloadN X1 hx hby d38_32 rfl rfl ?_
  refine oiloadN X1 hx hby d38_33 rfl ?_
  refine own_st (fun _ kS => XS.iinc X1.here hx rfl (hb hby d38_34) rfl (l' := #[vr tA, vi 3, vi c1]) rfl kS) ?_
  refine oiloadN X1 hx hby d38_37 rfl ?_
  obtain ⟨T2, X2, e2, st2⟩ := getS2 X1 hx hZ hown (host := "") (Or.inl (own_w hw 201 rfl)) Via.refl e1 (Sta.ext O0.2 S_HI) (g := (mkF m 38 #[vr tA, vi 3, vi c1] [(.int c1), (.int 2), (.ref tA)])) rfl (hb hby d38_38)
  refine own_st st2 ?_
  show gs T2 m 41 #[vr tA, vi 3, vi c1] [(.int 0), (.int c1), (.int 2), (.ref tA)]
  refine own_st (fun _ kS => XT.ishr X2.here hx rfl (hb hby d38_41) rfl kS) ?_
  refine own_st (fun _ kS => XT.i2b X2.here hx rfl (hb hby d38_42) rfl kS) ?_
  show gs T2 m 43 #[vr tA, vi 3, vi c1] [(.int ((c1 >>> ((0 : Int32) &&& 31)).toInt8.toInt32)), (.int 2), (.ref tA)]
  obtain ⟨cl3, Ar3, qa3, qs3, qn3, qh3, qg3⟩ := id R_A
  obtain ⟨T3, h3, X3, e3, W3, st3⟩ := stB X2 hx hZ e2 Ar3 (j := (2 : Int32)) (inb_of qs3 ⟨by decide, by decide⟩) (g := (mkF m 43 #[vr tA, vi 3, vi c1] [(.int ((c1 >>> ((0 : Int32) &&& 31)).toInt8.toInt32)), (.int 2), (.ref tA)])) rfl rfl (hb hby d38_43)
  have N3 := Fr.snoc X3 N0 g_A
  have K3 := K0.wr W3 (Or.inl (List.mem_of_getElem? (i := 0) rfl))
  have O3 := O0.wr W3 g_A
  have R3 : Arv Z h3 tA kA .byte (4 : Int32) [(.int y0), (.int y1), (.int (nar .byte ((c1 >>> ((0 : Int32) &&& 31)).toInt8.toInt32))), (.int y3)] (.int 0) := Arv.set Ar3 qa3 qs3 qn3 qh3 qg3 (fits_nar_byte _) W3 2 rfl (Nat.le_of_ble_eq_true rfl)
  refine own_st st3 ?_
  show gs T3 m 44 #[vr tA, vi 3, vi c1] []
  refine oaloadN X3 hx hby d38_44 rfl rfl ?_
  refine oiloadN X3 hx hby d38_45 rfl ?_
  refine oiloadN X3 hx hby d38_46 rfl ?_
  obtain ⟨T4, X4, e4, st4⟩ := getS2 X3 hx hZ hown (host := "") (Or.inl (own_w hw 202 rfl)) Via.refl e3 (Sta.ext O3.2 S_LO) (g := (mkF m 47 #[vr tA, vi 3, vi c1] [(.int c1), (.int 3), (.ref tA)])) rfl (hb hby d38_47)
  refine own_st st4 ?_
  show gs T4 m 50 #[vr tA, vi 3, vi c1] [(.int 8), (.int c1), (.int 3), (.ref tA)]
  refine own_st (fun _ kS => XT.ishr X4.here hx rfl (hb hby d38_50) rfl kS) ?_
  refine own_st (fun _ kS => XT.i2b X4.here hx rfl (hb hby d38_51) rfl kS) ?_
  show gs T4 m 52 #[vr tA, vi 3, vi c1] [(.int ((c1 >>> ((8 : Int32) &&& 31)).toInt8.toInt32)), (.int 3), (.ref tA)]
  obtain ⟨cl5, Ar5, qa5, qs5, qn5, qh5, qg5⟩ := id R3
  obtain ⟨T5, h5, X5, e5, W5, st5⟩ := stB X4 hx hZ e4 Ar5 (j := (3 : Int32)) (inb_of qs5 ⟨by decide, by decide⟩) (g := (mkF m 52 #[vr tA, vi 3, vi c1] [(.int ((c1 >>> ((8 : Int32) &&& 31)).toInt8.toInt32)), (.int 3), (.ref tA)])) rfl rfl (hb hby d38_52)
  have N5 := Fr.snoc X5 N3 g_A
  have K5 := K3.wr W5 (Or.inl (List.mem_of_getElem? (i := 0) rfl))
  have O5 := O3.wr W5 g_A
  have R5 : Arv Z h5 tA kA .byte (4 : Int32) [(.int y0), (.int y1), (.int (nar .byte ((c1 >>> ((0 : Int32) &&& 31)).toInt8.toInt32))), (.int (nar .byte ((c1 >>> ((8 : Int32) &&& 31)).toInt8.toInt32)))] (.int 0) := Arv.set Ar5 qa5 qs5 qn5 qh5 qg5 (fits_nar_byte _) W5 3 rfl (Nat.le_of_ble_eq_true rfl)
  refine own_st st5 ?_
  show gs T5 m 53 #[vr tA, vi 3, vi c1] []
  exact own_retV X5 hx hlk hret (hb hby d38_53) (by decide) (by decide) (by rw [e5]; exact ⟨rfl, N5, K5, R5⟩)
theorem d33_0 : dk B4 0 (.aload_n 0) 1 := by decide +kernel
theorem d33_1 : dk B4 1 (.arraylength) 1 := by decide +kernel
theorem d33_2 : dk B4 2 (.iconst 1) 1 := by decide +kernel
theorem d33_3 : dk B4 3 (.ishr) 1 := by decide +kernel
theorem d33_4 : dk B4 4 (.ireturn) 1 := by decide +kernel
theorem pn_33 : plainName "java/lang/StringUTF16" = true := by first | (simp [plainName, overriddenIn]; done) | decide +kernel
theorem ef_ulen_1 (m : MethodId) (x0 : Addr) : entryFrame m #[(.ref x0)] 1 = mkF m 0 #[.val (.ref x0)] [] := by first | (simp [entryFrame, mkF, argsToLocals, Value.category]; done) | rfl
def Q_ulen_1 (Z : State) (tA : Addr) (kA : ClassId) (y0 : Int32) (y1 : Int32) (h0 : Heap) (n0 : Nat) (v : Option Value) (h : Heap) (L : List Loc) : Prop := v = some (.int 1) ∧ Fr n0 L ∧ h = h0
theorem rm_ulen_1 (l : Launch) (Z : State) (a0 : Array Value) (hw : HW a0 Z) (ws : List Jvm.Cond) (tA : Addr) (kA : ClassId) (y0 : Int32) (y1 : Int32) (h0 : Heap) (n0 : Nat) (Z0 : n0 ≤ h0.size) (R_A : Arv Z h0 tA kA .byte (2 : Int32) [(.int y0), (.int y1)] (.int 0)) :
    M4 l ws (rmk 0 0 0 0) Z #[(.ref tA)] h0 (Q_ulen_1 Z tA kA y0 y1 h0 n0) := by
  refine own_go "java/lang/StringUTF16" rfl (plainFor_of_name pn_33) (fun m => ef_ulen_1 m tA) (fun p e s m below meth c s₁ hx hby hml hown hnm hlk hret hZ X0 e0 => ?_)
  have N0 := Fr.nil n0
  show gs s₁ m 0 #[vr tA] []
  refine oaloadN X0 hx hby d33_0 rfl rfl ?_
  show gs s₁ m 1 #[vr tA] [(.ref tA)]
  obtain ⟨cl1, Ar1, qa1, qs1, qn1, qh1, qg1⟩ := id R_A
  refine own_st (fun _ kS => X0.arraylength hx (by rw [e0]; exact Ar1.1) (State.isArrayOf_alike hZ.alike Ar1.2.1) (g := (mkF m 1 #[vr tA] [(.ref tA)])) rfl rfl (hb hby d33_1) _ kS) ?_
  rw [len_of qs1 qn1]
  show gs s₁ m 2 #[vr tA] [(.int 2)]
  refine oiconst X0 hx hby d33_2 ?_
  refine own_st (fun _ kS => XT.ishr X0.here hx rfl (hb hby d33_3) rfl kS) ?_
  show gs s₁ m 4 #[vr tA] [(.int 1)]
  exact own_retI X0 hx hlk hret (hb hby d33_4) (by decide) (by decide) (by rw [e0]; exact ⟨rfl, N0, rfl⟩)
theorem ef_ulen_2 (m : MethodId) (x0 : Addr) : entryFrame m #[(.ref x0)] 1 = mkF m 0 #[.val (.ref x0)] [] := by first | (simp [entryFrame, mkF, argsToLocals, Value.category]; done) | rfl
def Q_ulen_2 (Z : State) (tA : Addr) (kA : ClassId) (y0 : Int32) (y1 : Int32) (y2 : Int32) (y3 : Int32) (h0 : Heap) (n0 : Nat) (v : Option Value) (h : Heap) (L : List Loc) : Prop := v = some (.int 2) ∧ Fr n0 L ∧ h = h0
theorem rm_ulen_2 (l : Launch) (Z : State) (a0 : Array Value) (hw : HW a0 Z) (ws : List Jvm.Cond) (tA : Addr) (kA : ClassId) (y0 : Int32) (y1 : Int32) (y2 : Int32) (y3 : Int32) (h0 : Heap) (n0 : Nat) (Z0 : n0 ≤ h0.size) (R_A : Arv Z h0 tA kA .byte (4 : Int32) [(.int y0), (.int y1), (.int y2), (.int y3)] (.int 0)) :
    M4 l ws (rmk 0 0 0 0) Z #[(.ref tA)] h0 (Q_ulen_2 Z tA kA y0 y1 y2 y3 h0 n0) := by
  refine own_go "java/lang/StringUTF16" rfl (plainFor_of_name pn_33) (fun m => ef_ulen_2 m tA) (fun p e s m below meth c s₁ hx hby hml hown hnm hlk hret hZ X0 e0 => ?_)
  have N0 := Fr.nil n0
  show gs s₁ m 0 #[vr tA] []
  refine oaloadN X0 hx hby d33_0 rfl rfl ?_
  show gs s₁ m 1 #[vr tA] [(.ref tA)]
  obtain ⟨cl1, Ar1, qa1, qs1, qn1, qh1, qg1⟩ := id R_A
  refine own_st (fun _ kS => X0.arraylength hx (by rw [e0]; exact Ar1.1) (State.isArrayOf_alike hZ.alike Ar1.2.1) (g := (mkF m 1 #[vr tA] [(.ref tA)])) rfl rfl (hb hby d33_1) _ kS) ?_
  rw [len_of qs1 qn1]
  show gs s₁ m 2 #[vr tA] [(.int 4)]
  refine oiconst X0 hx hby d33_2 ?_
  refine own_st (fun _ kS => XT.ishr X0.here hx rfl (hb hby d33_3) rfl kS) ?_
  show gs s₁ m 4 #[vr tA] [(.int 2)]
  exact own_retI X0 hx hlk hret (hb hby d33_4) (by decide) (by decide) (by rw [e0]; exact ⟨rfl, N0, rfl⟩)
theorem d25_0 : dk B5 0 (.iload_n 0) 1 := by decide +kernel
theorem d25_1 : dk B5 1 (.ifCond .lt 8) 3 := by decide +kernel
theorem d25_4 : dk B5 4 (.iload_n 0) 1 := by decide +kernel
theorem d25_5 : dk B5 5 (.iload_n 1) 1 := by decide +kernel
theorem d25_6 : dk B5 6 (.if_icmp .lt 10) 3 := by decide +kernel
theorem d25_9 : dk B5 9 (.aload_n 2) 1 := by decide +kernel
theorem d25_10 : dk B5 10 (.iload_n 0) 1 := by decide +kernel
theorem d25_11 : dk B5 11 (.iload_n 1) 1 := by decide +kernel
theorem d25_12 : dk B5 12 (.invokestatic 95) 3 := by decide +kernel
theorem d25_15 : dk B5 15 (.athrow) 1 := by decide +kernel
theorem d25_16 : dk B5 16 (.iload_n 0) 1 := by decide +kernel
theorem d25_17 : dk B5 17 (.ireturn) 1 := by decide +kernel
theorem pn_25 : plainName "jdk/internal/util/Preconditions" = true := by first | (simp [plainName, overriddenIn]; done) | decide +kernel
theorem ef_pchk_0_1 (m : MethodId) (x0 : Value) (hx0 : x0.isRef = true) : entryFrame m #[(.int 0), (.int 1), x0] 3 = mkF m 0 #[.val (.int 0), .val (.int 1), .val x0] [] := by
  rcases ref_cases hx0 with rfl | ⟨_, rfl⟩ <;> (first | (simp [entryFrame, mkF, argsToLocals, Value.category]; done) | rfl)
def Q_pchk_0_1 (Z : State) (fm : Value) (h0 : Heap) (n0 : Nat) (v : Option Value) (h : Heap) (L : List Loc) : Prop := v = some (.int 0) ∧ Fr n0 L ∧ h = h0
theorem rm_pchk_0_1 (l : Launch) (Z : State) (a0 : Array Value) (hw : HW a0 Z) (ws : List Jvm.Cond) (fm : Value) (h0 : Heap) (n0 : Nat) (Z0 : n0 ≤ h0.size) (P_SF : fm.isRef = true) :
    M5 l ws (rmk 0 0 0 0) Z #[(.int 0), (.int 1), fm] h0 (Q_pchk_0_1 Z fm h0 n0) := by
  refine own_go "jdk/internal/util/Preconditions" rfl (plainFor_of_name pn_25) (fun m => ef_pchk_0_1 m fm P_SF) (fun p e s m below meth c s₁ hx hby hml hown hnm hlk hret hZ X0 e0 => ?_)
  have N0 := Fr.nil n0
  show gs s₁ m 0 #[vi 0, vi 1, .val fm] []
  refine oiloadN X0 hx hby d25_0 rfl ?_
  refine own_st (fun _ kS => XS.ifNo X0.here hx rfl (hb hby d25_1) rfl ((if0 _ _).trans (flt (by decide : ¬ ((0 : Int32) < (0 : Int32)))).1) kS) ?_
  show gs s₁ m 4 #[vi 0, vi 1, .val fm] []
  refine oiloadN X0 hx hby d25_4 rfl ?_
  refine oiloadN X0 hx hby d25_5 rfl ?_
  refine own_st (fun _ kS => XS.icmpYes X0.here hx rfl (pc0 := 6) (pc' := 16) rfl (hb hby d25_6) rfl (tlt (by decide : (0 : Int32) < (1 : Int32))).1 (by decide) (by decide) kS) ?_
  show gs s₁ m 16 #[vi 0, vi 1, .val fm] []
  refine oiloadN X0 hx hby d25_16 rfl ?_
  exact own_retI X0 hx hlk hret (hb hby d25_17) (by decide) (by decide) (by rw [e0]; exact ⟨rfl, N0, rfl⟩)
theorem d24_0 : dk B6 0 (.iload_n 0) 1 := by decide +kernel
theorem d24_1 : dk B6 1 (.iload_n 1) 1 := by decide +kernel
theorem d24_2 : dk B6 2 (.getstatic 1053) 3 := by decide +kernel
theorem d24_5 : dk B6 5 (.invokestatic 1059) 3 := by decide +kernel
theorem d24_8 : dk B6 8 (.pop) 1 := by decide +kernel
theorem d24_9 : dk B6 9 (.return_) 1 := by decide +kernel
theorem pn_24 : plainName "java/lang/String" = true := by first | (simp [plainName, overriddenIn]; done) | decide +kernel
theorem own_pd1 : parseMethodDescriptor "(IILjava/util/function/BiFunction;)I" = some ⟨[.int, .int, (.object "java/util/function/BiFunction")], some .int⟩ := by decide +kernel
theorem ef_chk_0_1 (m : MethodId)  : entryFrame m #[(.int 0), (.int 1)] 2 = mkF m 0 #[.val (.int 0), .val (.int 1)] [] := by first | (simp [entryFrame, mkF, argsToLocals, Value.category]; done) | rfl
def Q_chk_0_1 (Z : State) (fm : Value) (h0 : Heap) (n0 : Nat) (v : Option Value) (h : Heap) (L : List Loc) : Prop := v = none ∧ Fr n0 L ∧ h = h0
theorem rm_chk_0_1 (l : Launch) (Z : State) (a0 : Array Value) (hw : HW a0 Z) (ws : List Jvm.Cond) (fm : Value) (h0 : Heap) (n0 : Nat) (Z0 : n0 ≤ h0.size) (O0 : Old Z n0 h0) (S_SF : sk4 Z Z.heap fm) (P_SF : fm.isRef = true) :
    M6 l ws (rmk 1 0 0 14) Z #[(.int 0), (.int 1)] h0 (Q_chk_0_1 Z fm h0 n0) := by
  refine own_go "java/lang/String" rfl (plainFor_of_name pn_24) (fun m => ef_chk_0_1 m ) (fun p e s m below meth c s₁ hx hby hml hown hnm hlk hret hZ X0 e0 => ?_)
  have N0 := Fr.nil n0
  show gs s₁ m 0 #[vi 0, vi 1] []
  refine oiloadN X0 hx hby d24_0 rfl ?_
  refine oiloadN X0 hx hby d24_1 rfl ?_
  obtain ⟨T1, X1, e1, st1⟩ := getS2 X0 hx hZ hown (host := "") (Or.inl (own_w hw 148 rfl)) Via.refl e0 (Sta.ext O0.2 S_SF) (g := (mkF m 2 #[vi 0, vi 1] [(.int 1), (.int 0)])) rfl (hb hby d24_2)
  refine own_st st1 ?_
  show gs T1 m 5 #[vi 0, vi 1] [fm, (.int 1), (.int 0)]
  refine oS 0 X1 hx hZ hby hml hown (own_w hw 150 rfl) (own_w hw 151 rfl) (own_w hw 149 rfl) (own_w hw 152 rfl) (rm_pchk_0_1 l Z a0 hw [] fm h0 n0 Z0  P_SF) e1 (by decide) own_pd1 d24_5 rfl rfl rfl (fun T2 L2 v2 X2 hQ2 => ?_)
  obtain ⟨rfl, Nq2, eq2⟩ := hQ2
  have N2 := Fr.app N0 Nq2
  show gs T2 m 8 #[vi 0, vi 1] [(.int 0)]
  refine own_st (fun _ kS => XT.pop X2.here hx rfl (hb hby d24_8) rfl rfl kS) ?_
  show gs T2 m 9 #[vi 0, vi 1] []
  exact own_retV X2 hx hlk hret (hb hby d24_9) (by decide) (by decide) (by rw [eq2]; exact ⟨rfl, N2, rfl⟩)
theorem d37_0 : dk B7 0 (.iload_n 0) 1 := by decide +kernel
theorem d37_1 : dk B7 1 (.aload_n 1) 1 := by decide +kernel
theorem d37_2 : dk B7 2 (.invokestatic 48) 3 := by decide +kernel
theorem d37_5 : dk B7 5 (.invokestatic 414) 3 := by decide +kernel
theorem d37_8 : dk B7 8 (.return_) 1 := by decide +kernel
theorem pn_37 : plainName "java/lang/StringUTF16" = true := by first | (simp [plainName, overriddenIn]; done) | decide +kernel
theorem own_pd2 : parseMethodDescriptor "([B)I" = some ⟨[(.array .byte)], some .int⟩ := by decide +kernel
theorem own_pd3 : parseMethodDescriptor "(II)V" = some ⟨[.int, .int], none⟩ := by decide +kernel
theorem ef_uchk_0_1 (m : MethodId) (x0 : Addr) : entryFrame m #[(.int 0), (.ref x0)] 2 = mkF m 0 #[.val (.int 0), .val (.ref x0)] [] := by first | (simp [entryFrame, mkF, argsToLocals, Value.category]; done) | rfl
def Q_uchk_0_1 (Z : State) (tA : Addr) (kA : ClassId) (y0 : Int32) (y1 : Int32) (fm : Value) (h0 : Heap) (n0 : Nat) (v : Option Value) (h : Heap) (L : List Loc) : Prop := v = none ∧ Fr n0 L ∧ h = h0
theorem rm_uchk_0_1 (l : Launch) (Z : State) (a0 : Array Value) (hw : HW a0 Z) (ws : List Jvm.Cond) (tA : Addr) (kA : ClassId) (y0 : Int32) (y1 : Int32) (fm : Value) (h0 : Heap) (n0 : Nat) (Z0 : n0 ≤ h0.size) (O0 : Old Z n0 h0) (R_A : Arv Z h0 tA kA .byte (2 : Int32) [(.int y0), (.int y1)] (.int 0)) (S_SF : sk4 Z Z.heap fm) (P_SF : fm.isRef = true) :
    M7 l ws (rmk 2 0 0 27) Z #[(.int 0), (.ref tA)] h0 (Q_uchk_0_1 Z tA kA y0 y1 fm h0 n0) := by
  refine own_go "java/lang/StringUTF16" rfl (plainFor_of_name pn_37) (fun m => ef_uchk_0_1 m tA) (fun p e s m below meth c s₁ hx hby hml hown hnm hlk hret hZ X0 e0 => ?_)
  have N0 := Fr.nil n0
  show gs s₁ m 0 #[vi 0, vr tA] []
  refine oiloadN X0 hx hby d37_0 rfl ?_
  refine oaloadN X0 hx hby d37_1 rfl rfl ?_
  refine oS 1 X0 hx hZ hby hml hown (own_w hw 181 rfl) (own_w hw 182 rfl) (own_w hw 166 rfl) (own_w hw 183 rfl) (rm_ulen_1 l Z a0 hw [] tA kA y0 y1 h0 n0 Z0  R_A) e0 (by decide) own_pd2 d37_2 rfl rfl rfl (fun T1 L1 v1 X1 hQ1 => ?_)
  obtain ⟨rfl, Nq1, eq1⟩ := hQ1
  have N1 := Fr.app N0 Nq1
  show gs T1 m 5 #[vi 0, vr tA] [(.int 1), (.int 0)]
  refine oS 0 X1 hx hZ hby hml hown (own_w hw 196 rfl) (own_w hw 146 rfl) (own_w hw 32 rfl) (own_w hw 147 rfl) (rm_chk_0_1 l Z a0 hw [] fm h0 n0 Z0 O0 S_SF P_SF) eq1 (by decide) own_pd3 d37_5 rfl rfl rfl (fun T2 L2 v2 X2 hQ2 => ?_)
  obtain ⟨rfl, Nq2, eq2⟩ := hQ2
  have N2 := Fr.app N1 Nq2
  show gs T2 m 8 #[vi 0, vr tA] []
  exact own_retV X2 hx hlk hret (hb hby d37_8) (by decide) (by decide) (by rw [eq2]; exact ⟨rfl, N2, rfl⟩)
theorem d36_0 : dk B8 0 (.iload_n 1) 1 := by decide +kernel
theorem d36_1 : dk B8 1 (.aload_n 0) 1 := by decide +kernel
theorem d36_2 : dk B8 2 (.invokestatic 67) 3 := by decide +kernel
theorem d36_5 : dk B8 5 (.aload_n 0) 1 := by decide +kernel
theorem d36_6 : dk B8 6 (.iload_n 1) 1 := by decide +kernel
theorem d36_7 : dk B8 7 (.iload_n 2) 1 := by decide +kernel
theorem d36_8 : dk B8 8 (.invokestatic 111) 3 := by decide +kernel
theorem d36_11 : dk B8 11 (.return_) 1 := by decide +kernel
theorem pn_36 : plainName "java/lang/StringUTF16" = true := by first | (simp [plainName, overriddenIn]; done) | decide +kernel
theorem own_pd4 : parseMethodDescriptor "(I[B)V" = some ⟨[.int, (.array .byte)], none⟩ := by decide +kernel
theorem own_pd5 : parseMethodDescriptor "([BII)V" = some ⟨[(.array .byte), .int, .int], none⟩ := by decide +kernel
theorem ef_putSB_0_1 (m : MethodId) (x0 : Addr) (x1 : Int32) : entryFrame m #[(.ref x0), (.int 0), (.int x1)] 3 = mkF m 0 #[.val (.ref x0), .val (.int 0), .val (.int x1)] [] := by first | (simp [entryFrame, mkF, argsToLocals, Value.category]; done) | rfl
def Q_putSB_0_1 (Z : State) (tA : Addr) (kA : ClassId) (c1 : Int32) (y0 : Int32) (y1 : Int32) (fm : Value) (h0 : Heap) (n0 : Nat) (v : Option Value) (h : Heap) (L : List Loc) : Prop := v = none ∧ Fr n0 L ∧ Keep h0 h [tA] ∧ Arv Z h tA kA .byte (2 : Int32) [(.int (nar .byte ((c1 >>> ((0 : Int32) &&& 31)).toInt8.toInt32))), (.int (nar .byte ((c1 >>> ((8 : Int32) &&& 31)).toInt8.toInt32)))] (.int 0)
theorem rm_putSB_0_1 (l : Launch) (Z : State) (a0 : Array Value) (hw : HW a0 Z) (ws : List Jvm.Cond) (tA : Addr) (kA : ClassId) (c1 : Int32) (y0 : Int32) (y1 : Int32) (fm : Value) (h0 : Heap) (n0 : Nat) (Z0 : n0 ≤ h0.size) (O0 : Old Z n0 h0) (R_A : Arv Z h0 tA kA .byte (2 : Int32) [(.int y0), (.int y1)] (.int 0)) (g_A : n0 ≤ tA) (S_AD : sk1 Z Z.heap (.int 1)) (S_HI : sk2 Z Z.heap (.int 0)) (S_LO : sk3 Z Z.heap (.int 8)) (S_SF : sk4 Z Z.heap fm) (P_SF : fm.isRef = true) :
    M8 l ws (rmk 3 0 0 40) Z #[(.ref tA), (.int 0), (.int c1)] h0 (Q_putSB_0_1 Z tA kA c1 y0 y1 fm h0 n0) := by
  refine own_go "java/lang/StringUTF16" rfl (plainFor_of_name pn_36) (fun m => ef_putSB_0_1 m tA c1) (fun p e s m below meth c s₁ hx hby hml hown hnm hlk hret hZ X0 e0 => ?_)
  have N0 := Fr.nil n0
  have K0 := Keep.refl h0 [tA]
  show gs s₁ m 0 #[vr tA, vi 0, vi c1] []
  refine oiloadN X0 hx hby d36_0 rfl ?_
  refine oaloadN X0 hx hby d36_1 rfl rfl ?_
  refine oS 0 X0 hx hZ hby hml hown (own_w hw 193 rfl) (own_w hw 194 rfl) (own_w hw 166 rfl) (own_w hw 195 rfl) (rm_uchk_0_1 l Z a0 hw [] tA kA y0 y1 fm h0 n0 Z0 O0 R_A S_SF P_SF) e0 (by decide) own_pd4 d36_2 rfl rfl rfl (fun T1 L1 v1 X1 hQ1 => ?_)
  obtain ⟨rfl, Nq1, eq1⟩ := hQ1
  have N1 := Fr.app N0 Nq1
  show gs T1 m 5 #[vr tA, vi 0, vi c1] []
  refine oaloadN X1 hx hby d36_5 rfl rfl ?_
  refine oiloadN X1 hx hby d36_6 rfl ?_
  refine oiloadN X1 hx hby d36_7 rfl ?_
  refine oS 0 X1 hx hZ hby hml hown (own_w hw 197 rfl) (own_w hw 198 rfl) (own_w hw 166 rfl) (own_w hw 199 rfl) (rm_put_0_1 l Z a0 hw [] tA kA c1 y0 y1 h0 n0 Z0 O0 R_A g_A S_AD S_HI S_LO) eq1 (by decide) own_pd5 d36_8 rfl rfl rfl (fun T2 L2 v2 X2 hQ2 => ?_)
  obtain ⟨rfl, Nq2, Kc2, P2_0⟩ := hQ2
  have N2 := Fr.app N1 Nq2
  have K2 := K0.trans Kc2 (allS (Or.inl (List.mem_of_getElem? (i := 0) rfl)) all0)
  have O2 := O0.keep Kc2 (allS g_A all0)
  show gs T2 m 11 #[vr tA, vi 0, vi c1] []
  exact own_retV X2 hx hlk hret (hb hby d36_11) (by decide) (by decide) (show Q_putSB_0_1 Z tA kA c1 y0 y1 fm h0 n0 _ _ _ from ⟨rfl, N2, K2, P2_0⟩)
theorem ef_pchk_0_2 (m : MethodId) (x0 : Value) (hx0 : x0.isRef = true) : entryFrame m #[(.int 0), (.int 2), x0] 3 = mkF m 0 #[.val (.int 0), .val (.int 2), .val x0] [] := by
  rcases ref_cases hx0 with rfl | ⟨_, rfl⟩ <;> (first | (simp [entryFrame, mkF, argsToLocals, Value.category]; done) | rfl)
def Q_pchk_0_2 (Z : State) (fm : Value) (h0 : Heap) (n0 : Nat) (v : Option Value) (h : Heap) (L : List Loc) : Prop := v = some (.int 0) ∧ Fr n0 L ∧ h = h0
theorem rm_pchk_0_2 (l : Launch) (Z : State) (a0 : Array Value) (hw : HW a0 Z) (ws : List Jvm.Cond) (fm : Value) (h0 : Heap) (n0 : Nat) (Z0 : n0 ≤ h0.size) (P_SF : fm.isRef = true) :
    M5 l ws (rmk 0 0 0 0) Z #[(.int 0), (.int 2), fm] h0 (Q_pchk_0_2 Z fm h0 n0) := by
  refine own_go "jdk/internal/util/Preconditions" rfl (plainFor_of_name pn_25) (fun m => ef_pchk_0_2 m fm P_SF) (fun p e s m below meth c s₁ hx hby hml hown hnm hlk hret hZ X0 e0 => ?_)
  have N0 := Fr.nil n0
  show gs s₁ m 0 #[vi 0, vi 2, .val fm] []
  refine oiloadN X0 hx hby d25_0 rfl ?_
  refine own_st (fun _ kS => XS.ifNo X0.here hx rfl (hb hby d25_1) rfl ((if0 _ _).trans (flt (by decide : ¬ ((0 : Int32) < (0 : Int32)))).1) kS) ?_
  show gs s₁ m 4 #[vi 0, vi 2, .val fm] []
  refine oiloadN X0 hx hby d25_4 rfl ?_
  refine oiloadN X0 hx hby d25_5 rfl ?_
  refine own_st (fun _ kS => XS.icmpYes X0.here hx rfl (pc0 := 6) (pc' := 16) rfl (hb hby d25_6) rfl (tlt (by decide : (0 : Int32) < (2 : Int32))).1 (by decide) (by decide) kS) ?_
  show gs s₁ m 16 #[vi 0, vi 2, .val fm] []
  refine oiloadN X0 hx hby d25_16 rfl ?_
  exact own_retI X0 hx hlk hret (hb hby d25_17) (by decide) (by decide) (by rw [e0]; exact ⟨rfl, N0, rfl⟩)
theorem ef_chk_0_2 (m : MethodId)  : entryFrame m #[(.int 0), (.int 2)] 2 = mkF m 0 #[.val (.int 0), .val (.int 2)] [] := by first | (simp [entryFrame, mkF, argsToLocals, Value.category]; done) | rfl
def Q_chk_0_2 (Z : State) (fm : Value) (h0 : Heap) (n0 : Nat) (v : Option Value) (h : Heap) (L : List Loc) : Prop := v = none ∧ Fr n0 L ∧ h = h0
theorem rm_chk_0_2 (l : Launch) (Z : State) (a0 : Array Value) (hw : HW a0 Z) (ws : List Jvm.Cond) (fm : Value) (h0 : Heap) (n0 : Nat) (Z0 : n0 ≤ h0.size) (O0 : Old Z n0 h0) (S_SF : sk4 Z Z.heap fm) (P_SF : fm.isRef = true) :
    M6 l ws (rmk 1 0 0 14) Z #[(.int 0), (.int 2)] h0 (Q_chk_0_2 Z fm h0 n0) := by
  refine own_go "java/lang/String" rfl (plainFor_of_name pn_24) (fun m => ef_chk_0_2 m ) (fun p e s m below meth c s₁ hx hby hml hown hnm hlk hret hZ X0 e0 => ?_)
  have N0 := Fr.nil n0
  show gs s₁ m 0 #[vi 0, vi 2] []
  refine oiloadN X0 hx hby d24_0 rfl ?_
  refine oiloadN X0 hx hby d24_1 rfl ?_
  obtain ⟨T1, X1, e1, st1⟩ := getS2 X0 hx hZ hown (host := "") (Or.inl (own_w hw 148 rfl)) Via.refl e0 (Sta.ext O0.2 S_SF) (g := (mkF m 2 #[vi 0, vi 2] [(.int 2), (.int 0)])) rfl (hb hby d24_2)
  refine own_st st1 ?_
  show gs T1 m 5 #[vi 0, vi 2] [fm, (.int 2), (.int 0)]
  refine oS 0 X1 hx hZ hby hml hown (own_w hw 150 rfl) (own_w hw 151 rfl) (own_w hw 149 rfl) (own_w hw 152 rfl) (rm_pchk_0_2 l Z a0 hw [] fm h0 n0 Z0  P_SF) e1 (by decide) own_pd1 d24_5 rfl rfl rfl (fun T2 L2 v2 X2 hQ2 => ?_)
  obtain ⟨rfl, Nq2, eq2⟩ := hQ2
  have N2 := Fr.app N0 Nq2
  show gs T2 m 8 #[vi 0, vi 2] [(.int 0)]
  refine own_st (fun _ kS => XT.pop X2.here hx rfl (hb hby d24_8) rfl rfl kS) ?_
  show gs T2 m 9 #[vi 0, vi 2] []
  exact own_retV X2 hx hlk hret (hb hby d24_9) (by decide) (by decide) (by rw [eq2]; exact ⟨rfl, N2, rfl⟩)
theorem ef_uchk_0_2 (m : MethodId) (x0 : Addr) : entryFrame m #[(.int 0), (.ref x0)] 2 = mkF m 0 #[.val (.int 0), .val (.ref x0)] [] := by first | (simp [entryFrame, mkF, argsToLocals, Value.category]; done) | rfl
def Q_uchk_0_2 (Z : State) (tA : Addr) (kA : ClassId) (y0 : Int32) (y1 : Int32) (y2 : Int32) (y3 : Int32) (fm : Value) (h0 : Heap) (n0 : Nat) (v : Option Value) (h : Heap) (L : List Loc) : Prop := v = none ∧ Fr n0 L ∧ h = h0
theorem rm_uchk_0_2 (l : Launch) (Z : State) (a0 : Array Value) (hw : HW a0 Z) (ws : List Jvm.Cond) (tA : Addr) (kA : ClassId) (y0 : Int32) (y1 : Int32) (y2 : Int32) (y3 : Int32) (fm : Value) (h0 : Heap) (n0 : Nat) (Z0 : n0 ≤ h0.size) (O0 : Old Z n0 h0) (R_A : Arv Z h0 tA kA .byte (4 : Int32) [(.int y0), (.int y1), (.int y2), (.int y3)] (.int 0)) (S_SF : sk4 Z Z.heap fm) (P_SF : fm.isRef = true) :
    M7 l ws (rmk 2 0 0 27) Z #[(.int 0), (.ref tA)] h0 (Q_uchk_0_2 Z tA kA y0 y1 y2 y3 fm h0 n0) := by
  refine own_go "java/lang/StringUTF16" rfl (plainFor_of_name pn_37) (fun m => ef_uchk_0_2 m tA) (fun p e s m below meth c s₁ hx hby hml hown hnm hlk hret hZ X0 e0 => ?_)
  have N0 := Fr.nil n0
  show gs s₁ m 0 #[vi 0, vr tA] []
  refine oiloadN X0 hx hby d37_0 rfl ?_
  refine oaloadN X0 hx hby d37_1 rfl rfl ?_
  refine oS 1 X0 hx hZ hby hml hown (own_w hw 181 rfl) (own_w hw 182 rfl) (own_w hw 166 rfl) (own_w hw 183 rfl) (rm_ulen_2 l Z a0 hw [] tA kA y0 y1 y2 y3 h0 n0 Z0  R_A) e0 (by decide) own_pd2 d37_2 rfl rfl rfl (fun T1 L1 v1 X1 hQ1 => ?_)
  obtain ⟨rfl, Nq1, eq1⟩ := hQ1
  have N1 := Fr.app N0 Nq1
  show gs T1 m 5 #[vi 0, vr tA] [(.int 2), (.int 0)]
  refine oS 0 X1 hx hZ hby hml hown (own_w hw 196 rfl) (own_w hw 146 rfl) (own_w hw 32 rfl) (own_w hw 147 rfl) (rm_chk_0_2 l Z a0 hw [] fm h0 n0 Z0 O0 S_SF P_SF) eq1 (by decide) own_pd3 d37_5 rfl rfl rfl (fun T2 L2 v2 X2 hQ2 => ?_)
  obtain ⟨rfl, Nq2, eq2⟩ := hQ2
  have N2 := Fr.app N1 Nq2
  show gs T2 m 8 #[vi 0, vr tA] []
  exact own_retV X2 hx hlk hret (hb hby d37_8) (by decide) (by decide) (by rw [eq2]; exact ⟨rfl, N2, rfl⟩)
theorem ef_putSB_0_2 (m : MethodId) (x0 : Addr) (x1 : Int32) : entryFrame m #[(.ref x0), (.int 0), (.int x1)] 3 = mkF m 0 #[.val (.ref x0), .val (.int 0), .val (.int x1)] [] := by first | (simp [entryFrame, mkF, argsToLocals, Value.category]; done) | rfl
def Q_putSB_0_2 (Z : State) (tA : Addr) (kA : ClassId) (c1 : Int32) (y0 : Int32) (y1 : Int32) (y2 : Int32) (y3 : Int32) (fm : Value) (h0 : Heap) (n0 : Nat) (v : Option Value) (h : Heap) (L : List Loc) : Prop := v = none ∧ Fr n0 L ∧ Keep h0 h [tA] ∧ Arv Z h tA kA .byte (4 : Int32) [(.int (nar .byte ((c1 >>> ((0 : Int32) &&& 31)).toInt8.toInt32))), (.int (nar .byte ((c1 >>> ((8 : Int32) &&& 31)).toInt8.toInt32))), (.int y2), (.int y3)] (.int 0)
theorem rm_putSB_0_2 (l : Launch) (Z : State) (a0 : Array Value) (hw : HW a0 Z) (ws : List Jvm.Cond) (tA : Addr) (kA : ClassId) (c1 : Int32) (y0 : Int32) (y1 : Int32) (y2 : Int32) (y3 : Int32) (fm : Value) (h0 : Heap) (n0 : Nat) (Z0 : n0 ≤ h0.size) (O0 : Old Z n0 h0) (R_A : Arv Z h0 tA kA .byte (4 : Int32) [(.int y0), (.int y1), (.int y2), (.int y3)] (.int 0)) (g_A : n0 ≤ tA) (S_AD : sk1 Z Z.heap (.int 1)) (S_HI : sk2 Z Z.heap (.int 0)) (S_LO : sk3 Z Z.heap (.int 8)) (S_SF : sk4 Z Z.heap fm) (P_SF : fm.isRef = true) :
    M8 l ws (rmk 3 0 0 40) Z #[(.ref tA), (.int 0), (.int c1)] h0 (Q_putSB_0_2 Z tA kA c1 y0 y1 y2 y3 fm h0 n0) := by
  refine own_go "java/lang/StringUTF16" rfl (plainFor_of_name pn_36) (fun m => ef_putSB_0_2 m tA c1) (fun p e s m below meth c s₁ hx hby hml hown hnm hlk hret hZ X0 e0 => ?_)
  have N0 := Fr.nil n0
  have K0 := Keep.refl h0 [tA]
  show gs s₁ m 0 #[vr tA, vi 0, vi c1] []
  refine oiloadN X0 hx hby d36_0 rfl ?_
  refine oaloadN X0 hx hby d36_1 rfl rfl ?_
  refine oS 0 X0 hx hZ hby hml hown (own_w hw 193 rfl) (own_w hw 194 rfl) (own_w hw 166 rfl) (own_w hw 195 rfl) (rm_uchk_0_2 l Z a0 hw [] tA kA y0 y1 y2 y3 fm h0 n0 Z0 O0 R_A S_SF P_SF) e0 (by decide) own_pd4 d36_2 rfl rfl rfl (fun T1 L1 v1 X1 hQ1 => ?_)
  obtain ⟨rfl, Nq1, eq1⟩ := hQ1
  have N1 := Fr.app N0 Nq1
  show gs T1 m 5 #[vr tA, vi 0, vi c1] []
  refine oaloadN X1 hx hby d36_5 rfl rfl ?_
  refine oiloadN X1 hx hby d36_6 rfl ?_
  refine oiloadN X1 hx hby d36_7 rfl ?_
  refine oS 0 X1 hx hZ hby hml hown (own_w hw 197 rfl) (own_w hw 198 rfl) (own_w hw 166 rfl) (own_w hw 199 rfl) (rm_put_0_2 l Z a0 hw [] tA kA c1 y0 y1 y2 y3 h0 n0 Z0 O0 R_A g_A S_AD S_HI S_LO) eq1 (by decide) own_pd5 d36_8 rfl rfl rfl (fun T2 L2 v2 X2 hQ2 => ?_)
  obtain ⟨rfl, Nq2, Kc2, P2_0⟩ := hQ2
  have N2 := Fr.app N1 Nq2
  have K2 := K0.trans Kc2 (allS (Or.inl (List.mem_of_getElem? (i := 0) rfl)) all0)
  have O2 := O0.keep Kc2 (allS g_A all0)
  show gs T2 m 11 #[vr tA, vi 0, vi c1] []
  exact own_retV X2 hx hlk hret (hb hby d36_11) (by decide) (by decide) (show Q_putSB_0_2 Z tA kA c1 y0 y1 y2 y3 fm h0 n0 _ _ _ from ⟨rfl, N2, K2, P2_0⟩)
theorem ef_pchk_1_2 (m : MethodId) (x0 : Value) (hx0 : x0.isRef = true) : entryFrame m #[(.int 1), (.int 2), x0] 3 = mkF m 0 #[.val (.int 1), .val (.int 2), .val x0] [] := by
  rcases ref_cases hx0 with rfl | ⟨_, rfl⟩ <;> (first | (simp [entryFrame, mkF, argsToLocals, Value.category]; done) | rfl)
def Q_pchk_1_2 (Z : State) (fm : Value) (h0 : Heap) (n0 : Nat) (v : Option Value) (h : Heap) (L : List Loc) : Prop := v = some (.int 1) ∧ Fr n0 L ∧ h = h0
theorem rm_pchk_1_2 (l : Launch) (Z : State) (a0 : Array Value) (hw : HW a0 Z) (ws : List Jvm.Cond) (fm : Value) (h0 : Heap) (n0 : Nat) (Z0 : n0 ≤ h0.size) (P_SF : fm.isRef = true) :
    M5 l ws (rmk 0 0 0 0) Z #[(.int 1), (.int 2), fm] h0 (Q_pchk_1_2 Z fm h0 n0) := by
  refine own_go "jdk/internal/util/Preconditions" rfl (plainFor_of_name pn_25) (fun m => ef_pchk_1_2 m fm P_SF) (fun p e s m below meth c s₁ hx hby hml hown hnm hlk hret hZ X0 e0 => ?_)
  have N0 := Fr.nil n0
  show gs s₁ m 0 #[vi 1, vi 2, .val fm] []
  refine oiloadN X0 hx hby d25_0 rfl ?_
  refine own_st (fun _ kS => XS.ifNo X0.here hx rfl (hb hby d25_1) rfl ((if0 _ _).trans (flt (by decide : ¬ ((1 : Int32) < (0 : Int32)))).1) kS) ?_
  show gs s₁ m 4 #[vi 1, vi 2, .val fm] []
  refine oiloadN X0 hx hby d25_4 rfl ?_
  refine oiloadN X0 hx hby d25_5 rfl ?_
  refine own_st (fun _ kS => XS.icmpYes X0.here hx rfl (pc0 := 6) (pc' := 16) rfl (hb hby d25_6) rfl (tlt (by decide : (1 : Int32) < (2 : Int32))).1 (by decide) (by decide) kS) ?_
  show gs s₁ m 16 #[vi 1, vi 2, .val fm] []
  refine oiloadN X0 hx hby d25_16 rfl ?_
  exact own_retI X0 hx hlk hret (hb hby d25_17) (by decide) (by decide) (by rw [e0]; exact ⟨rfl, N0, rfl⟩)
theorem ef_chk_1_2 (m : MethodId)  : entryFrame m #[(.int 1), (.int 2)] 2 = mkF m 0 #[.val (.int 1), .val (.int 2)] [] := by first | (simp [entryFrame, mkF, argsToLocals, Value.category]; done) | rfl
def Q_chk_1_2 (Z : State) (fm : Value) (h0 : Heap) (n0 : Nat) (v : Option Value) (h : Heap) (L : List Loc) : Prop := v = none ∧ Fr n0 L ∧ h = h0
theorem rm_chk_1_2 (l : Launch) (Z : State) (a0 : Array Value) (hw : HW a0 Z) (ws : List Jvm.Cond) (fm : Value) (h0 : Heap) (n0 : Nat) (Z0 : n0 ≤ h0.size) (O0 : Old Z n0 h0) (S_SF : sk4 Z Z.heap fm) (P_SF : fm.isRef = true) :
    M6 l ws (rmk 1 0 0 14) Z #[(.int 1), (.int 2)] h0 (Q_chk_1_2 Z fm h0 n0) := by
  refine own_go "java/lang/String" rfl (plainFor_of_name pn_24) (fun m => ef_chk_1_2 m ) (fun p e s m below meth c s₁ hx hby hml hown hnm hlk hret hZ X0 e0 => ?_)
  have N0 := Fr.nil n0
  show gs s₁ m 0 #[vi 1, vi 2] []
  refine oiloadN X0 hx hby d24_0 rfl ?_
  refine oiloadN X0 hx hby d24_1 rfl ?_
  obtain ⟨T1, X1, e1, st1⟩ := getS2 X0 hx hZ hown (host := "") (Or.inl (own_w hw 148 rfl)) Via.refl e0 (Sta.ext O0.2 S_SF) (g := (mkF m 2 #[vi 1, vi 2] [(.int 2), (.int 1)])) rfl (hb hby d24_2)
  refine own_st st1 ?_
  show gs T1 m 5 #[vi 1, vi 2] [fm, (.int 2), (.int 1)]
  refine oS 0 X1 hx hZ hby hml hown (own_w hw 150 rfl) (own_w hw 151 rfl) (own_w hw 149 rfl) (own_w hw 152 rfl) (rm_pchk_1_2 l Z a0 hw [] fm h0 n0 Z0  P_SF) e1 (by decide) own_pd1 d24_5 rfl rfl rfl (fun T2 L2 v2 X2 hQ2 => ?_)
  obtain ⟨rfl, Nq2, eq2⟩ := hQ2
  have N2 := Fr.app N0 Nq2
  show gs T2 m 8 #[vi 1, vi 2] [(.int 1)]
  refine own_st (fun _ kS => XT.pop X2.here hx rfl (hb hby d24_8) rfl rfl kS) ?_
  show gs T2 m 9 #[vi 1, vi 2] []
  exact own_retV X2 hx hlk hret (hb hby d24_9) (by decide) (by decide) (by rw [eq2]; exact ⟨rfl, N2, rfl⟩)
theorem ef_uchk_1_2 (m : MethodId) (x0 : Addr) : entryFrame m #[(.int 1), (.ref x0)] 2 = mkF m 0 #[.val (.int 1), .val (.ref x0)] [] := by first | (simp [entryFrame, mkF, argsToLocals, Value.category]; done) | rfl
def Q_uchk_1_2 (Z : State) (tA : Addr) (kA : ClassId) (y0 : Int32) (y1 : Int32) (y2 : Int32) (y3 : Int32) (fm : Value) (h0 : Heap) (n0 : Nat) (v : Option Value) (h : Heap) (L : List Loc) : Prop := v = none ∧ Fr n0 L ∧ h = h0
theorem rm_uchk_1_2 (l : Launch) (Z : State) (a0 : Array Value) (hw : HW a0 Z) (ws : List Jvm.Cond) (tA : Addr) (kA : ClassId) (y0 : Int32) (y1 : Int32) (y2 : Int32) (y3 : Int32) (fm : Value) (h0 : Heap) (n0 : Nat) (Z0 : n0 ≤ h0.size) (O0 : Old Z n0 h0) (R_A : Arv Z h0 tA kA .byte (4 : Int32) [(.int y0), (.int y1), (.int y2), (.int y3)] (.int 0)) (S_SF : sk4 Z Z.heap fm) (P_SF : fm.isRef = true) :
    M7 l ws (rmk 2 0 0 27) Z #[(.int 1), (.ref tA)] h0 (Q_uchk_1_2 Z tA kA y0 y1 y2 y3 fm h0 n0) := by
  refine own_go "java/lang/StringUTF16" rfl (plainFor_of_name pn_37) (fun m => ef_uchk_1_2 m tA) (fun p e s m below meth c s₁ hx hby hml hown hnm hlk hret hZ X0 e0 => ?_)
  have N0 := Fr.nil n0
  show gs s₁ m 0 #[vi 1, vr tA] []
  refine oiloadN X0 hx hby d37_0 rfl ?_
  refine oaloadN X0 hx hby d37_1 rfl rfl ?_
  refine oS 1 X0 hx hZ hby hml hown (own_w hw 181 rfl) (own_w hw 182 rfl) (own_w hw 166 rfl) (own_w hw 183 rfl) (rm_ulen_2 l Z a0 hw [] tA kA y0 y1 y2 y3 h0 n0 Z0  R_A) e0 (by decide) own_pd2 d37_2 rfl rfl rfl (fun T1 L1 v1 X1 hQ1 => ?_)
  obtain ⟨rfl, Nq1, eq1⟩ := hQ1
  have N1 := Fr.app N0 Nq1
  show gs T1 m 5 #[vi 1, vr tA] [(.int 2), (.int 1)]
  refine oS 0 X1 hx hZ hby hml hown (own_w hw 196 rfl) (own_w hw 146 rfl) (own_w hw 32 rfl) (own_w hw 147 rfl) (rm_chk_1_2 l Z a0 hw [] fm h0 n0 Z0 O0 S_SF P_SF) eq1 (by decide) own_pd3 d37_5 rfl rfl rfl (fun T2 L2 v2 X2 hQ2 => ?_)
  obtain ⟨rfl, Nq2, eq2⟩ := hQ2
  have N2 := Fr.app N1 Nq2
  show gs T2 m 8 #[vi 1, vr tA] []
  exact own_retV X2 hx hlk hret (hb hby d37_8) (by decide) (by decide) (by rw [eq2]; exact ⟨rfl, N2, rfl⟩)
theorem ef_putSB_1_2 (m : MethodId) (x0 : Addr) (x1 : Int32) : entryFrame m #[(.ref x0), (.int 1), (.int x1)] 3 = mkF m 0 #[.val (.ref x0), .val (.int 1), .val (.int x1)] [] := by first | (simp [entryFrame, mkF, argsToLocals, Value.category]; done) | rfl
def Q_putSB_1_2 (Z : State) (tA : Addr) (kA : ClassId) (c1 : Int32) (y0 : Int32) (y1 : Int32) (y2 : Int32) (y3 : Int32) (fm : Value) (h0 : Heap) (n0 : Nat) (v : Option Value) (h : Heap) (L : List Loc) : Prop := v = none ∧ Fr n0 L ∧ Keep h0 h [tA] ∧ Arv Z h tA kA .byte (4 : Int32) [(.int y0), (.int y1), (.int (nar .byte ((c1 >>> ((0 : Int32) &&& 31)).toInt8.toInt32))), (.int (nar .byte ((c1 >>> ((8 : Int32) &&& 31)).toInt8.toInt32)))] (.int 0)
theorem rm_putSB_1_2 (l : Launch) (Z : State) (a0 : Array Value) (hw : HW a0 Z) (ws : List Jvm.Cond) (tA : Addr) (kA : ClassId) (c1 : Int32) (y0 : Int32) (y1 : Int32) (y2 : Int32) (y3 : Int32) (fm : Value) (h0 : Heap) (n0 : Nat) (Z0 : n0 ≤ h0.size) (O0 : Old Z n0 h0) (R_A : Arv Z h0 tA kA .byte (4 : Int32) [(.int y0), (.int y1), (.int y2), (.int y3)] (.int 0)) (g_A : n0 ≤ tA) (S_AD : sk1 Z Z.heap (.int 1)) (S_HI : sk2 Z Z.heap (.int 0)) (S_LO : sk3 Z Z.heap (.int 8)) (S_SF : sk4 Z Z.heap fm) (P_SF : fm.isRef = true) :
    M8 l ws (rmk 3 0 0 40) Z #[(.ref tA), (.int 1), (.int c1)] h0 (Q_putSB_1_2 Z tA kA c1 y0 y1 y2 y3 fm h0 n0) := by
  refine own_go "java/lang/StringUTF16" rfl (plainFor_of_name pn_36) (fun m => ef_putSB_1_2 m tA c1) (fun p e s m below meth c s₁ hx hby hml hown hnm hlk hret hZ X0 e0 => ?_)
  have N0 := Fr.nil n0
  have K0 := Keep.refl h0 [tA]
  show gs s₁ m 0 #[vr tA, vi 1, vi c1] []
  refine oiloadN X0 hx hby d36_0 rfl ?_
  refine oaloadN X0 hx hby d36_1 rfl rfl ?_
  refine oS 0 X0 hx hZ hby hml hown (own_w hw 193 rfl) (own_w hw 194 rfl) (own_w hw 166 rfl) (own_w hw 195 rfl) (rm_uchk_1_2 l Z a0 hw [] tA kA y0 y1 y2 y3 fm h0 n0 Z0 O0 R_A S_SF P_SF) e0 (by decide) own_pd4 d36_2 rfl rfl rfl (fun T1 L1 v1 X1 hQ1 => ?_)
  obtain ⟨rfl, Nq1, eq1⟩ := hQ1
  have N1 := Fr.app N0 Nq1
  show gs T1 m 5 #[vr tA, vi 1, vi c1] []
  refine oaloadN X1 hx hby d36_5 rfl rfl ?_
  refine oiloadN X1 hx hby d36_6 rfl ?_
  refine oiloadN X1 hx hby d36_7 rfl ?_
  refine oS 0 X1 hx hZ hby hml hown (own_w hw 197 rfl) (own_w hw 198 rfl) (own_w hw 166 rfl) (own_w hw 199 rfl) (rm_put_1_2 l Z a0 hw [] tA kA c1 y0 y1 y2 y3 h0 n0 Z0 O0 R_A g_A S_AD S_HI S_LO) eq1 (by decide) own_pd5 d36_8 rfl rfl rfl (fun T2 L2 v2 X2 hQ2 => ?_)
  obtain ⟨rfl, Nq2, Kc2, P2_0⟩ := hQ2
  have N2 := Fr.app N1 Nq2
  have K2 := K0.trans Kc2 (allS (Or.inl (List.mem_of_getElem? (i := 0) rfl)) all0)
  have O2 := O0.keep Kc2 (allS g_A all0)
  show gs T2 m 11 #[vr tA, vi 1, vi c1] []
  exact own_retV X2 hx hlk hret (hb hby d36_11) (by decide) (by decide) (show Q_putSB_1_2 Z tA kA c1 y0 y1 y2 y3 fm h0 n0 _ _ _ from ⟨rfl, N2, K2, P2_0⟩)
theorem d12_0 : dk B9 0 (.getstatic 18) 3 := by decide +kernel
theorem d12_3 : dk B9 3 (.ifCond .eq 14) 3 := by decide +kernel
theorem d12_6 : dk B9 6 (.aload_n 0) 1 := by decide +kernel
theorem d12_7 : dk B9 7 (.getfield 22) 3 := by decide +kernel
theorem d12_10 : dk B9 10 (.ifCond .ne 7) 3 := by decide +kernel
theorem d12_13 : dk B9 13 (.iconst 1) 1 := by decide +kernel
theorem d12_14 : dk B9 14 (.goto 4) 3 := by decide +kernel
theorem d12_17 : dk B9 17 (.iconst 0) 1 := by decide +kernel
theorem d12_18 : dk B9 18 (.ireturn) 1 := by decide +kernel
theorem pn_12 : plainName "java/lang/AbstractStringBuilder" = true := by first | (simp [plainName, overriddenIn]; done) | decide +kernel
theorem ef_asbLat0 (m : MethodId) (x0 : Addr) : entryFrame m #[(.ref x0)] 1 = mkF m 0 #[.val (.ref x0)] [] := by first | (simp [entryFrame, mkF, argsToLocals, Value.category]; done) | rfl
def Q_asbLat0 (Z : State) (a1 : Addr) (zCS : Int32) (h0 : Heap) (n0 : Nat) (v : Option Value) (h : Heap) (L : List Loc) : Prop := v = some (.int 1) ∧ Fr n0 L ∧ h = h0
theorem rm_asbLat0 (l : Launch) (Z : State) (a0 : Array Value) (hw : HW a0 Z) (ws : List Jvm.Cond) (a1 : Addr) (zCS : Int32) (h0 : Heap) (n0 : Nat) (Z0 : n0 ≤ h0.size) (O0 : Old Z n0 h0) (S_CS : sk0 Z Z.heap (.int zCS)) (P_CS : ¬ zCS = 0) (Fc : fk12 Z h0 a1 (.int 0)) :
    M9 l ws (rmk 0 0 0 0) Z #[(.ref a1)] h0 (Q_asbLat0 Z a1 zCS h0 n0) := by
  refine own_go "java/lang/AbstractStringBuilder" rfl (plainFor_of_name pn_12) (fun m => ef_asbLat0 m a1) (fun p e s m below meth c s₁ hx hby hml hown hnm hlk hret hZ X0 e0 => ?_)
  have N0 := Fr.nil n0
  show gs s₁ m 0 #[vr a1] []
  obtain ⟨T1, X1, e1, st1⟩ := getS2 X0 hx hZ hown (host := "") (Or.inl (own_w hw 31 rfl)) Via.refl e0 (Sta.ext O0.2 S_CS) (g := (mkF m 0 #[vr a1] [])) rfl (hb hby d12_0)
  refine own_st st1 ?_
  show gs T1 m 3 #[vr a1] [(.int zCS)]
  refine own_st (fun _ kS => XS.ifNo X1.here hx rfl (hb hby d12_3) rfl ((if0 _ _).trans (feq (P_CS : ¬ (zCS = (0 : Int32)))).1) kS) ?_
  show gs T1 m 6 #[vr a1] []
  refine oaloadN X1 hx hby d12_6 rfl rfl ?_
  obtain ⟨T2, X2, e2, st2⟩ := getF X1 hx hZ hown (host := "") (Or.inl (own_w hw 35 rfl)) Via.refl e1 Fc (g := (mkF m 7 #[vr a1] [(.ref a1)])) rfl rfl (hb hby d12_7)
  refine own_st st2 ?_
  show gs T2 m 10 #[vr a1] [(.int 0)]
  refine own_st (fun _ kS => XS.ifNo X2.here hx rfl (hb hby d12_10) rfl ((if0 _ _).trans (teq (by decide : (0 : Int32) = (0 : Int32))).2) kS) ?_
  show gs T2 m 13 #[vr a1] []
  refine oiconst X2 hx hby d12_13 ?_
  refine own_st (fun _ kS => XS.goto X2.here hx rfl (pc0 := 14) (pc' := 18) rfl (hb hby d12_14) (by decide) (by decide) kS) ?_
  show gs T2 m 18 #[vr a1] [(.int 1)]
  exact own_retN X2 hx hlk (t := .boolean) hret (by simp) (hb hby d12_18) (by decide) (by decide) (v' := (1 : Int32)) rfl (by rw [e2]; exact ⟨rfl, N0, rfl⟩)
theorem ef_asbLat1 (m : MethodId) (x0 : Addr) : entryFrame m #[(.ref x0)] 1 = mkF m 0 #[.val (.ref x0)] [] := by first | (simp [entryFrame, mkF, argsToLocals, Value.category]; done) | rfl
def Q_asbLat1 (Z : State) (a1 : Addr) (zCS : Int32) (h0 : Heap) (n0 : Nat) (v : Option Value) (h : Heap) (L : List Loc) : Prop := v = some (.int 0) ∧ Fr n0 L ∧ h = h0
theorem rm_asbLat1 (l : Launch) (Z : State) (a0 : Array Value) (hw : HW a0 Z) (ws : List Jvm.Cond) (a1 : Addr) (zCS : Int32) (h0 : Heap) (n0 : Nat) (Z0 : n0 ≤ h0.size) (O0 : Old Z n0 h0) (S_CS : sk0 Z Z.heap (.int zCS)) (P_CS : ¬ zCS = 0) (Fc : fk12 Z h0 a1 (.int 1)) :
    M9 l ws (rmk 0 0 0 0) Z #[(.ref a1)] h0 (Q_asbLat1 Z a1 zCS h0 n0) := by
  refine own_go "java/lang/AbstractStringBuilder" rfl (plainFor_of_name pn_12) (fun m => ef_asbLat1 m a1) (fun p e s m below meth c s₁ hx hby hml hown hnm hlk hret hZ X0 e0 => ?_)
  have N0 := Fr.nil n0
  show gs s₁ m 0 #[vr a1] []
  obtain ⟨T1, X1, e1, st1⟩ := getS2 X0 hx hZ hown (host := "") (Or.inl (own_w hw 31 rfl)) Via.refl e0 (Sta.ext O0.2 S_CS) (g := (mkF m 0 #[vr a1] [])) rfl (hb hby d12_0)
  refine own_st st1 ?_
  show gs T1 m 3 #[vr a1] [(.int zCS)]
  refine own_st (fun _ kS => XS.ifNo X1.here hx rfl (hb hby d12_3) rfl ((if0 _ _).trans (feq (P_CS : ¬ (zCS = (0 : Int32)))).1) kS) ?_
  show gs T1 m 6 #[vr a1] []
  refine oaloadN X1 hx hby d12_6 rfl rfl ?_
  obtain ⟨T2, X2, e2, st2⟩ := getF X1 hx hZ hown (host := "") (Or.inl (own_w hw 35 rfl)) Via.refl e1 Fc (g := (mkF m 7 #[vr a1] [(.ref a1)])) rfl rfl (hb hby d12_7)
  refine own_st st2 ?_
  show gs T2 m 10 #[vr a1] [(.int 1)]
  refine own_st (fun _ kS => XS.ifYes X2.here hx rfl (pc0 := 10) (pc' := 17) rfl (hb hby d12_10) rfl ((if0 _ _).trans (feq (by decide : ¬ ((1 : Int32) = (0 : Int32)))).2) (by decide) (by decide) kS) ?_
  show gs T2 m 17 #[vr a1] []
  refine oiconst X2 hx hby d12_17 ?_
  exact own_retN X2 hx hlk (t := .boolean) hret (by simp) (hb hby d12_18) (by decide) (by decide) (v' := (0 : Int32)) rfl (by rw [e2]; exact ⟨rfl, N0, rfl⟩)
theorem d29_0 : dk B10 0 (.iload_n 0) 1 := by decide +kernel
theorem d29_1 : dk B10 1 (.ifCond .ge 11) 3 := by decide +kernel
theorem d29_4 : dk B10 4 (.new 17) 3 := by decide +kernel
theorem d29_7 : dk B10 7 (.dup) 1 := by decide +kernel
theorem d29_8 : dk B10 8 (.invokespecial 19) 3 := by decide +kernel
theorem d29_11 : dk B10 11 (.athrow) 1 := by decide +kernel
theorem d29_12 : dk B10 12 (.iload_n 0) 1 := by decide +kernel
theorem d29_13 : dk B10 13 (.ldc 20) 2 := by decide +kernel
theorem d29_15 : dk B10 15 (.if_icmp .lt 40) 3 := by decide +kernel
theorem d29_18 : dk B10 18 (.new 21) 3 := by decide +kernel
theorem d29_21 : dk B10 21 (.dup) 1 := by decide +kernel
theorem d29_22 : dk B10 22 (.new 23) 3 := by decide +kernel
theorem d29_25 : dk B10 25 (.dup) 1 := by decide +kernel
theorem d29_26 : dk B10 26 (.invokespecial 25) 3 := by decide +kernel
theorem d29_29 : dk B10 29 (.ldc 26) 2 := by decide +kernel
theorem d29_31 : dk B10 31 (.invokevirtual 28) 3 := by decide +kernel
theorem d29_34 : dk B10 34 (.iload_n 0) 1 := by decide +kernel
theorem d29_35 : dk B10 35 (.invokevirtual 32) 3 := by decide +kernel
theorem d29_38 : dk B10 38 (.ldc 35) 2 := by decide +kernel
theorem d29_40 : dk B10 40 (.invokevirtual 28) 3 := by decide +kernel
theorem d29_43 : dk B10 43 (.ldc 20) 2 := by decide +kernel
theorem d29_45 : dk B10 45 (.invokevirtual 32) 3 := by decide +kernel
theorem d29_48 : dk B10 48 (.invokevirtual 37) 3 := by decide +kernel
theorem d29_51 : dk B10 51 (.invokespecial 41) 3 := by decide +kernel
theorem d29_54 : dk B10 54 (.athrow) 1 := by decide +kernel
theorem d29_55 : dk B10 55 (.iload_n 0) 1 := by decide +kernel
theorem d29_56 : dk B10 56 (.iconst 1) 1 := by decide +kernel
theorem d29_57 : dk B10 57 (.ishl) 1 := by decide +kernel
theorem d29_58 : dk B10 58 (.ireturn) 1 := by decide +kernel
theorem pn_29 : plainName "java/lang/StringUTF16" = true := by first | (simp [plainName, overriddenIn]; done) | decide +kernel
theorem ef_nbl_1 (m : MethodId)  : entryFrame m #[(.int 1)] 1 = mkF m 0 #[.val (.int 1)] [] := by first | (simp [entryFrame, mkF, argsToLocals, Value.category]; done) | rfl
def Q_nbl_1 (Z : State)  (h0 : Heap) (n0 : Nat) (v : Option Value) (h : Heap) (L : List Loc) : Prop := v = some (.int 2) ∧ Fr n0 L ∧ h = h0
theorem rm_nbl_1 (l : Launch) (Z : State) (a0 : Array Value) (hw : HW a0 Z) (ws : List Jvm.Cond)  (h0 : Heap) (n0 : Nat) (Z0 : n0 ≤ h0.size)  :
    M10 l ws (rmk 0 0 0 0) Z #[(.int 1)] h0 (Q_nbl_1 Z  h0 n0) := by
  refine own_go "java/lang/StringUTF16" rfl (plainFor_of_name pn_29) (fun m => ef_nbl_1 m ) (fun p e s m below meth c s₁ hx hby hml hown hnm hlk hret hZ X0 e0 => ?_)
  have N0 := Fr.nil n0
  show gs s₁ m 0 #[vi 1] []
  refine oiloadN X0 hx hby d29_0 rfl ?_
  refine own_st (fun _ kS => XS.ifYes X0.here hx rfl (pc0 := 1) (pc' := 12) rfl (hb hby d29_1) rfl ((if0 _ _).trans (flt (by decide : ¬ ((1 : Int32) < (0 : Int32)))).2.1) (by decide) (by decide) kS) ?_
  show gs s₁ m 12 #[vi 1] []
  refine oiloadN X0 hx hby d29_12 rfl ?_
  show gs s₁ m 13 #[vi 1] [(.int 1)]
  refine own_st (fun _ kS => X0.ldcInt hx hown (mvT hZ (own_w hw 171 rfl)) (g := (mkF m 13 #[vi 1] [(.int 1)])) rfl (hb hby d29_13) _ kS) ?_
  show gs s₁ m 15 #[vi 1] [(.int 1073741823), (.int 1)]
  refine own_st (fun _ kS => XS.icmpYes X0.here hx rfl (pc0 := 15) (pc' := 55) rfl (hb hby d29_15) rfl (tlt (by decide : (1 : Int32) < (1073741823 : Int32))).1 (by decide) (by decide) kS) ?_
  show gs s₁ m 55 #[vi 1] []
  refine oiloadN X0 hx hby d29_55 rfl ?_
  refine oiconst X0 hx hby d29_56 ?_
  refine own_st (fun _ kS => XT.ishl X0.here hx rfl (hb hby d29_57) rfl kS) ?_
  show gs s₁ m 58 #[vi 1] [(.int 2)]
  exact own_retI X0 hx hlk hret (hb hby d29_58) (by decide) (by decide) (by rw [e0]; exact ⟨rfl, N0, rfl⟩)
theorem d28_0 : dk B11 0 (.iload_n 0) 1 := by decide +kernel
theorem d28_1 : dk B11 1 (.invokestatic 11) 3 := by decide +kernel
theorem d28_4 : dk B11 4 (.newarray .byte) 2 := by decide +kernel
theorem d28_6 : dk B11 6 (.areturn) 1 := by decide +kernel
theorem pn_28 : plainName "java/lang/StringUTF16" = true := by first | (simp [plainName, overriddenIn]; done) | decide +kernel
theorem own_pd6 : parseMethodDescriptor "(I)I" = some ⟨[.int], some .int⟩ := by decide +kernel
theorem ef_nbf_1 (m : MethodId)  : entryFrame m #[(.int 1)] 1 = mkF m 0 #[.val (.int 1)] [] := by first | (simp [entryFrame, mkF, argsToLocals, Value.category]; done) | rfl
def Q_nbf_1 (Z : State)  (h0 : Heap) (n0 : Nat) (v : Option Value) (h : Heap) (L : List Loc) : Prop := ∃ tN : Addr, ∃ kN : ClassId, v = some (.ref tN) ∧ Fr n0 L ∧ Keep h0 h [] ∧ h0.size ≤ tN ∧ ek19 Z h tN ∧ Arv Z h tN kN .byte (2 : Int32) [(.int 0), (.int 0)] (.int 0)
theorem rm_nbf_1 (l : Launch) (Z : State) (a0 : Array Value) (hw : HW a0 Z) (ws : List Jvm.Cond)  (h0 : Heap) (n0 : Nat) (Z0 : n0 ≤ h0.size)  :
    M11 l ws (rmk 1 1 2 12) Z #[(.int 1)] h0 (Q_nbf_1 Z  h0 n0) := by
  refine own_go "java/lang/StringUTF16" rfl (plainFor_of_name pn_28) (fun m => ef_nbf_1 m ) (fun p e s m below meth c s₁ hx hby hml hown hnm hlk hret hZ X0 e0 => ?_)
  have N0 := Fr.nil n0
  have K0 := Keep.refl h0 []
  show gs s₁ m 0 #[vi 1] []
  refine oiloadN X0 hx hby d28_0 rfl ?_
  refine oS 0 X0 hx hZ hby hml hown (own_w hw 168 rfl) (own_w hw 169 rfl) (own_w hw 166 rfl) (own_w hw 170 rfl) (rm_nbl_1 l Z a0 hw []  h0 n0 Z0  ) e0 (by decide) own_pd6 d28_1 rfl rfl rfl (fun T1 L1 v1 X1 hQ1 => ?_)
  obtain ⟨rfl, Nq1, eq1⟩ := hQ1
  have N1 := Fr.app N0 Nq1
  show gs T1 m 4 #[vi 1] [(.int 2)]
  obtain ⟨T2, h2, k2, X2, e2, E2, A2, B2, st2⟩ := newPE X1 hx hZ (own_w hw 8 rfl) eq1 (g := (mkF m 4 #[vi 1] [(.int 2)])) rfl (hb hby d28_4) rfl (by decide) (cap := 2) (by decide) (by decide) (by decide) (by decide) (ad := "[B") rfl
  obtain ⟨b2, g2⟩ : ∃ z, z = h0.size := ⟨_, rfl⟩
  have ge_b2 : n0 ≤ b2 := Nat.le_trans Z0 (Nat.le_of_eq g2.symm)
  have sz_b2 : h0.size ≤ b2 := Nat.le_trans K0.1 (Nat.le_of_eq g2.symm)
  rw [← g2] at A2 B2 st2
  have K2 := K0.ext E2
  have R2 : Arv Z h2 b2 k2 .byte (2 : Int32) [(.int 0), (.int 0)] (.int 0) := (Arv.new A2 (by decide)).pad (pad_rep [] (.int 0) 2)
  refine own_st st2 ?_
  show gs T2 m 6 #[vi 1] [(.ref b2)]
  exact own_retA X2 hx hlk hret rfl rfl (hb hby d28_6) (by decide) (by decide) (by rw [e2]; exact ⟨b2, k2, ⟨rfl, N1, K2, sz_b2, B2, R2⟩⟩)
theorem d35_0 : dk B12 0 (.iload_n 2) 1 := by decide +kernel
theorem d35_1 : dk B12 1 (.iload_n 0) 1 := by decide +kernel
theorem d35_2 : dk B12 2 (.ior) 1 := by decide +kernel
theorem d35_3 : dk B12 3 (.iload_n 1) 1 := by decide +kernel
theorem d35_4 : dk B12 4 (.ior) 1 := by decide +kernel
theorem d35_5 : dk B12 5 (.ifCond .lt 10) 3 := by decide +kernel
theorem d35_8 : dk B12 8 (.iload_n 1) 1 := by decide +kernel
theorem d35_9 : dk B12 9 (.iload_n 2) 1 := by decide +kernel
theorem d35_10 : dk B12 10 (.iload_n 0) 1 := by decide +kernel
theorem d35_11 : dk B12 11 (.isub) 1 := by decide +kernel
theorem d35_12 : dk B12 12 (.if_icmp .le 11) 3 := by decide +kernel
theorem d35_15 : dk B12 15 (.aload_n 3) 1 := by decide +kernel
theorem d35_16 : dk B12 16 (.iload_n 0) 1 := by decide +kernel
theorem d35_17 : dk B12 17 (.iload_n 1) 1 := by decide +kernel
theorem d35_18 : dk B12 18 (.iload_n 2) 1 := by decide +kernel
theorem d35_19 : dk B12 19 (.invokestatic 103) 3 := by decide +kernel
theorem d35_22 : dk B12 22 (.athrow) 1 := by decide +kernel
theorem d35_23 : dk B12 23 (.iload_n 0) 1 := by decide +kernel
theorem d35_24 : dk B12 24 (.ireturn) 1 := by decide +kernel
theorem pn_35 : plainName "jdk/internal/util/Preconditions" = true := by first | (simp [plainName, overriddenIn]; done) | decide +kernel
theorem ef_pfis_0_1 (m : MethodId) (x0 : Value) (hx0 : x0.isRef = true) : entryFrame m #[(.int 0), (.int 0), (.int 1), x0] 4 = mkF m 0 #[.val (.int 0), .val (.int 0), .val (.int 1), .val x0] [] := by
  rcases ref_cases hx0 with rfl | ⟨_, rfl⟩ <;> (first | (simp [entryFrame, mkF, argsToLocals, Value.category]; done) | rfl)
def Q_pfis_0_1 (Z : State) (fm : Value) (h0 : Heap) (n0 : Nat) (v : Option Value) (h : Heap) (L : List Loc) : Prop := v = some (.int 0) ∧ Fr n0 L ∧ h = h0
theorem rm_pfis_0_1 (l : Launch) (Z : State) (a0 : Array Value) (hw : HW a0 Z) (ws : List Jvm.Cond) (fm : Value) (h0 : Heap) (n0 : Nat) (Z0 : n0 ≤ h0.size) (P_SF : fm.isRef = true) :
    M12 l ws (rmk 0 0 0 0) Z #[(.int 0), (.int 0), (.int 1), fm] h0 (Q_pfis_0_1 Z fm h0 n0) := by
  refine own_go "jdk/internal/util/Preconditions" rfl (plainFor_of_name pn_35) (fun m => ef_pfis_0_1 m fm P_SF) (fun p e s m below meth c s₁ hx hby hml hown hnm hlk hret hZ X0 e0 => ?_)
  have N0 := Fr.nil n0
  show gs s₁ m 0 #[vi 0, vi 0, vi 1, .val fm] []
  refine oiloadN X0 hx hby d35_0 rfl ?_
  refine oiloadN X0 hx hby d35_1 rfl ?_
  refine own_st (fun _ kS => XT.ior X0.here hx rfl (hb hby d35_2) rfl kS) ?_
  refine oiloadN X0 hx hby d35_3 rfl ?_
  refine own_st (fun _ kS => XT.ior X0.here hx rfl (hb hby d35_4) rfl kS) ?_
  show gs s₁ m 5 #[vi 0, vi 0, vi 1, .val fm] [(.int 1)]
  refine own_st (fun _ kS => XS.ifNo X0.here hx rfl (hb hby d35_5) rfl ((if0 _ _).trans (flt (by decide : ¬ ((1 : Int32) < (0 : Int32)))).1) kS) ?_
  show gs s₁ m 8 #[vi 0, vi 0, vi 1, .val fm] []
  refine oiloadN X0 hx hby d35_8 rfl ?_
  refine oiloadN X0 hx hby d35_9 rfl ?_
  refine oiloadN X0 hx hby d35_10 rfl ?_
  refine own_st (fun _ kS => XS.isub X0.here hx rfl (hb hby d35_11) rfl kS) ?_
  show gs s₁ m 12 #[vi 0, vi 0, vi 1, .val fm] [(.int 1), (.int 0)]
  refine own_st (fun _ kS => XS.icmpYes X0.here hx rfl (pc0 := 12) (pc' := 23) rfl (hb hby d35_12) rfl (flt (by decide : ¬ ((1 : Int32) < (0 : Int32)))).2.2.2 (by decide) (by decide) kS) ?_
  show gs s₁ m 23 #[vi 0, vi 0, vi 1, .val fm] []
  refine oiloadN X0 hx hby d35_23 rfl ?_
  exact own_retI X0 hx hlk hret (hb hby d35_24) (by decide) (by decide) (by rw [e0]; exact ⟨rfl, N0, rfl⟩)
theorem d34_0 : dk B13 0 (.iload_n 0) 1 := by decide +kernel
theorem d34_1 : dk B13 1 (.iload_n 1) 1 := by decide +kernel
theorem d34_2 : dk B13 2 (.iload_n 2) 1 := by decide +kernel
theorem d34_3 : dk B13 3 (.getstatic 1053) 3 := by decide +kernel
theorem d34_6 : dk B13 6 (.invokestatic 1065) 3 := by decide +kernel
theorem d34_9 : dk B13 9 (.ireturn) 1 := by decide +kernel
theorem pn_34 : plainName "java/lang/String" = true := by first | (simp [plainName, overriddenIn]; done) | decide +kernel
theorem own_pd7 : parseMethodDescriptor "(IIILjava/util/function/BiFunction;)I" = some ⟨[.int, .int, .int, (.object "java/util/function/BiFunction")], some .int⟩ := by decide +kernel
theorem ef_sboc_0_1 (m : MethodId)  : entryFrame m #[(.int 0), (.int 0), (.int 1)] 3 = mkF m 0 #[.val (.int 0), .val (.int 0), .val (.int 1)] [] := by first | (simp [entryFrame, mkF, argsToLocals, Value.category]; done) | rfl
def Q_sboc_0_1 (Z : State) (fm : Value) (h0 : Heap) (n0 : Nat) (v : Option Value) (h : Heap) (L : List Loc) : Prop := v = some (.int 0) ∧ Fr n0 L ∧ h = h0
theorem rm_sboc_0_1 (l : Launch) (Z : State) (a0 : Array Value) (hw : HW a0 Z) (ws : List Jvm.Cond) (fm : Value) (h0 : Heap) (n0 : Nat) (Z0 : n0 ≤ h0.size) (O0 : Old Z n0 h0) (S_SF : sk4 Z Z.heap fm) (P_SF : fm.isRef = true) :
    M13 l ws (rmk 1 0 0 15) Z #[(.int 0), (.int 0), (.int 1)] h0 (Q_sboc_0_1 Z fm h0 n0) := by
  refine own_go "java/lang/String" rfl (plainFor_of_name pn_34) (fun m => ef_sboc_0_1 m ) (fun p e s m below meth c s₁ hx hby hml hown hnm hlk hret hZ X0 e0 => ?_)
  have N0 := Fr.nil n0
  show gs s₁ m 0 #[vi 0, vi 0, vi 1] []
  refine oiloadN X0 hx hby d34_0 rfl ?_
  refine oiloadN X0 hx hby d34_1 rfl ?_
  refine oiloadN X0 hx hby d34_2 rfl ?_
  obtain ⟨T1, X1, e1, st1⟩ := getS2 X0 hx hZ hown (host := "") (Or.inl (own_w hw 148 rfl)) Via.refl e0 (Sta.ext O0.2 S_SF) (g := (mkF m 3 #[vi 0, vi 0, vi 1] [(.int 1), (.int 0), (.int 0)])) rfl (hb hby d34_3)
  refine own_st st1 ?_
  show gs T1 m 6 #[vi 0, vi 0, vi 1] [fm, (.int 1), (.int 0), (.int 0)]
  refine oS 0 X1 hx hZ hby hml hown (own_w hw 187 rfl) (own_w hw 188 rfl) (own_w hw 149 rfl) (own_w hw 189 rfl) (rm_pfis_0_1 l Z a0 hw [] fm h0 n0 Z0  P_SF) e1 (by decide) own_pd7 d34_6 rfl rfl rfl (fun T2 L2 v2 X2 hQ2 => ?_)
  obtain ⟨rfl, Nq2, eq2⟩ := hQ2
  have N2 := Fr.app N0 Nq2
  show gs T2 m 9 #[vi 0, vi 0, vi 1] [(.int 0)]
  exact own_retI X2 hx hlk hret (hb hby d34_9) (by decide) (by decide) (by rw [eq2]; exact ⟨rfl, N2, rfl⟩)
theorem d32_0 : dk B14 0 (.iload_n 0) 1 := by decide +kernel
theorem d32_1 : dk B14 1 (.iload_n 1) 1 := by decide +kernel
theorem d32_2 : dk B14 2 (.aload_n 2) 1 := by decide +kernel
theorem d32_3 : dk B14 3 (.invokestatic 48) 3 := by decide +kernel
theorem d32_6 : dk B14 6 (.invokestatic 419) 3 := by decide +kernel
theorem d32_9 : dk B14 9 (.pop) 1 := by decide +kernel
theorem d32_10 : dk B14 10 (.return_) 1 := by decide +kernel
theorem pn_32 : plainName "java/lang/StringUTF16" = true := by first | (simp [plainName, overriddenIn]; done) | decide +kernel
theorem own_pd8 : parseMethodDescriptor "(III)I" = some ⟨[.int, .int, .int], some .int⟩ := by decide +kernel
theorem ef_uboc_0_1 (m : MethodId) (x0 : Addr) : entryFrame m #[(.int 0), (.int 0), (.ref x0)] 3 = mkF m 0 #[.val (.int 0), .val (.int 0), .val (.ref x0)] [] := by first | (simp [entryFrame, mkF, argsToLocals, Value.category]; done) | rfl
def Q_uboc_0_1 (Z : State) (tA : Addr) (kA : ClassId) (y0 : Int32) (y1 : Int32) (fm : Value) (h0 : Heap) (n0 : Nat) (v : Option Value) (h : Heap) (L : List Loc) : Prop := v = none ∧ Fr n0 L ∧ h = h0
theorem rm_uboc_0_1 (l : Launch) (Z : State) (a0 : Array Value) (hw : HW a0 Z) (ws : List Jvm.Cond) (tA : Addr) (kA : ClassId) (y0 : Int32) (y1 : Int32) (fm : Value) (h0 : Heap) (n0 : Nat) (Z0 : n0 ≤ h0.size) (O0 : Old Z n0 h0) (R_A : Arv Z h0 tA kA .byte (2 : Int32) [(.int y0), (.int y1)] (.int 0)) (S_SF : sk4 Z Z.heap fm) (P_SF : fm.isRef = true) :
    M14 l ws (rmk 2 0 0 29) Z #[(.int 0), (.int 0), (.ref tA)] h0 (Q_uboc_0_1 Z tA kA y0 y1 fm h0 n0) := by
  refine own_go "java/lang/StringUTF16" rfl (plainFor_of_name pn_32) (fun m => ef_uboc_0_1 m tA) (fun p e s m below meth c s₁ hx hby hml hown hnm hlk hret hZ X0 e0 => ?_)
  have N0 := Fr.nil n0
  show gs s₁ m 0 #[vi 0, vi 0, vr tA] []
  refine oiloadN X0 hx hby d32_0 rfl ?_
  refine oiloadN X0 hx hby d32_1 rfl ?_
  refine oaloadN X0 hx hby d32_2 rfl rfl ?_
  refine oS 2 X0 hx hZ hby hml hown (own_w hw 181 rfl) (own_w hw 182 rfl) (own_w hw 166 rfl) (own_w hw 183 rfl) (rm_ulen_1 l Z a0 hw [] tA kA y0 y1 h0 n0 Z0  R_A) e0 (by decide) own_pd2 d32_3 rfl rfl rfl (fun T1 L1 v1 X1 hQ1 => ?_)
  obtain ⟨rfl, Nq1, eq1⟩ := hQ1
  have N1 := Fr.app N0 Nq1
  show gs T1 m 6 #[vi 0, vi 0, vr tA] [(.int 1), (.int 0), (.int 0)]
  refine oS 0 X1 hx hZ hby hml hown (own_w hw 184 rfl) (own_w hw 185 rfl) (own_w hw 32 rfl) (own_w hw 186 rfl) (rm_sboc_0_1 l Z a0 hw [] fm h0 n0 Z0 O0 S_SF P_SF) eq1 (by decide) own_pd8 d32_6 rfl rfl rfl (fun T2 L2 v2 X2 hQ2 => ?_)
  obtain ⟨rfl, Nq2, eq2⟩ := hQ2
  have N2 := Fr.app N1 Nq2
  show gs T2 m 9 #[vi 0, vi 0, vr tA] [(.int 0)]
  refine own_st (fun _ kS => XT.pop X2.here hx rfl (hb hby d32_9) rfl rfl kS) ?_
  show gs T2 m 10 #[vi 0, vi 0, vr tA] []
  exact own_retV X2 hx hlk hret (hb hby d32_10) (by decide) (by decide) (by rw [eq2]; exact ⟨rfl, N2, rfl⟩)
theorem d31_0 : dk B15 0 (.iload_n 3) 1 := by decide +kernel
theorem d31_1 : dk B15 1 (.iload 4) 2 := by decide +kernel
theorem d31_3 : dk B15 3 (.aload_n 2) 1 := by decide +kernel
theorem d31_4 : dk B15 4 (.invokestatic 173) 3 := by decide +kernel
theorem d31_7 : dk B15 7 (.iconst 0) 1 := by decide +kernel
theorem d31_8 : dk B15 8 (.istore 5) 2 := by decide +kernel
theorem d31_10 : dk B15 10 (.iload 5) 2 := by decide +kernel
theorem d31_12 : dk B15 12 (.iload 4) 2 := by decide +kernel
theorem d31_14 : dk B15 14 (.if_icmp .ge 27) 3 := by decide +kernel
theorem d31_17 : dk B15 17 (.aload_n 2) 1 := by decide +kernel
theorem d31_18 : dk B15 18 (.iload_n 3) 1 := by decide +kernel
theorem d31_19 : dk B15 19 (.iinc 3 1) 3 := by decide +kernel
theorem d31_22 : dk B15 22 (.aload_n 0) 1 := by decide +kernel
theorem d31_23 : dk B15 23 (.iload_n 1) 1 := by decide +kernel
theorem d31_24 : dk B15 24 (.iinc 1 1) 3 := by decide +kernel
theorem d31_27 : dk B15 27 (.baload) 1 := by decide +kernel
theorem d31_28 : dk B15 28 (.sipush 255) 3 := by decide +kernel
theorem d31_31 : dk B15 31 (.iand) 1 := by decide +kernel
theorem d31_32 : dk B15 32 (.invokestatic 111) 3 := by decide +kernel
theorem d31_35 : dk B15 35 (.iinc 5 1) 3 := by decide +kernel
theorem d31_38 : dk B15 38 (.goto (-28)) 3 := by decide +kernel
theorem d31_41 : dk B15 41 (.return_) 1 := by decide +kernel
theorem pn_31 : plainName "java/lang/StringUTF16" = true := by first | (simp [plainName, overriddenIn]; done) | decide +kernel
theorem own_pd9 : parseMethodDescriptor "(II[B)V" = some ⟨[.int, .int, (.array .byte)], none⟩ := by decide +kernel
theorem ef_uinf_0_1 (m : MethodId) (x0 : Addr) (x1 : Addr) : entryFrame m #[(.ref x0), (.int 0), (.ref x1), (.int 0), (.int 0)] 6 = mkF m 0 #[.val (.ref x0), .val (.int 0), .val (.ref x1), .val (.int 0), .val (.int 0), .unset] [] := by first | (simp [entryFrame, mkF, argsToLocals, Value.category]; done) | rfl
def Q_uinf_0_1 (Z : State) (tA : Addr) (kA : ClassId) (tB : Addr) (kB : ClassId) (y0 : Int32) (z0 : Int32) (z1 : Int32) (fm : Value) (h0 : Heap) (n0 : Nat) (v : Option Value) (h : Heap) (L : List Loc) : Prop := v = none ∧ Fr n0 L ∧ Keep h0 h [tA] ∧ Arv Z h tA kA .byte (2 : Int32) [(.int z0), (.int z1)] (.int 0)
theorem rm_uinf_0_1 (l : Launch) (Z : State) (a0 : Array Value) (hw : HW a0 Z) (ws : List Jvm.Cond) (tA : Addr) (kA : ClassId) (tB : Addr) (kB : ClassId) (y0 : Int32) (z0 : Int32) (z1 : Int32) (fm : Value) (h0 : Heap) (n0 : Nat) (Z0 : n0 ≤ h0.size) (O0 : Old Z n0 h0) (R_B : Arv Z h0 tB kB .byte (1 : Int32) [(.int y0)] (.int 0)) (R_A : Arv Z h0 tA kA .byte (2 : Int32) [(.int z0), (.int z1)] (.int 0)) (g_A : n0 ≤ tA) (neBA : tB ≠ tA) (S_AD : sk1 Z Z.heap (.int 1)) (S_HI : sk2 Z Z.heap (.int 0)) (S_LO : sk3 Z Z.heap (.int 8)) (S_SF : sk4 Z Z.heap fm) (P_SF : fm.isRef = true) :
    M15 l ws (rmk 3 0 0 43) Z #[(.ref tB), (.int 0), (.ref tA), (.int 0), (.int 0)] h0 (Q_uinf_0_1 Z tA kA tB kB y0 z0 z1 fm h0 n0) := by
  refine own_go "java/lang/StringUTF16" rfl (plainFor_of_name pn_31) (fun m => ef_uinf_0_1 m tB tA) (fun p e s m below meth c s₁ hx hby hml hown hnm hlk hret hZ X0 e0 => ?_)
  have N0 := Fr.nil n0
  have K0 := Keep.refl h0 [tA]
  show gs s₁ m 0 #[vr tB, vi 0, vr tA, vi 0, vi 0, .unset] []
  refine oiloadN X0 hx hby d31_0 rfl ?_
  refine oiload X0 hx hby d31_1 rfl ?_
  refine oaloadN X0 hx hby d31_3 rfl rfl ?_
  refine oS 0 X0 hx hZ hby hml hown (own_w hw 178 rfl) (own_w hw 179 rfl) (own_w hw 166 rfl) (own_w hw 180 rfl) (rm_uboc_0_1 l Z a0 hw [] tA kA z0 z1 fm h0 n0 Z0 O0 R_A S_SF P_SF) e0 (by decide) own_pd9 d31_4 rfl rfl rfl (fun T1 L1 v1 X1 hQ1 => ?_)
  obtain ⟨rfl, Nq1, eq1⟩ := hQ1
  have N1 := Fr.app N0 Nq1
  show gs T1 m 7 #[vr tB, vi 0, vr tA, vi 0, vi 0, .unset] []
  refine oiconst X1 hx hby d31_7 ?_
  refine own_st (fun _ kS => XS.istore X1.here hx rfl (hb hby d31_8) rfl (l' := #[vr tB, vi 0, vr tA, vi 0, vi 0, vi 0]) rfl kS) ?_
  refine oiload X1 hx hby d31_10 rfl ?_
  refine oiload X1 hx hby d31_12 rfl ?_
  refine own_st (fun _ kS => XS.icmpYes X1.here hx rfl (pc0 := 14) (pc' := 41) rfl (hb hby d31_14) rfl (flt (by decide : ¬ ((0 : Int32) < (0 : Int32)))).2.1 (by decide) (by decide) kS) ?_
  show gs T1 m 41 #[vr tB, vi 0, vr tA, vi 0, vi 0, vi 0] []
  exact own_retV X1 hx hlk hret (hb hby d31_41) (by decide) (by decide) (by rw [eq1]; exact ⟨rfl, N1, K0, R_A⟩)
theorem d30_0 : dk B16 0 (.aload_n 0) 1 := by decide +kernel
theorem d30_1 : dk B16 1 (.iload_n 1) 1 := by decide +kernel
theorem d30_2 : dk B16 2 (.aload_n 2) 1 := by decide +kernel
theorem d30_3 : dk B16 3 (.iload_n 3) 1 := by decide +kernel
theorem d30_4 : dk B16 4 (.iload 4) 2 := by decide +kernel
theorem d30_6 : dk B16 6 (.invokestatic 240) 3 := by decide +kernel
theorem d30_9 : dk B16 9 (.return_) 1 := by decide +kernel
theorem pn_30 : plainName "java/lang/StringLatin1" = true := by first | (simp [plainName, overriddenIn]; done) | decide +kernel
theorem own_pd10 : parseMethodDescriptor "([BI[BII)V" = some ⟨[(.array .byte), .int, (.array .byte), .int, .int], none⟩ := by decide +kernel
theorem ef_linf_0_1 (m : MethodId) (x0 : Addr) (x1 : Addr) : entryFrame m #[(.ref x0), (.int 0), (.ref x1), (.int 0), (.int 0)] 5 = mkF m 0 #[.val (.ref x0), .val (.int 0), .val (.ref x1), .val (.int 0), .val (.int 0)] [] := by first | (simp [entryFrame, mkF, argsToLocals, Value.category]; done) | rfl
def Q_linf_0_1 (Z : State) (tA : Addr) (kA : ClassId) (tB : Addr) (kB : ClassId) (y0 : Int32) (z0 : Int32) (z1 : Int32) (fm : Value) (h0 : Heap) (n0 : Nat) (v : Option Value) (h : Heap) (L : List Loc) : Prop := v = none ∧ Fr n0 L ∧ Keep h0 h [tA] ∧ Arv Z h tA kA .byte (2 : Int32) [(.int z0), (.int z1)] (.int 0)
theorem rm_linf_0_1 (l : Launch) (Z : State) (a0 : Array Value) (hw : HW a0 Z) (ws : List Jvm.Cond) (tA : Addr) (kA : ClassId) (tB : Addr) (kB : ClassId) (y0 : Int32) (z0 : Int32) (z1 : Int32) (fm : Value) (h0 : Heap) (n0 : Nat) (Z0 : n0 ≤ h0.size) (O0 : Old Z n0 h0) (R_B : Arv Z h0 tB kB .byte (1 : Int32) [(.int y0)] (.int 0)) (R_A : Arv Z h0 tA kA .byte (2 : Int32) [(.int z0), (.int z1)] (.int 0)) (g_A : n0 ≤ tA) (neBA : tB ≠ tA) (S_AD : sk1 Z Z.heap (.int 1)) (S_HI : sk2 Z Z.heap (.int 0)) (S_LO : sk3 Z Z.heap (.int 8)) (S_SF : sk4 Z Z.heap fm) (P_SF : fm.isRef = true) :
    M16 l ws (rmk 4 0 0 60) Z #[(.ref tB), (.int 0), (.ref tA), (.int 0), (.int 0)] h0 (Q_linf_0_1 Z tA kA tB kB y0 z0 z1 fm h0 n0) := by
  refine own_go "java/lang/StringLatin1" rfl (plainFor_of_name pn_30) (fun m => ef_linf_0_1 m tB tA) (fun p e s m below meth c s₁ hx hby hml hown hnm hlk hret hZ X0 e0 => ?_)
  have N0 := Fr.nil n0
  have K0 := Keep.refl h0 [tA]
  show gs s₁ m 0 #[vr tB, vi 0, vr tA, vi 0, vi 0] []
  refine oaloadN X0 hx hby d30_0 rfl rfl ?_
  refine oiloadN X0 hx hby d30_1 rfl ?_
  refine oaloadN X0 hx hby d30_2 rfl rfl ?_
  refine oiloadN X0 hx hby d30_3 rfl ?_
  refine oiload X0 hx hby d30_4 rfl ?_
  refine oS 0 X0 hx hZ hby hml hown (own_w hw 175 rfl) (own_w hw 176 rfl) (own_w hw 166 rfl) (own_w hw 177 rfl) (rm_uinf_0_1 l Z a0 hw [] tA kA tB kB y0 z0 z1 fm h0 n0 Z0 O0 R_B R_A g_A neBA S_AD S_HI S_LO S_SF P_SF) e0 (by decide) own_pd10 d30_6 rfl rfl rfl (fun T1 L1 v1 X1 hQ1 => ?_)
  obtain ⟨rfl, Nq1, Kc1, P1_0⟩ := hQ1
  have N1 := Fr.app N0 Nq1
  have K1 := K0.trans Kc1 (allS (Or.inl (List.mem_of_getElem? (i := 0) rfl)) all0)
  have O1 := O0.keep Kc1 (allS g_A all0)
  show gs T1 m 9 #[vr tB, vi 0, vr tA, vi 0, vi 0] []
  exact own_retV X1 hx hlk hret (hb hby d30_9) (by decide) (by decide) (show Q_linf_0_1 Z tA kA tB kB y0 z0 z1 fm h0 n0 _ _ _ from ⟨rfl, N1, K1, P1_0⟩)
theorem d27_0 : dk B17 0 (.aload_n 0) 1 := by decide +kernel
theorem d27_1 : dk B17 1 (.invokevirtual 83) 3 := by decide +kernel
theorem d27_4 : dk B17 4 (.ifCond .ne 4) 3 := by decide +kernel
theorem d27_7 : dk B17 7 (.return_) 1 := by decide +kernel
theorem d27_8 : dk B17 8 (.aload_n 0) 1 := by decide +kernel
theorem d27_9 : dk B17 9 (.getfield 15) 3 := by decide +kernel
theorem d27_12 : dk B17 12 (.arraylength) 1 := by decide +kernel
theorem d27_13 : dk B17 13 (.invokestatic 26) 3 := by decide +kernel
theorem d27_16 : dk B17 16 (.astore_n 1) 1 := by decide +kernel
theorem d27_17 : dk B17 17 (.aload_n 0) 1 := by decide +kernel
theorem d27_18 : dk B17 18 (.getfield 15) 3 := by decide +kernel
theorem d27_21 : dk B17 21 (.iconst 0) 1 := by decide +kernel
theorem d27_22 : dk B17 22 (.aload_n 1) 1 := by decide +kernel
theorem d27_23 : dk B17 23 (.iconst 0) 1 := by decide +kernel
theorem d27_24 : dk B17 24 (.aload_n 0) 1 := by decide +kernel
theorem d27_25 : dk B17 25 (.getfield 79) 3 := by decide +kernel
theorem d27_28 : dk B17 28 (.invokestatic 125) 3 := by decide +kernel
theorem d27_31 : dk B17 31 (.aload_n 0) 1 := by decide +kernel
theorem d27_32 : dk B17 32 (.aload_n 1) 1 := by decide +kernel
theorem d27_33 : dk B17 33 (.putfield 15) 3 := by decide +kernel
theorem d27_36 : dk B17 36 (.aload_n 0) 1 := by decide +kernel
theorem d27_37 : dk B17 37 (.iconst 1) 1 := by decide +kernel
theorem d27_38 : dk B17 38 (.putfield 22) 3 := by decide +kernel
theorem d27_41 : dk B17 41 (.return_) 1 := by decide +kernel
theorem pn_27 : plainName "java/lang/AbstractStringBuilder" = true := by first | (simp [plainName, overriddenIn]; done) | decide +kernel
theorem own_pd11 : parseMethodDescriptor "()Z" = some ⟨[], some .boolean⟩ := by decide +kernel
theorem own_pd12 : parseMethodDescriptor "(I)[B" = some ⟨[.int], some (.array .byte)⟩ := by decide +kernel
theorem ef_infl_1_0 (m : MethodId) (x0 : Addr) : entryFrame m #[(.ref x0)] 2 = mkF m 0 #[.val (.ref x0), .unset] [] := by first | (simp [entryFrame, mkF, argsToLocals, Value.category]; done) | rfl
def Q_infl_1_0 (Z : State) (a1 : Addr) (tA : Addr) (kA : ClassId) (y0 : Int32) (zCS : Int32) (fm : Value) (h0 : Heap) (n0 : Nat) (v : Option Value) (h : Heap) (L : List Loc) : Prop := ∃ tN : Addr, ∃ kN : ClassId, v = none ∧ Fr n0 L ∧ Keep h0 h [a1] ∧ h0.size ≤ tN ∧ ek19 Z h tN ∧ ek20 Z h a1 ∧ fk11 Z h a1 (.ref tN) ∧ fk12 Z h a1 (.int 1) ∧ fk13 Z h a1 (.int 0) ∧ fk14 Z h a1 (.int 0) ∧ Arv Z h tN kN .byte (2 : Int32) [(.int 0), (.int 0)] (.int 0)
theorem rm_infl_1_0 (l : Launch) (Z : State) (a0 : Array Value) (hw : HW a0 Z) (ws : List Jvm.Cond) (a1 : Addr) (tA : Addr) (kA : ClassId) (y0 : Int32) (zCS : Int32) (fm : Value) (h0 : Heap) (n0 : Nat) (Z0 : n0 ≤ h0.size) (O0 : Old Z n0 h0) (E_1 : ek20 Z h0 a1) (g_1 : n0 ≤ a1) (Fv : fk11 Z h0 a1 (.ref tA)) (Fc : fk12 Z h0 a1 (.int 0)) (Fn : fk13 Z h0 a1 (.int 0)) (Fm : fk14 Z h0 a1 (.int 0)) (ne1A : a1 ≠ tA) (R_A : Arv Z h0 tA kA .byte (1 : Int32) [(.int y0)] (.int 0)) (S_CS : sk0 Z Z.heap (.int zCS)) (P_CS : ¬ zCS = 0) (S_SF : sk4 Z Z.heap fm) (P_SF : fm.isRef = true) (S_AD : sk1 Z Z.heap (.int 1)) (S_HI : sk2 Z Z.heap (.int 0)) (S_LO : sk3 Z Z.heap (.int 8)) :
    M17 l ws (rmk 5 1 2 76) Z #[(.ref a1)] h0 (Q_infl_1_0 Z a1 tA kA y0 zCS fm h0 n0) := by
  refine own_go "java/lang/AbstractStringBuilder" rfl (plainFor_of_name pn_27) (fun m => ef_infl_1_0 m a1) (fun p e s m below meth c s₁ hx hby hml hown hnm hlk hret hZ X0 e0 => ?_)
  have N0 := Fr.nil n0
  have K0 := Keep.refl h0 [a1]
  show gs s₁ m 0 #[vr a1, .unset] []
  refine oaloadN X0 hx hby d27_0 rfl rfl ?_
  refine oV 0 X0 hx hZ hby hml hown (own_w hw 127 rfl) (own_w hw 69 rfl) (own_w hw 71 rfl) (own_w hw 70 rfl) (rm_asbLat0 l Z a0 hw [] a1 zCS h0 n0 Z0 O0 S_CS P_CS Fc) (own_w hw 72 rfl) (own_w hw 26 rfl) e0 E_1 (by decide) own_pd11 d27_1 rfl rfl rfl (fun T1 L1 v1 X1 hQ1 => ?_)
  obtain ⟨rfl, Nq1, eq1⟩ := hQ1
  have N1 := Fr.app N0 Nq1
  show gs T1 m 4 #[vr a1, .unset] [(.int 1)]
  refine own_st (fun _ kS => XS.ifYes X1.here hx rfl (pc0 := 4) (pc' := 8) rfl (hb hby d27_4) rfl ((if0 _ _).trans (feq (by decide : ¬ ((1 : Int32) = (0 : Int32)))).2) (by decide) (by decide) kS) ?_
  show gs T1 m 8 #[vr a1, .unset] []
  refine oaloadN X1 hx hby d27_8 rfl rfl ?_
  obtain ⟨T2, X2, e2, st2⟩ := getF X1 hx hZ hown (host := "") (Or.inl (own_w hw 33 rfl)) Via.refl eq1 Fv (g := (mkF m 9 #[vr a1, .unset] [(.ref a1)])) rfl rfl (hb hby d27_9)
  refine own_st st2 ?_
  show gs T2 m 12 #[vr a1, .unset] [(.ref tA)]
  obtain ⟨cl3, Ar3, qa3, qs3, qn3, qh3, qg3⟩ := id R_A
  refine own_st (fun _ kS => X2.arraylength hx (by rw [e2]; exact Ar3.1) (State.isArrayOf_alike hZ.alike Ar3.2.1) (g := (mkF m 12 #[vr a1, .unset] [(.ref tA)])) rfl rfl (hb hby d27_12) _ kS) ?_
  rw [len_of qs3 qn3]
  show gs T2 m 13 #[vr a1, .unset] [(.int 1)]
  refine oS 0 X2 hx hZ hby hml hown (own_w hw 164 rfl) (own_w hw 165 rfl) (own_w hw 166 rfl) (own_w hw 167 rfl) (rm_nbf_1 l Z a0 hw []  h0 n0 Z0  ) e2 (by decide) own_pd12 d27_13 rfl rfl rfl (fun T4 L4 v4 X4 hQ4 => ?_)
  obtain ⟨tN_4, kN_4, rfl, Nq4, Kc4, P4_0, P4_1, P4_2⟩ := hQ4
  have N4 := Fr.app N1 Nq4
  have ne_a1_tN_4 : a1 ≠ tN_4 := Nat.ne_of_lt (Nat.lt_of_lt_of_le E_1.lt P4_0)
  have ne_tA_tN_4 : tA ≠ tN_4 := Nat.ne_of_lt (Nat.lt_of_lt_of_le R_A.lt P4_0)
  have ge_tN_4 : n0 ≤ tN_4 := Nat.le_trans Z0 P4_0
  have sz_tN_4 : h0.size ≤ tN_4 := Nat.le_trans K0.1 P4_0
  have K4 := K0.trans Kc4 all0
  have O4 := O0.keep Kc4 all0
  show gs T4 m 16 #[vr a1, .unset] [(.ref tN_4)]
  refine own_st (fun _ kS => XS.astoreN X4.here hx rfl (hb hby d27_16) rfl rfl (l' := #[vr a1, vr tN_4]) rfl kS) ?_
  refine oaloadN X4 hx hby d27_17 rfl rfl ?_
  obtain ⟨T5, X5, e5, st5⟩ := getF X4 hx hZ hown (host := "") (Or.inl (own_w hw 33 rfl)) Via.refl rfl (Fv.keep Kc4 nin0) (g := (mkF m 18 #[vr a1, vr tN_4] [(.ref a1)])) rfl rfl (hb hby d27_18)
  refine own_st st5 ?_
  show gs T5 m 21 #[vr a1, vr tN_4] [(.ref tA)]
  refine oiconst X5 hx hby d27_21 ?_
  refine oaloadN X5 hx hby d27_22 rfl rfl ?_
  refine oiconst X5 hx hby d27_23 ?_
  refine oaloadN X5 hx hby d27_24 rfl rfl ?_
  obtain ⟨T6, X6, e6, st6⟩ := getF X5 hx hZ hown (host := "") (Or.inl (own_w hw 66 rfl)) Via.refl e5 (Fn.keep Kc4 nin0) (g := (mkF m 25 #[vr a1, vr tN_4] [(.ref a1), (.int 0), (.ref tN_4), (.int 0), (.ref tA)])) rfl rfl (hb hby d27_25)
  refine own_st st6 ?_
  show gs T6 m 28 #[vr a1, vr tN_4] [(.int 0), (.int 0), (.ref tN_4), (.int 0), (.ref tA)]
  refine oS 0 X6 hx hZ hby hml hown (own_w hw 172 rfl) (own_w hw 173 rfl) (own_w hw 130 rfl) (own_w hw 174 rfl) (rm_linf_0_1 l Z a0 hw [] tN_4 kN_4 tA kA y0 (0 : Int32) (0 : Int32) fm T4.heap n0 (Nat.le_trans Z0 Kc4.1) O4 (R_A.keep Kc4 nin0) P4_2 ge_tN_4 ne_tA_tN_4 S_AD S_HI S_LO S_SF P_SF) e6 (by decide) own_pd10 d27_28 rfl rfl rfl (fun T7 L7 v7 X7 hQ7 => ?_)
  obtain ⟨rfl, Nq7, Kc7, P7_0⟩ := hQ7
  have N7 := Fr.app N4 Nq7
  have K7 := K4.trans Kc7 (allS (Or.inr sz_tN_4) all0)
  have O7 := O4.keep Kc7 (allS ge_tN_4 all0)
  show gs T7 m 31 #[vr a1, vr tN_4] []
  refine oaloadN X7 hx hby d27_31 rfl rfl ?_
  refine oaloadN X7 hx hby d27_32 rfl rfl ?_
  show gs T7 m 33 #[vr a1, vr tN_4] [(.ref tN_4), (.ref a1)]
  obtain ⟨T8, h8, X8, e8, W8, st8⟩ := putF X7 hx hZ hown (host := "") (Or.inl (own_w hw 33 rfl)) Via.refl rfl ((Fv.keep Kc4 nin0).keep Kc7 (ninS ne_a1_tN_4 nin0)) ((E_1.keep Kc4).keep Kc7) (Or.inl (own_w hw 34 rfl)) (own_w hw 15 rfl) (ty := (.array .byte)) (by decide) rfl rfl (g := (mkF m 33 #[vr a1, vr tN_4] [(.ref tN_4), (.ref a1)])) rfl rfl (hb hby d27_33)
  refine own_st st8 ?_
  have N8 := Fr.snoc X8 N7 g_1
  have K8 := K7.wr W8 (Or.inl (List.mem_of_getElem? (i := 0) rfl))
  have O8 := O7.wr W8 g_1
  have Fw8 := Fld.same W8 ((Fv.keep Kc4 nin0).keep Kc7 (ninS ne_a1_tN_4 nin0))
  show gs T8 m 36 #[vr a1, vr tN_4] []
  refine oaloadN X8 hx hby d27_36 rfl rfl ?_
  refine oiconst X8 hx hby d27_37 ?_
  show gs T8 m 38 #[vr a1, vr tN_4] [(.int 1), (.ref a1)]
  obtain ⟨T9, h9, X9, e9, W9, st9⟩ := putFN X8 hx hZ hown (own_w hw 35 rfl) Via.refl e8 (Fld.other W8 ((Fc.keep Kc4 nin0).keep Kc7 (ninS ne_a1_tN_4 nin0)) (Or.inr (slot_ne (Or.inl (own_w hw 36 rfl)) (Or.inl (own_w hw 34 rfl)) (by decide) (t := .byte) (t' := (.array .byte)) (by decide) (by decide)))) (Exa.wr W8 ((E_1.keep Kc4).keep Kc7)) (Or.inl (own_w hw 36 rfl)) (own_w hw 15 rfl) (ty := .byte) (v' := (.int 1)) (by decide) rfl (by decide) (g := (mkF m 38 #[vr a1, vr tN_4] [(.int 1), (.ref a1)])) rfl rfl (hb hby d27_38)
  refine own_st st9 ?_
  have N9 := Fr.snoc X9 N8 g_1
  have K9 := K8.wr W9 (Or.inl (List.mem_of_getElem? (i := 0) rfl))
  have O9 := O8.wr W9 g_1
  have Fw9 := Fld.same W9 (Fld.other W8 ((Fc.keep Kc4 nin0).keep Kc7 (ninS ne_a1_tN_4 nin0)) (Or.inr (slot_ne (Or.inl (own_w hw 36 rfl)) (Or.inl (own_w hw 34 rfl)) (by decide) (t := .byte) (t' := (.array .byte)) (by decide) (by decide))))
  show gs T9 m 41 #[vr a1, vr tN_4] []
  exact own_retV X9 hx hlk hret (hb hby d27_41) (by decide) (by decide) (by rw [e9]; exact ⟨tN_4, kN_4, ⟨rfl, N9, K9, sz_tN_4, (Exa.wr W9 (Exa.wr W8 (P4_1.keep Kc7))), (Exa.wr W9 (Exa.wr W8 ((E_1.keep Kc4).keep Kc7))), (Fld.other W9 Fw8 (Or.inr (slot_ne (Or.inl (own_w hw 34 rfl)) (Or.inl (own_w hw 36 rfl)) (by decide) (t := (.array .byte)) (t' := .byte) (by decide) (by decide)))), Fw9, (Fld.other W9 (Fld.other W8 ((Fn.keep Kc4 nin0).keep Kc7 (ninS ne_a1_tN_4 nin0)) (Or.inr (slot_ne (Or.inl (own_w hw 67 rfl)) (Or.inl (own_w hw 34 rfl)) (by decide) (t := .int) (t' := (.array .byte)) (by decide) (by decide)))) (Or.inr (slot_ne (Or.inl (own_w hw 67 rfl)) (Or.inl (own_w hw 36 rfl)) (by decide) (t := .int) (t' := .byte) (by decide) (by decide)))), (Fld.other W9 (Fld.other W8 ((Fm.keep Kc4 nin0).keep Kc7 (ninS ne_a1_tN_4 nin0)) (Or.inr (slot_ne (Or.inl (own_w hw 204 rfl)) (Or.inl (own_w hw 34 rfl)) (by decide) (t := .boolean) (t' := (.array .byte)) (by decide) (by decide)))) (Or.inr (slot_ne (Or.inl (own_w hw 204 rfl)) (Or.inl (own_w hw 36 rfl)) (by decide) (t := .boolean) (t' := .byte) (by decide) (by decide)))), ((P7_0.other W8 (Ne.symm ne_a1_tN_4)).other W9 (Ne.symm ne_a1_tN_4))⟩⟩)
theorem ef_nbl_2 (m : MethodId)  : entryFrame m #[(.int 2)] 1 = mkF m 0 #[.val (.int 2)] [] := by first | (simp [entryFrame, mkF, argsToLocals, Value.category]; done) | rfl
def Q_nbl_2 (Z : State)  (h0 : Heap) (n0 : Nat) (v : Option Value) (h : Heap) (L : List Loc) : Prop := v = some (.int 4) ∧ Fr n0 L ∧ h = h0
theorem rm_nbl_2 (l : Launch) (Z : State) (a0 : Array Value) (hw : HW a0 Z) (ws : List Jvm.Cond)  (h0 : Heap) (n0 : Nat) (Z0 : n0 ≤ h0.size)  :
    M10 l ws (rmk 0 0 0 0) Z #[(.int 2)] h0 (Q_nbl_2 Z  h0 n0) := by
  refine own_go "java/lang/StringUTF16" rfl (plainFor_of_name pn_29) (fun m => ef_nbl_2 m ) (fun p e s m below meth c s₁ hx hby hml hown hnm hlk hret hZ X0 e0 => ?_)
  have N0 := Fr.nil n0
  show gs s₁ m 0 #[vi 2] []
  refine oiloadN X0 hx hby d29_0 rfl ?_
  refine own_st (fun _ kS => XS.ifYes X0.here hx rfl (pc0 := 1) (pc' := 12) rfl (hb hby d29_1) rfl ((if0 _ _).trans (flt (by decide : ¬ ((2 : Int32) < (0 : Int32)))).2.1) (by decide) (by decide) kS) ?_
  show gs s₁ m 12 #[vi 2] []
  refine oiloadN X0 hx hby d29_12 rfl ?_
  show gs s₁ m 13 #[vi 2] [(.int 2)]
  refine own_st (fun _ kS => X0.ldcInt hx hown (mvT hZ (own_w hw 171 rfl)) (g := (mkF m 13 #[vi 2] [(.int 2)])) rfl (hb hby d29_13) _ kS) ?_
  show gs s₁ m 15 #[vi 2] [(.int 1073741823), (.int 2)]
  refine own_st (fun _ kS => XS.icmpYes X0.here hx rfl (pc0 := 15) (pc' := 55) rfl (hb hby d29_15) rfl (tlt (by decide : (2 : Int32) < (1073741823 : Int32))).1 (by decide) (by decide) kS) ?_
  show gs s₁ m 55 #[vi 2] []
  refine oiloadN X0 hx hby d29_55 rfl ?_
  refine oiconst X0 hx hby d29_56 ?_
  refine own_st (fun _ kS => XT.ishl X0.here hx rfl (hb hby d29_57) rfl kS) ?_
  show gs s₁ m 58 #[vi 2] [(.int 4)]
  exact own_retI X0 hx hlk hret (hb hby d29_58) (by decide) (by decide) (by rw [e0]; exact ⟨rfl, N0, rfl⟩)
theorem ef_nbf_2 (m : MethodId)  : entryFrame m #[(.int 2)] 1 = mkF m 0 #[.val (.int 2)] [] := by first | (simp [entryFrame, mkF, argsToLocals, Value.category]; done) | rfl
def Q_nbf_2 (Z : State)  (h0 : Heap) (n0 : Nat) (v : Option Value) (h : Heap) (L : List Loc) : Prop := ∃ tN : Addr, ∃ kN : ClassId, v = some (.ref tN) ∧ Fr n0 L ∧ Keep h0 h [] ∧ h0.size ≤ tN ∧ ek19 Z h tN ∧ Arv Z h tN kN .byte (4 : Int32) [(.int 0), (.int 0), (.int 0), (.int 0)] (.int 0)
theorem rm_nbf_2 (l : Launch) (Z : State) (a0 : Array Value) (hw : HW a0 Z) (ws : List Jvm.Cond)  (h0 : Heap) (n0 : Nat) (Z0 : n0 ≤ h0.size)  :
    M11 l ws (rmk 1 1 4 12) Z #[(.int 2)] h0 (Q_nbf_2 Z  h0 n0) := by
  refine own_go "java/lang/StringUTF16" rfl (plainFor_of_name pn_28) (fun m => ef_nbf_2 m ) (fun p e s m below meth c s₁ hx hby hml hown hnm hlk hret hZ X0 e0 => ?_)
  have N0 := Fr.nil n0
  have K0 := Keep.refl h0 []
  show gs s₁ m 0 #[vi 2] []
  refine oiloadN X0 hx hby d28_0 rfl ?_
  refine oS 0 X0 hx hZ hby hml hown (own_w hw 168 rfl) (own_w hw 169 rfl) (own_w hw 166 rfl) (own_w hw 170 rfl) (rm_nbl_2 l Z a0 hw []  h0 n0 Z0  ) e0 (by decide) own_pd6 d28_1 rfl rfl rfl (fun T1 L1 v1 X1 hQ1 => ?_)
  obtain ⟨rfl, Nq1, eq1⟩ := hQ1
  have N1 := Fr.app N0 Nq1
  show gs T1 m 4 #[vi 2] [(.int 4)]
  obtain ⟨T2, h2, k2, X2, e2, E2, A2, B2, st2⟩ := newPE X1 hx hZ (own_w hw 8 rfl) eq1 (g := (mkF m 4 #[vi 2] [(.int 4)])) rfl (hb hby d28_4) rfl (by decide) (cap := 4) (by decide) (by decide) (by decide) (by decide) (ad := "[B") rfl
  obtain ⟨b2, g2⟩ : ∃ z, z = h0.size := ⟨_, rfl⟩
  have ge_b2 : n0 ≤ b2 := Nat.le_trans Z0 (Nat.le_of_eq g2.symm)
  have sz_b2 : h0.size ≤ b2 := Nat.le_trans K0.1 (Nat.le_of_eq g2.symm)
  rw [← g2] at A2 B2 st2
  have K2 := K0.ext E2
  have R2 : Arv Z h2 b2 k2 .byte (4 : Int32) [(.int 0), (.int 0), (.int 0), (.int 0)] (.int 0) := (Arv.new A2 (by decide)).pad (pad_rep [] (.int 0) 4)
  refine own_st st2 ?_
  show gs T2 m 6 #[vi 2] [(.ref b2)]
  exact own_retA X2 hx hlk hret rfl rfl (hb hby d28_6) (by decide) (by decide) (by rw [e2]; exact ⟨b2, k2, ⟨rfl, N1, K2, sz_b2, B2, R2⟩⟩)
theorem ef_pfis_0_2 (m : MethodId) (x0 : Value) (hx0 : x0.isRef = true) : entryFrame m #[(.int 0), (.int 0), (.int 2), x0] 4 = mkF m 0 #[.val (.int 0), .val (.int 0), .val (.int 2), .val x0] [] := by
  rcases ref_cases hx0 with rfl | ⟨_, rfl⟩ <;> (first | (simp [entryFrame, mkF, argsToLocals, Value.category]; done) | rfl)
def Q_pfis_0_2 (Z : State) (fm : Value) (h0 : Heap) (n0 : Nat) (v : Option Value) (h : Heap) (L : List Loc) : Prop := v = some (.int 0) ∧ Fr n0 L ∧ h = h0
theorem rm_pfis_0_2 (l : Launch) (Z : State) (a0 : Array Value) (hw : HW a0 Z) (ws : List Jvm.Cond) (fm : Value) (h0 : Heap) (n0 : Nat) (Z0 : n0 ≤ h0.size) (P_SF : fm.isRef = true) :
    M12 l ws (rmk 0 0 0 0) Z #[(.int 0), (.int 0), (.int 2), fm] h0 (Q_pfis_0_2 Z fm h0 n0) := by
  refine own_go "jdk/internal/util/Preconditions" rfl (plainFor_of_name pn_35) (fun m => ef_pfis_0_2 m fm P_SF) (fun p e s m below meth c s₁ hx hby hml hown hnm hlk hret hZ X0 e0 => ?_)
  have N0 := Fr.nil n0
  show gs s₁ m 0 #[vi 0, vi 0, vi 2, .val fm] []
  refine oiloadN X0 hx hby d35_0 rfl ?_
  refine oiloadN X0 hx hby d35_1 rfl ?_
  refine own_st (fun _ kS => XT.ior X0.here hx rfl (hb hby d35_2) rfl kS) ?_
  refine oiloadN X0 hx hby d35_3 rfl ?_
  refine own_st (fun _ kS => XT.ior X0.here hx rfl (hb hby d35_4) rfl kS) ?_
  show gs s₁ m 5 #[vi 0, vi 0, vi 2, .val fm] [(.int 2)]
  refine own_st (fun _ kS => XS.ifNo X0.here hx rfl (hb hby d35_5) rfl ((if0 _ _).trans (flt (by decide : ¬ ((2 : Int32) < (0 : Int32)))).1) kS) ?_
  show gs s₁ m 8 #[vi 0, vi 0, vi 2, .val fm] []
  refine oiloadN X0 hx hby d35_8 rfl ?_
  refine oiloadN X0 hx hby d35_9 rfl ?_
  refine oiloadN X0 hx hby d35_10 rfl ?_
  refine own_st (fun _ kS => XS.isub X0.here hx rfl (hb hby d35_11) rfl kS) ?_
  show gs s₁ m 12 #[vi 0, vi 0, vi 2, .val fm] [(.int 2), (.int 0)]
  refine own_st (fun _ kS => XS.icmpYes X0.here hx rfl (pc0 := 12) (pc' := 23) rfl (hb hby d35_12) rfl (flt (by decide : ¬ ((2 : Int32) < (0 : Int32)))).2.2.2 (by decide) (by decide) kS) ?_
  show gs s₁ m 23 #[vi 0, vi 0, vi 2, .val fm] []
  refine oiloadN X0 hx hby d35_23 rfl ?_
  exact own_retI X0 hx hlk hret (hb hby d35_24) (by decide) (by decide) (by rw [e0]; exact ⟨rfl, N0, rfl⟩)
theorem ef_sboc_0_2 (m : MethodId)  : entryFrame m #[(.int 0), (.int 0), (.int 2)] 3 = mkF m 0 #[.val (.int 0), .val (.int 0), .val (.int 2)] [] := by first | (simp [entryFrame, mkF, argsToLocals, Value.category]; done) | rfl
def Q_sboc_0_2 (Z : State) (fm : Value) (h0 : Heap) (n0 : Nat) (v : Option Value) (h : Heap) (L : List Loc) : Prop := v = some (.int 0) ∧ Fr n0 L ∧ h = h0
theorem rm_sboc_0_2 (l : Launch) (Z : State) (a0 : Array Value) (hw : HW a0 Z) (ws : List Jvm.Cond) (fm : Value) (h0 : Heap) (n0 : Nat) (Z0 : n0 ≤ h0.size) (O0 : Old Z n0 h0) (S_SF : sk4 Z Z.heap fm) (P_SF : fm.isRef = true) :
    M13 l ws (rmk 1 0 0 15) Z #[(.int 0), (.int 0), (.int 2)] h0 (Q_sboc_0_2 Z fm h0 n0) := by
  refine own_go "java/lang/String" rfl (plainFor_of_name pn_34) (fun m => ef_sboc_0_2 m ) (fun p e s m below meth c s₁ hx hby hml hown hnm hlk hret hZ X0 e0 => ?_)
  have N0 := Fr.nil n0
  show gs s₁ m 0 #[vi 0, vi 0, vi 2] []
  refine oiloadN X0 hx hby d34_0 rfl ?_
  refine oiloadN X0 hx hby d34_1 rfl ?_
  refine oiloadN X0 hx hby d34_2 rfl ?_
  obtain ⟨T1, X1, e1, st1⟩ := getS2 X0 hx hZ hown (host := "") (Or.inl (own_w hw 148 rfl)) Via.refl e0 (Sta.ext O0.2 S_SF) (g := (mkF m 3 #[vi 0, vi 0, vi 2] [(.int 2), (.int 0), (.int 0)])) rfl (hb hby d34_3)
  refine own_st st1 ?_
  show gs T1 m 6 #[vi 0, vi 0, vi 2] [fm, (.int 2), (.int 0), (.int 0)]
  refine oS 0 X1 hx hZ hby hml hown (own_w hw 187 rfl) (own_w hw 188 rfl) (own_w hw 149 rfl) (own_w hw 189 rfl) (rm_pfis_0_2 l Z a0 hw [] fm h0 n0 Z0  P_SF) e1 (by decide) own_pd7 d34_6 rfl rfl rfl (fun T2 L2 v2 X2 hQ2 => ?_)
  obtain ⟨rfl, Nq2, eq2⟩ := hQ2
  have N2 := Fr.app N0 Nq2
  show gs T2 m 9 #[vi 0, vi 0, vi 2] [(.int 0)]
  exact own_retI X2 hx hlk hret (hb hby d34_9) (by decide) (by decide) (by rw [eq2]; exact ⟨rfl, N2, rfl⟩)
theorem ef_uboc_0_2 (m : MethodId) (x0 : Addr) : entryFrame m #[(.int 0), (.int 0), (.ref x0)] 3 = mkF m 0 #[.val (.int 0), .val (.int 0), .val (.ref x0)] [] := by first | (simp [entryFrame, mkF, argsToLocals, Value.category]; done) | rfl
def Q_uboc_0_2 (Z : State) (tA : Addr) (kA : ClassId) (y0 : Int32) (y1 : Int32) (y2 : Int32) (y3 : Int32) (fm : Value) (h0 : Heap) (n0 : Nat) (v : Option Value) (h : Heap) (L : List Loc) : Prop := v = none ∧ Fr n0 L ∧ h = h0
theorem rm_uboc_0_2 (l : Launch) (Z : State) (a0 : Array Value) (hw : HW a0 Z) (ws : List Jvm.Cond) (tA : Addr) (kA : ClassId) (y0 : Int32) (y1 : Int32) (y2 : Int32) (y3 : Int32) (fm : Value) (h0 : Heap) (n0 : Nat) (Z0 : n0 ≤ h0.size) (O0 : Old Z n0 h0) (R_A : Arv Z h0 tA kA .byte (4 : Int32) [(.int y0), (.int y1), (.int y2), (.int y3)] (.int 0)) (S_SF : sk4 Z Z.heap fm) (P_SF : fm.isRef = true) :
    M14 l ws (rmk 2 0 0 29) Z #[(.int 0), (.int 0), (.ref tA)] h0 (Q_uboc_0_2 Z tA kA y0 y1 y2 y3 fm h0 n0) := by
  refine own_go "java/lang/StringUTF16" rfl (plainFor_of_name pn_32) (fun m => ef_uboc_0_2 m tA) (fun p e s m below meth c s₁ hx hby hml hown hnm hlk hret hZ X0 e0 => ?_)
  have N0 := Fr.nil n0
  show gs s₁ m 0 #[vi 0, vi 0, vr tA] []
  refine oiloadN X0 hx hby d32_0 rfl ?_
  refine oiloadN X0 hx hby d32_1 rfl ?_
  refine oaloadN X0 hx hby d32_2 rfl rfl ?_
  refine oS 2 X0 hx hZ hby hml hown (own_w hw 181 rfl) (own_w hw 182 rfl) (own_w hw 166 rfl) (own_w hw 183 rfl) (rm_ulen_2 l Z a0 hw [] tA kA y0 y1 y2 y3 h0 n0 Z0  R_A) e0 (by decide) own_pd2 d32_3 rfl rfl rfl (fun T1 L1 v1 X1 hQ1 => ?_)
  obtain ⟨rfl, Nq1, eq1⟩ := hQ1
  have N1 := Fr.app N0 Nq1
  show gs T1 m 6 #[vi 0, vi 0, vr tA] [(.int 2), (.int 0), (.int 0)]
  refine oS 0 X1 hx hZ hby hml hown (own_w hw 184 rfl) (own_w hw 185 rfl) (own_w hw 32 rfl) (own_w hw 186 rfl) (rm_sboc_0_2 l Z a0 hw [] fm h0 n0 Z0 O0 S_SF P_SF) eq1 (by decide) own_pd8 d32_6 rfl rfl rfl (fun T2 L2 v2 X2 hQ2 => ?_)
  obtain ⟨rfl, Nq2, eq2⟩ := hQ2
  have N2 := Fr.app N1 Nq2
  show gs T2 m 9 #[vi 0, vi 0, vr tA] [(.int 0)]
  refine own_st (fun _ kS => XT.pop X2.here hx rfl (hb hby d32_9) rfl rfl kS) ?_
  show gs T2 m 10 #[vi 0, vi 0, vr tA] []
  exact own_retV X2 hx hlk hret (hb hby d32_10) (by decide) (by decide) (by rw [eq2]; exact ⟨rfl, N2, rfl⟩)
theorem ef_uinf_0_2 (m : MethodId) (x0 : Addr) (x1 : Addr) : entryFrame m #[(.ref x0), (.int 0), (.ref x1), (.int 0), (.int 0)] 6 = mkF m 0 #[.val (.ref x0), .val (.int 0), .val (.ref x1), .val (.int 0), .val (.int 0), .unset] [] := by first | (simp [entryFrame, mkF, argsToLocals, Value.category]; done) | rfl
def Q_uinf_0_2 (Z : State) (tA : Addr) (kA : ClassId) (tB : Addr) (kB : ClassId) (y0 : Int32) (y1 : Int32) (z0 : Int32) (z1 : Int32) (z2 : Int32) (z3 : Int32) (fm : Value) (h0 : Heap) (n0 : Nat) (v : Option Value) (h : Heap) (L : List Loc) : Prop := v = none ∧ Fr n0 L ∧ Keep h0 h [tA] ∧ Arv Z h tA kA .byte (4 : Int32) [(.int z0), (.int z1), (.int z2), (.int z3)] (.int 0)
theorem rm_uinf_0_2 (l : Launch) (Z : State) (a0 : Array Value) (hw : HW a0 Z) (ws : List Jvm.Cond) (tA : Addr) (kA : ClassId) (tB : Addr) (kB : ClassId) (y0 : Int32) (y1 : Int32) (z0 : Int32) (z1 : Int32) (z2 : Int32) (z3 : Int32) (fm : Value) (h0 : Heap) (n0 : Nat) (Z0 : n0 ≤ h0.size) (O0 : Old Z n0 h0) (R_B : Arv Z h0 tB kB .byte (2 : Int32) [(.int y0), (.int y1)] (.int 0)) (R_A : Arv Z h0 tA kA .byte (4 : Int32) [(.int z0), (.int z1), (.int z2), (.int z3)] (.int 0)) (g_A : n0 ≤ tA) (neBA : tB ≠ tA) (S_AD : sk1 Z Z.heap (.int 1)) (S_HI : sk2 Z Z.heap (.int 0)) (S_LO : sk3 Z Z.heap (.int 8)) (S_SF : sk4 Z Z.heap fm) (P_SF : fm.isRef = true) :
    M15 l ws (rmk 3 0 0 43) Z #[(.ref tB), (.int 0), (.ref tA), (.int 0), (.int 0)] h0 (Q_uinf_0_2 Z tA kA tB kB y0 y1 z0 z1 z2 z3 fm h0 n0) := by
  refine own_go "java/lang/StringUTF16" rfl (plainFor_of_name pn_31) (fun m => ef_uinf_0_2 m tB tA) (fun p e s m below meth c s₁ hx hby hml hown hnm hlk hret hZ X0 e0 => ?_)
  have N0 := Fr.nil n0
  have K0 := Keep.refl h0 [tA]
  show gs s₁ m 0 #[vr tB, vi 0, vr tA, vi 0, vi 0, .unset] []
  refine oiloadN X0 hx hby d31_0 rfl ?_
  refine oiload X0 hx hby d31_1 rfl ?_
  refine oaloadN X0 hx hby d31_3 rfl rfl ?_
  refine oS 0 X0 hx hZ hby hml hown (own_w hw 178 rfl) (own_w hw 179 rfl) (own_w hw 166 rfl) (own_w hw 180 rfl) (rm_uboc_0_2 l Z a0 hw [] tA kA z0 z1 z2 z3 fm h0 n0 Z0 O0 R_A S_SF P_SF) e0 (by decide) own_pd9 d31_4 rfl rfl rfl (fun T1 L1 v1 X1 hQ1 => ?_)
  obtain ⟨rfl, Nq1, eq1⟩ := hQ1
  have N1 := Fr.app N0 Nq1
  show gs T1 m 7 #[vr tB, vi 0, vr tA, vi 0, vi 0, .unset] []
  refine oiconst X1 hx hby d31_7 ?_
  refine own_st (fun _ kS => XS.istore X1.here hx rfl (hb hby d31_8) rfl (l' := #[vr tB, vi 0, vr tA, vi 0, vi 0, vi 0]) rfl kS) ?_
  refine oiload X1 hx hby d31_10 rfl ?_
  refine oiload X1 hx hby d31_12 rfl ?_
  refine own_st (fun _ kS => XS.icmpYes X1.here hx rfl (pc0 := 14) (pc' := 41) rfl (hb hby d31_14) rfl (flt (by decide : ¬ ((0 : Int32) < (0 : Int32)))).2.1 (by decide) (by decide) kS) ?_
  show gs T1 m 41 #[vr tB, vi 0, vr tA, vi 0, vi 0, vi 0] []
  exact own_retV X1 hx hlk hret (hb hby d31_41) (by decide) (by decide) (by rw [eq1]; exact ⟨rfl, N1, K0, R_A⟩)
theorem ef_linf_0_2 (m : MethodId) (x0 : Addr) (x1 : Addr) : entryFrame m #[(.ref x0), (.int 0), (.ref x1), (.int 0), (.int 0)] 5 = mkF m 0 #[.val (.ref x0), .val (.int 0), .val (.ref x1), .val (.int 0), .val (.int 0)] [] := by first | (simp [entryFrame, mkF, argsToLocals, Value.category]; done) | rfl
def Q_linf_0_2 (Z : State) (tA : Addr) (kA : ClassId) (tB : Addr) (kB : ClassId) (y0 : Int32) (y1 : Int32) (z0 : Int32) (z1 : Int32) (z2 : Int32) (z3 : Int32) (fm : Value) (h0 : Heap) (n0 : Nat) (v : Option Value) (h : Heap) (L : List Loc) : Prop := v = none ∧ Fr n0 L ∧ Keep h0 h [tA] ∧ Arv Z h tA kA .byte (4 : Int32) [(.int z0), (.int z1), (.int z2), (.int z3)] (.int 0)
theorem rm_linf_0_2 (l : Launch) (Z : State) (a0 : Array Value) (hw : HW a0 Z) (ws : List Jvm.Cond) (tA : Addr) (kA : ClassId) (tB : Addr) (kB : ClassId) (y0 : Int32) (y1 : Int32) (z0 : Int32) (z1 : Int32) (z2 : Int32) (z3 : Int32) (fm : Value) (h0 : Heap) (n0 : Nat) (Z0 : n0 ≤ h0.size) (O0 : Old Z n0 h0) (R_B : Arv Z h0 tB kB .byte (2 : Int32) [(.int y0), (.int y1)] (.int 0)) (R_A : Arv Z h0 tA kA .byte (4 : Int32) [(.int z0), (.int z1), (.int z2), (.int z3)] (.int 0)) (g_A : n0 ≤ tA) (neBA : tB ≠ tA) (S_AD : sk1 Z Z.heap (.int 1)) (S_HI : sk2 Z Z.heap (.int 0)) (S_LO : sk3 Z Z.heap (.int 8)) (S_SF : sk4 Z Z.heap fm) (P_SF : fm.isRef = true) :
    M16 l ws (rmk 4 0 0 60) Z #[(.ref tB), (.int 0), (.ref tA), (.int 0), (.int 0)] h0 (Q_linf_0_2 Z tA kA tB kB y0 y1 z0 z1 z2 z3 fm h0 n0) := by
  refine own_go "java/lang/StringLatin1" rfl (plainFor_of_name pn_30) (fun m => ef_linf_0_2 m tB tA) (fun p e s m below meth c s₁ hx hby hml hown hnm hlk hret hZ X0 e0 => ?_)
  have N0 := Fr.nil n0
  have K0 := Keep.refl h0 [tA]
  show gs s₁ m 0 #[vr tB, vi 0, vr tA, vi 0, vi 0] []
  refine oaloadN X0 hx hby d30_0 rfl rfl ?_
  refine oiloadN X0 hx hby d30_1 rfl ?_
  refine oaloadN X0 hx hby d30_2 rfl rfl ?_
  refine oiloadN X0 hx hby d30_3 rfl ?_
  refine oiload X0 hx hby d30_4 rfl ?_
  refine oS 0 X0 hx hZ hby hml hown (own_w hw 175 rfl) (own_w hw 176 rfl) (own_w hw 166 rfl) (own_w hw 177 rfl) (rm_uinf_0_2 l Z a0 hw [] tA kA tB kB y0 y1 z0 z1 z2 z3 fm h0 n0 Z0 O0 R_B R_A g_A neBA S_AD S_HI S_LO S_SF P_SF) e0 (by decide) own_pd10 d30_6 rfl rfl rfl (fun T1 L1 v1 X1 hQ1 => ?_)
  obtain ⟨rfl, Nq1, Kc1, P1_0⟩ := hQ1
  have N1 := Fr.app N0 Nq1
  have K1 := K0.trans Kc1 (allS (Or.inl (List.mem_of_getElem? (i := 0) rfl)) all0)
  have O1 := O0.keep Kc1 (allS g_A all0)
  show gs T1 m 9 #[vr tB, vi 0, vr tA, vi 0, vi 0] []
  exact own_retV X1 hx hlk hret (hb hby d30_9) (by decide) (by decide) (show Q_linf_0_2 Z tA kA tB kB y0 y1 z0 z1 z2 z3 fm h0 n0 _ _ _ from ⟨rfl, N1, K1, P1_0⟩)
theorem ef_infl_2_0 (m : MethodId) (x0 : Addr) : entryFrame m #[(.ref x0)] 2 = mkF m 0 #[.val (.ref x0), .unset] [] := by first | (simp [entryFrame, mkF, argsToLocals, Value.category]; done) | rfl
def Q_infl_2_0 (Z : State) (a1 : Addr) (tA : Addr) (kA : ClassId) (y0 : Int32) (y1 : Int32) (zCS : Int32) (fm : Value) (h0 : Heap) (n0 : Nat) (v : Option Value) (h : Heap) (L : List Loc) : Prop := ∃ tN : Addr, ∃ kN : ClassId, v = none ∧ Fr n0 L ∧ Keep h0 h [a1] ∧ h0.size ≤ tN ∧ ek19 Z h tN ∧ ek20 Z h a1 ∧ fk11 Z h a1 (.ref tN) ∧ fk12 Z h a1 (.int 1) ∧ fk13 Z h a1 (.int 0) ∧ fk14 Z h a1 (.int 0) ∧ Arv Z h tN kN .byte (4 : Int32) [(.int 0), (.int 0), (.int 0), (.int 0)] (.int 0)
theorem rm_infl_2_0 (l : Launch) (Z : State) (a0 : Array Value) (hw : HW a0 Z) (ws : List Jvm.Cond) (a1 : Addr) (tA : Addr) (kA : ClassId) (y0 : Int32) (y1 : Int32) (zCS : Int32) (fm : Value) (h0 : Heap) (n0 : Nat) (Z0 : n0 ≤ h0.size) (O0 : Old Z n0 h0) (E_1 : ek20 Z h0 a1) (g_1 : n0 ≤ a1) (Fv : fk11 Z h0 a1 (.ref tA)) (Fc : fk12 Z h0 a1 (.int 0)) (Fn : fk13 Z h0 a1 (.int 0)) (Fm : fk14 Z h0 a1 (.int 0)) (ne1A : a1 ≠ tA) (R_A : Arv Z h0 tA kA .byte (2 : Int32) [(.int y0), (.int y1)] (.int 0)) (S_CS : sk0 Z Z.heap (.int zCS)) (P_CS : ¬ zCS = 0) (S_SF : sk4 Z Z.heap fm) (P_SF : fm.isRef = true) (S_AD : sk1 Z Z.heap (.int 1)) (S_HI : sk2 Z Z.heap (.int 0)) (S_LO : sk3 Z Z.heap (.int 8)) :
    M17 l ws (rmk 5 1 4 76) Z #[(.ref a1)] h0 (Q_infl_2_0 Z a1 tA kA y0 y1 zCS fm h0 n0) := by
  refine own_go "java/lang/AbstractStringBuilder" rfl (plainFor_of_name pn_27) (fun m => ef_infl_2_0 m a1) (fun p e s m below meth c s₁ hx hby hml hown hnm hlk hret hZ X0 e0 => ?_)
  have N0 := Fr.nil n0
  have K0 := Keep.refl h0 [a1]
  show gs s₁ m 0 #[vr a1, .unset] []
  refine oaloadN X0 hx hby d27_0 rfl rfl ?_
  refine oV 0 X0 hx hZ hby hml hown (own_w hw 127 rfl) (own_w hw 69 rfl) (own_w hw 71 rfl) (own_w hw 70 rfl) (rm_asbLat0 l Z a0 hw [] a1 zCS h0 n0 Z0 O0 S_CS P_CS Fc) (own_w hw 72 rfl) (own_w hw 26 rfl) e0 E_1 (by decide) own_pd11 d27_1 rfl rfl rfl (fun T1 L1 v1 X1 hQ1 => ?_)
  obtain ⟨rfl, Nq1, eq1⟩ := hQ1
  have N1 := Fr.app N0 Nq1
  show gs T1 m 4 #[vr a1, .unset] [(.int 1)]
  refine own_st (fun _ kS => XS.ifYes X1.here hx rfl (pc0 := 4) (pc' := 8) rfl (hb hby d27_4) rfl ((if0 _ _).trans (feq (by decide : ¬ ((1 : Int32) = (0 : Int32)))).2) (by decide) (by decide) kS) ?_
  show gs T1 m 8 #[vr a1, .unset] []
  refine oaloadN X1 hx hby d27_8 rfl rfl ?_
  obtain ⟨T2, X2, e2, st2⟩ := getF X1 hx hZ hown (host := "") (Or.inl (own_w hw 33 rfl)) Via.refl eq1 Fv (g := (mkF m 9 #[vr a1, .unset] [(.ref a1)])) rfl rfl (hb hby d27_9)
  refine own_st st2 ?_
  show gs T2 m 12 #[vr a1, .unset] [(.ref tA)]
  obtain ⟨cl3, Ar3, qa3, qs3, qn3, qh3, qg3⟩ := id R_A
  refine own_st (fun _ kS => X2.arraylength hx (by rw [e2]; exact Ar3.1) (State.isArrayOf_alike hZ.alike Ar3.2.1) (g := (mkF m 12 #[vr a1, .unset] [(.ref tA)])) rfl rfl (hb hby d27_12) _ kS) ?_
  rw [len_of qs3 qn3]
  show gs T2 m 13 #[vr a1, .unset] [(.int 2)]
  refine oS 0 X2 hx hZ hby hml hown (own_w hw 164 rfl) (own_w hw 165 rfl) (own_w hw 166 rfl) (own_w hw 167 rfl) (rm_nbf_2 l Z a0 hw []  h0 n0 Z0  ) e2 (by decide) own_pd12 d27_13 rfl rfl rfl (fun T4 L4 v4 X4 hQ4 => ?_)
  obtain ⟨tN_4, kN_4, rfl, Nq4, Kc4, P4_0, P4_1, P4_2⟩ := hQ4
  have N4 := Fr.app N1 Nq4
  have ne_a1_tN_4 : a1 ≠ tN_4 := Nat.ne_of_lt (Nat.lt_of_lt_of_le E_1.lt P4_0)
  have ne_tA_tN_4 : tA ≠ tN_4 := Nat.ne_of_lt (Nat.lt_of_lt_of_le R_A.lt P4_0)
  have ge_tN_4 : n0 ≤ tN_4 := Nat.le_trans Z0 P4_0
  have sz_tN_4 : h0.size ≤ tN_4 := Nat.le_trans K0.1 P4_0
  have K4 := K0.trans Kc4 all0
  have O4 := O0.keep Kc4 all0
  show gs T4 m 16 #[vr a1, .unset] [(.ref tN_4)]
  refine own_st (fun _ kS => XS.astoreN X4.here hx rfl (hb hby d27_16) rfl rfl (l' := #[vr a1, vr tN_4]) rfl kS) ?_
  refine oaloadN X4 hx hby d27_17 rfl rfl ?_
  obtain ⟨T5, X5, e5, st5⟩ := getF X4 hx hZ hown (host := "") (Or.inl (own_w hw 33 rfl)) Via.refl rfl (Fv.keep Kc4 nin0) (g := (mkF m 18 #[vr a1, vr tN_4] [(.ref a1)])) rfl rfl (hb hby d27_18)
  refine own_st st5 ?_
  show gs T5 m 21 #[vr a1, vr tN_4] [(.ref tA)]
  refine oiconst X5 hx hby d27_21 ?_
  refine oaloadN X5 hx hby d27_22 rfl rfl ?_
  refine oiconst X5 hx hby d27_23 ?_
  refine oaloadN X5 hx hby d27_24 rfl rfl ?_
  obtain ⟨T6, X6, e6, st6⟩ := getF X5 hx hZ hown (host := "") (Or.inl (own_w hw 66 rfl)) Via.refl e5 (Fn.keep Kc4 nin0) (g := (mkF m 25 #[vr a1, vr tN_4] [(.ref a1), (.int 0), (.ref tN_4), (.int 0), (.ref tA)])) rfl rfl (hb hby d27_25)
  refine own_st st6 ?_
  show gs T6 m 28 #[vr a1, vr tN_4] [(.int 0), (.int 0), (.ref tN_4), (.int 0), (.ref tA)]
  refine oS 0 X6 hx hZ hby hml hown (own_w hw 172 rfl) (own_w hw 173 rfl) (own_w hw 130 rfl) (own_w hw 174 rfl) (rm_linf_0_2 l Z a0 hw [] tN_4 kN_4 tA kA y0 y1 (0 : Int32) (0 : Int32) (0 : Int32) (0 : Int32) fm T4.heap n0 (Nat.le_trans Z0 Kc4.1) O4 (R_A.keep Kc4 nin0) P4_2 ge_tN_4 ne_tA_tN_4 S_AD S_HI S_LO S_SF P_SF) e6 (by decide) own_pd10 d27_28 rfl rfl rfl (fun T7 L7 v7 X7 hQ7 => ?_)
  obtain ⟨rfl, Nq7, Kc7, P7_0⟩ := hQ7
  have N7 := Fr.app N4 Nq7
  have K7 := K4.trans Kc7 (allS (Or.inr sz_tN_4) all0)
  have O7 := O4.keep Kc7 (allS ge_tN_4 all0)
  show gs T7 m 31 #[vr a1, vr tN_4] []
  refine oaloadN X7 hx hby d27_31 rfl rfl ?_
  refine oaloadN X7 hx hby d27_32 rfl rfl ?_
  show gs T7 m 33 #[vr a1, vr tN_4] [(.ref tN_4), (.ref a1)]
  obtain ⟨T8, h8, X8, e8, W8, st8⟩ := putF X7 hx hZ hown (host := "") (Or.inl (own_w hw 33 rfl)) Via.refl rfl ((Fv.keep Kc4 nin0).keep Kc7 (ninS ne_a1_tN_4 nin0)) ((E_1.keep Kc4).keep Kc7) (Or.inl (own_w hw 34 rfl)) (own_w hw 15 rfl) (ty := (.array .byte)) (by decide) rfl rfl (g := (mkF m 33 #[vr a1, vr tN_4] [(.ref tN_4), (.ref a1)])) rfl rfl (hb hby d27_33)
  refine own_st st8 ?_
  have N8 := Fr.snoc X8 N7 g_1
  have K8 := K7.wr W8 (Or.inl (List.mem_of_getElem? (i := 0) rfl))
  have O8 := O7.wr W8 g_1
  have Fw8 := Fld.same W8 ((Fv.keep Kc4 nin0).keep Kc7 (ninS ne_a1_tN_4 nin0))
  show gs T8 m 36 #[vr a1, vr tN_4] []
  refine oaloadN X8 hx hby d27_36 rfl rfl ?_
  refine oiconst X8 hx hby d27_37 ?_
  show gs T8 m 38 #[vr a1, vr tN_4] [(.int 1), (.ref a1)]
  obtain ⟨T9, h9, X9, e9, W9, st9⟩ := putFN X8 hx hZ hown (own_w hw 35 rfl) Via.refl e8 (Fld.other W8 ((Fc.keep Kc4 nin0).keep Kc7 (ninS ne_a1_tN_4 nin0)) (Or.inr (slot_ne (Or.inl (own_w hw 36 rfl)) (Or.inl (own_w hw 34 rfl)) (by decide) (t := .byte) (t' := (.array .byte)) (by decide) (by decide)))) (Exa.wr W8 ((E_1.keep Kc4).keep Kc7)) (Or.inl (own_w hw 36 rfl)) (own_w hw 15 rfl) (ty := .byte) (v' := (.int 1)) (by decide) rfl (by decide) (g := (mkF m 38 #[vr a1, vr tN_4] [(.int 1), (.ref a1)])) rfl rfl (hb hby d27_38)
  refine own_st st9 ?_
  have N9 := Fr.snoc X9 N8 g_1
  have K9 := K8.wr W9 (Or.inl (List.mem_of_getElem? (i := 0) rfl))
  have O9 := O8.wr W9 g_1
  have Fw9 := Fld.same W9 (Fld.other W8 ((Fc.keep Kc4 nin0).keep Kc7 (ninS ne_a1_tN_4 nin0)) (Or.inr (slot_ne (Or.inl (own_w hw 36 rfl)) (Or.inl (own_w hw 34 rfl)) (by decide) (t := .byte) (t' := (.array .byte)) (by decide) (by decide))))
  show gs T9 m 41 #[vr a1, vr tN_4] []
  exact own_retV X9 hx hlk hret (hb hby d27_41) (by decide) (by decide) (by rw [e9]; exact ⟨tN_4, kN_4, ⟨rfl, N9, K9, sz_tN_4, (Exa.wr W9 (Exa.wr W8 (P4_1.keep Kc7))), (Exa.wr W9 (Exa.wr W8 ((E_1.keep Kc4).keep Kc7))), (Fld.other W9 Fw8 (Or.inr (slot_ne (Or.inl (own_w hw 34 rfl)) (Or.inl (own_w hw 36 rfl)) (by decide) (t := (.array .byte)) (t' := .byte) (by decide) (by decide)))), Fw9, (Fld.other W9 (Fld.other W8 ((Fn.keep Kc4 nin0).keep Kc7 (ninS ne_a1_tN_4 nin0)) (Or.inr (slot_ne (Or.inl (own_w hw 67 rfl)) (Or.inl (own_w hw 34 rfl)) (by decide) (t := .int) (t' := (.array .byte)) (by decide) (by decide)))) (Or.inr (slot_ne (Or.inl (own_w hw 67 rfl)) (Or.inl (own_w hw 36 rfl)) (by decide) (t := .int) (t' := .byte) (by decide) (by decide)))), (Fld.other W9 (Fld.other W8 ((Fm.keep Kc4 nin0).keep Kc7 (ninS ne_a1_tN_4 nin0)) (Or.inr (slot_ne (Or.inl (own_w hw 204 rfl)) (Or.inl (own_w hw 34 rfl)) (by decide) (t := .boolean) (t' := (.array .byte)) (by decide) (by decide)))) (Or.inr (slot_ne (Or.inl (own_w hw 204 rfl)) (Or.inl (own_w hw 36 rfl)) (by decide) (t := .boolean) (t' := .byte) (by decide) (by decide)))), ((P7_0.other W8 (Ne.symm ne_a1_tN_4)).other W9 (Ne.symm ne_a1_tN_4))⟩⟩)
theorem ef_pfis_1_2 (m : MethodId) (x0 : Value) (hx0 : x0.isRef = true) : entryFrame m #[(.int 0), (.int 1), (.int 2), x0] 4 = mkF m 0 #[.val (.int 0), .val (.int 1), .val (.int 2), .val x0] [] := by
  rcases ref_cases hx0 with rfl | ⟨_, rfl⟩ <;> (first | (simp [entryFrame, mkF, argsToLocals, Value.category]; done) | rfl)
def Q_pfis_1_2 (Z : State) (fm : Value) (h0 : Heap) (n0 : Nat) (v : Option Value) (h : Heap) (L : List Loc) : Prop := v = some (.int 0) ∧ Fr n0 L ∧ h = h0
theorem rm_pfis_1_2 (l : Launch) (Z : State) (a0 : Array Value) (hw : HW a0 Z) (ws : List Jvm.Cond) (fm : Value) (h0 : Heap) (n0 : Nat) (Z0 : n0 ≤ h0.size) (P_SF : fm.isRef = true) :
    M12 l ws (rmk 0 0 0 0) Z #[(.int 0), (.int 1), (.int 2), fm] h0 (Q_pfis_1_2 Z fm h0 n0) := by
  refine own_go "jdk/internal/util/Preconditions" rfl (plainFor_of_name pn_35) (fun m => ef_pfis_1_2 m fm P_SF) (fun p e s m below meth c s₁ hx hby hml hown hnm hlk hret hZ X0 e0 => ?_)
  have N0 := Fr.nil n0
  show gs s₁ m 0 #[vi 0, vi 1, vi 2, .val fm] []
  refine oiloadN X0 hx hby d35_0 rfl ?_
  refine oiloadN X0 hx hby d35_1 rfl ?_
  refine own_st (fun _ kS => XT.ior X0.here hx rfl (hb hby d35_2) rfl kS) ?_
  refine oiloadN X0 hx hby d35_3 rfl ?_
  refine own_st (fun _ kS => XT.ior X0.here hx rfl (hb hby d35_4) rfl kS) ?_
  show gs s₁ m 5 #[vi 0, vi 1, vi 2, .val fm] [(.int 3)]
  refine own_st (fun _ kS => XS.ifNo X0.here hx rfl (hb hby d35_5) rfl ((if0 _ _).trans (flt (by decide : ¬ ((3 : Int32) < (0 : Int32)))).1) kS) ?_
  show gs s₁ m 8 #[vi 0, vi 1, vi 2, .val fm] []
  refine oiloadN X0 hx hby d35_8 rfl ?_
  refine oiloadN X0 hx hby d35_9 rfl ?_
  refine oiloadN X0 hx hby d35_10 rfl ?_
  refine own_st (fun _ kS => XS.isub X0.here hx rfl (hb hby d35_11) rfl kS) ?_
  show gs s₁ m 12 #[vi 0, vi 1, vi 2, .val fm] [(.int 2), (.int 1)]
  refine own_st (fun _ kS => XS.icmpYes X0.here hx rfl (pc0 := 12) (pc' := 23) rfl (hb hby d35_12) rfl (flt (by decide : ¬ ((2 : Int32) < (1 : Int32)))).2.2.2 (by decide) (by decide) kS) ?_
  show gs s₁ m 23 #[vi 0, vi 1, vi 2, .val fm] []
  refine oiloadN X0 hx hby d35_23 rfl ?_
  exact own_retI X0 hx hlk hret (hb hby d35_24) (by decide) (by decide) (by rw [e0]; exact ⟨rfl, N0, rfl⟩)
theorem ef_sboc_1_2 (m : MethodId)  : entryFrame m #[(.int 0), (.int 1), (.int 2)] 3 = mkF m 0 #[.val (.int 0), .val (.int 1), .val (.int 2)] [] := by first | (simp [entryFrame, mkF, argsToLocals, Value.category]; done) | rfl
def Q_sboc_1_2 (Z : State) (fm : Value) (h0 : Heap) (n0 : Nat) (v : Option Value) (h : Heap) (L : List Loc) : Prop := v = some (.int 0) ∧ Fr n0 L ∧ h = h0
theorem rm_sboc_1_2 (l : Launch) (Z : State) (a0 : Array Value) (hw : HW a0 Z) (ws : List Jvm.Cond) (fm : Value) (h0 : Heap) (n0 : Nat) (Z0 : n0 ≤ h0.size) (O0 : Old Z n0 h0) (S_SF : sk4 Z Z.heap fm) (P_SF : fm.isRef = true) :
    M13 l ws (rmk 1 0 0 15) Z #[(.int 0), (.int 1), (.int 2)] h0 (Q_sboc_1_2 Z fm h0 n0) := by
  refine own_go "java/lang/String" rfl (plainFor_of_name pn_34) (fun m => ef_sboc_1_2 m ) (fun p e s m below meth c s₁ hx hby hml hown hnm hlk hret hZ X0 e0 => ?_)
  have N0 := Fr.nil n0
  show gs s₁ m 0 #[vi 0, vi 1, vi 2] []
  refine oiloadN X0 hx hby d34_0 rfl ?_
  refine oiloadN X0 hx hby d34_1 rfl ?_
  refine oiloadN X0 hx hby d34_2 rfl ?_
  obtain ⟨T1, X1, e1, st1⟩ := getS2 X0 hx hZ hown (host := "") (Or.inl (own_w hw 148 rfl)) Via.refl e0 (Sta.ext O0.2 S_SF) (g := (mkF m 3 #[vi 0, vi 1, vi 2] [(.int 2), (.int 1), (.int 0)])) rfl (hb hby d34_3)
  refine own_st st1 ?_
  show gs T1 m 6 #[vi 0, vi 1, vi 2] [fm, (.int 2), (.int 1), (.int 0)]
  refine oS 0 X1 hx hZ hby hml hown (own_w hw 187 rfl) (own_w hw 188 rfl) (own_w hw 149 rfl) (own_w hw 189 rfl) (rm_pfis_1_2 l Z a0 hw [] fm h0 n0 Z0  P_SF) e1 (by decide) own_pd7 d34_6 rfl rfl rfl (fun T2 L2 v2 X2 hQ2 => ?_)
  obtain ⟨rfl, Nq2, eq2⟩ := hQ2
  have N2 := Fr.app N0 Nq2
  show gs T2 m 9 #[vi 0, vi 1, vi 2] [(.int 0)]
  exact own_retI X2 hx hlk hret (hb hby d34_9) (by decide) (by decide) (by rw [eq2]; exact ⟨rfl, N2, rfl⟩)
theorem ef_uboc_1_2 (m : MethodId) (x0 : Addr) : entryFrame m #[(.int 0), (.int 1), (.ref x0)] 3 = mkF m 0 #[.val (.int 0), .val (.int 1), .val (.ref x0)] [] := by first | (simp [entryFrame, mkF, argsToLocals, Value.category]; done) | rfl
def Q_uboc_1_2 (Z : State) (tA : Addr) (kA : ClassId) (y0 : Int32) (y1 : Int32) (y2 : Int32) (y3 : Int32) (fm : Value) (h0 : Heap) (n0 : Nat) (v : Option Value) (h : Heap) (L : List Loc) : Prop := v = none ∧ Fr n0 L ∧ h = h0
theorem rm_uboc_1_2 (l : Launch) (Z : State) (a0 : Array Value) (hw : HW a0 Z) (ws : List Jvm.Cond) (tA : Addr) (kA : ClassId) (y0 : Int32) (y1 : Int32) (y2 : Int32) (y3 : Int32) (fm : Value) (h0 : Heap) (n0 : Nat) (Z0 : n0 ≤ h0.size) (O0 : Old Z n0 h0) (R_A : Arv Z h0 tA kA .byte (4 : Int32) [(.int y0), (.int y1), (.int y2), (.int y3)] (.int 0)) (S_SF : sk4 Z Z.heap fm) (P_SF : fm.isRef = true) :
    M14 l ws (rmk 2 0 0 29) Z #[(.int 0), (.int 1), (.ref tA)] h0 (Q_uboc_1_2 Z tA kA y0 y1 y2 y3 fm h0 n0) := by
  refine own_go "java/lang/StringUTF16" rfl (plainFor_of_name pn_32) (fun m => ef_uboc_1_2 m tA) (fun p e s m below meth c s₁ hx hby hml hown hnm hlk hret hZ X0 e0 => ?_)
  have N0 := Fr.nil n0
  show gs s₁ m 0 #[vi 0, vi 1, vr tA] []
  refine oiloadN X0 hx hby d32_0 rfl ?_
  refine oiloadN X0 hx hby d32_1 rfl ?_
  refine oaloadN X0 hx hby d32_2 rfl rfl ?_
  refine oS 2 X0 hx hZ hby hml hown (own_w hw 181 rfl) (own_w hw 182 rfl) (own_w hw 166 rfl) (own_w hw 183 rfl) (rm_ulen_2 l Z a0 hw [] tA kA y0 y1 y2 y3 h0 n0 Z0  R_A) e0 (by decide) own_pd2 d32_3 rfl rfl rfl (fun T1 L1 v1 X1 hQ1 => ?_)
  obtain ⟨rfl, Nq1, eq1⟩ := hQ1
  have N1 := Fr.app N0 Nq1
  show gs T1 m 6 #[vi 0, vi 1, vr tA] [(.int 2), (.int 1), (.int 0)]
  refine oS 0 X1 hx hZ hby hml hown (own_w hw 184 rfl) (own_w hw 185 rfl) (own_w hw 32 rfl) (own_w hw 186 rfl) (rm_sboc_1_2 l Z a0 hw [] fm h0 n0 Z0 O0 S_SF P_SF) eq1 (by decide) own_pd8 d32_6 rfl rfl rfl (fun T2 L2 v2 X2 hQ2 => ?_)
  obtain ⟨rfl, Nq2, eq2⟩ := hQ2
  have N2 := Fr.app N1 Nq2
  show gs T2 m 9 #[vi 0, vi 1, vr tA] [(.int 0)]
  refine own_st (fun _ kS => XT.pop X2.here hx rfl (hb hby d32_9) rfl rfl kS) ?_
  show gs T2 m 10 #[vi 0, vi 1, vr tA] []
  exact own_retV X2 hx hlk hret (hb hby d32_10) (by decide) (by decide) (by rw [eq2]; exact ⟨rfl, N2, rfl⟩)
theorem ef_uinf_1_2 (m : MethodId) (x0 : Addr) (x1 : Addr) : entryFrame m #[(.ref x0), (.int 0), (.ref x1), (.int 0), (.int 1)] 6 = mkF m 0 #[.val (.ref x0), .val (.int 0), .val (.ref x1), .val (.int 0), .val (.int 1), .unset] [] := by first | (simp [entryFrame, mkF, argsToLocals, Value.category]; done) | rfl
def Q_uinf_1_2 (Z : State) (tA : Addr) (kA : ClassId) (tB : Addr) (kB : ClassId) (y0 : Int32) (y1 : Int32) (z0 : Int32) (z1 : Int32) (z2 : Int32) (z3 : Int32) (fm : Value) (h0 : Heap) (n0 : Nat) (v : Option Value) (h : Heap) (L : List Loc) : Prop := v = none ∧ Fr n0 L ∧ Keep h0 h [tA] ∧ Arv Z h tA kA .byte (4 : Int32) [(.int (nar .byte (((y0 &&& (255 : Int32)) >>> ((0 : Int32) &&& 31)).toInt8.toInt32))), (.int (nar .byte (((y0 &&& (255 : Int32)) >>> ((8 : Int32) &&& 31)).toInt8.toInt32))), (.int z2), (.int z3)] (.int 0)
theorem rm_uinf_1_2 (l : Launch) (Z : State) (a0 : Array Value) (hw : HW a0 Z) (ws : List Jvm.Cond) (tA : Addr) (kA : ClassId) (tB : Addr) (kB : ClassId) (y0 : Int32) (y1 : Int32) (z0 : Int32) (z1 : Int32) (z2 : Int32) (z3 : Int32) (fm : Value) (h0 : Heap) (n0 : Nat) (Z0 : n0 ≤ h0.size) (O0 : Old Z n0 h0) (R_B : Arv Z h0 tB kB .byte (2 : Int32) [(.int y0), (.int y1)] (.int 0)) (R_A : Arv Z h0 tA kA .byte (4 : Int32) [(.int z0), (.int z1), (.int z2), (.int z3)] (.int 0)) (g_A : n0 ≤ tA) (neBA : tB ≠ tA) (S_AD : sk1 Z Z.heap (.int 1)) (S_HI : sk2 Z Z.heap (.int 0)) (S_LO : sk3 Z Z.heap (.int 8)) (S_SF : sk4 Z Z.heap fm) (P_SF : fm.isRef = true) :
    M15 l ws (rmk 3 0 0 43) Z #[(.ref tB), (.int 0), (.ref tA), (.int 0), (.int 1)] h0 (Q_uinf_1_2 Z tA kA tB kB y0 y1 z0 z1 z2 z3 fm h0 n0) := by
  refine own_go "java/lang/StringUTF16" rfl (plainFor_of_name pn_31) (fun m => ef_uinf_1_2 m tB tA) (fun p e s m below meth c s₁ hx hby hml hown hnm hlk hret hZ X0 e0 => ?_)
  have N0 := Fr.nil n0
  have K0 := Keep.refl h0 [tA]
  show gs s₁ m 0 #[vr tB, vi 0, vr tA, vi 0, vi 1, .unset] []
  refine oiloadN X0 hx hby d31_0 rfl ?_
  refine oiload X0 hx hby d31_1 rfl ?_
  refine oaloadN X0 hx hby d31_3 rfl rfl ?_
  refine oS 0 X0 hx hZ hby hml hown (own_w hw 178 rfl) (own_w hw 179 rfl) (own_w hw 166 rfl) (own_w hw 180 rfl) (rm_uboc_1_2 l Z a0 hw [] tA kA z0 z1 z2 z3 fm h0 n0 Z0 O0 R_A S_SF P_SF) e0 (by decide) own_pd9 d31_4 rfl rfl rfl (fun T1 L1 v1 X1 hQ1 => ?_)
  obtain ⟨rfl, Nq1, eq1⟩ := hQ1
  have N1 := Fr.app N0 Nq1
  show gs T1 m 7 #[vr tB, vi 0, vr tA, vi 0, vi 1, .unset] []
  refine oiconst X1 hx hby d31_7 ?_
  refine own_st (fun _ kS => XS.istore X1.here hx rfl (hb hby d31_8) rfl (l' := #[vr tB, vi 0, vr tA, vi 0, vi 1, vi 0]) rfl kS) ?_
  refine oiload X1 hx hby d31_10 rfl ?_
  refine oiload X1 hx hby d31_12 rfl ?_
  refine own_st (fun _ kS => XS.icmpNo X1.here hx rfl (hb hby d31_14) rfl (tlt (by decide : (0 : Int32) < (1 : Int32))).2.1 kS) ?_
  show gs T1 m 17 #[vr tB, vi 0, vr tA, vi 0, vi 1, vi 0] []
  refine oaloadN X1 hx hby d31_17 rfl rfl ?_
  refine oiloadN X1 hx hby d31_18 rfl ?_
  refine own_st (fun _ kS => XS.iinc X1.here hx rfl (hb hby d31_19) rfl (l' := #[vr tB, vi 0, vr tA, vi 1, vi 1, vi 0]) rfl kS) ?_
  refine oaloadN X1 hx hby d31_22 rfl rfl ?_
  refine oiloadN X1 hx hby d31_23 rfl ?_
  refine own_st (fun _ kS => XS.iinc X1.here hx rfl (hb hby d31_24) rfl (l' := #[vr tB, vi 1, vr tA, vi 1, vi 1, vi 0]) rfl kS) ?_
  show gs T1 m 27 #[vr tB, vi 1, vr tA, vi 1, vi 1, vi 0] [(.int 0), (.ref tB), (.int 0), (.ref tA)]
  obtain ⟨cl2, Ar2, qa2, qs2, qn2, qh2, qg2⟩ := id R_B
  refine own_st (fun _ kS => X1.baloadBytes hx (j := (0 : Int32)) (v := (.int y0)) (by rw [eq1]; exact Ar2.1) (State.isArrayOf_alike hZ.alike Ar2.2.1) Ar2.2.2 (inb_of qs2 ⟨by decide, by decide⟩) (qh2.at (inb_of qs2 ⟨by decide, by decide⟩) rfl) (g := (mkF m 27 #[vr tB, vi 1, vr tA, vi 1, vi 1, vi 0] [(.int 0), (.ref tB), (.int 0), (.ref tA)])) rfl rfl (hb hby d31_27) _ kS) ?_
  show gs T1 m 28 #[vr tB, vi 1, vr tA, vi 1, vi 1, vi 0] [(.int y0), (.int 0), (.ref tA)]
  refine own_st (fun _ kS => XS.sipush X1.here hx rfl (hb hby d31_28) kS) ?_
  refine own_st (fun _ kS => XS.iand X1.here hx rfl (hb hby d31_31) rfl kS) ?_
  show gs T1 m 32 #[vr tB, vi 1, vr tA, vi 1, vi 1, vi 0] [(.int (y0 &&& (255 : Int32))), (.int 0), (.ref tA)]
  refine oS 0 X1 hx hZ hby hml hown (own_w hw 197 rfl) (own_w hw 198 rfl) (own_w hw 166 rfl) (own_w hw 199 rfl) (rm_put_0_2 l Z a0 hw [] tA kA (y0 &&& (255 : Int32)) z0 z1 z2 z3 h0 n0 Z0 O0 R_A g_A S_AD S_HI S_LO) eq1 (by decide) own_pd5 d31_32 rfl rfl rfl (fun T3 L3 v3 X3 hQ3 => ?_)
  obtain ⟨rfl, Nq3, Kc3, P3_0⟩ := hQ3
  have N3 := Fr.app N1 Nq3
  have K3 := K0.trans Kc3 (allS (Or.inl (List.mem_of_getElem? (i := 0) rfl)) all0)
  have O3 := O0.keep Kc3 (allS g_A all0)
  show gs T3 m 35 #[vr tB, vi 1, vr tA, vi 1, vi 1, vi 0] []
  refine own_st (fun _ kS => XS.iinc X3.here hx rfl (hb hby d31_35) rfl (l' := #[vr tB, vi 1, vr tA, vi 1, vi 1, vi 1]) rfl kS) ?_
  refine own_st (fun _ kS => XS.goto X3.here hx rfl (pc0 := 38) (pc' := 10) rfl (hb hby d31_38) (by decide) (by decide) kS) ?_
  refine oiload X3 hx hby d31_10 rfl ?_
  refine oiload X3 hx hby d31_12 rfl ?_
  refine own_st (fun _ kS => XS.icmpYes X3.here hx rfl (pc0 := 14) (pc' := 41) rfl (hb hby d31_14) rfl (flt (by decide : ¬ ((1 : Int32) < (1 : Int32)))).2.1 (by decide) (by decide) kS) ?_
  show gs T3 m 41 #[vr tB, vi 1, vr tA, vi 1, vi 1, vi 1] []
  exact own_retV X3 hx hlk hret (hb hby d31_41) (by decide) (by decide) (show Q_uinf_1_2 Z tA kA tB kB y0 y1 z0 z1 z2 z3 fm h0 n0 _ _ _ from ⟨rfl, N3, K3, P3_0⟩)
theorem ef_linf_1_2 (m : MethodId) (x0 : Addr) (x1 : Addr) : entryFrame m #[(.ref x0), (.int 0), (.ref x1), (.int 0), (.int 1)] 5 = mkF m 0 #[.val (.ref x0), .val (.int 0), .val (.ref x1), .val (.int 0), .val (.int 1)] [] := by first | (simp [entryFrame, mkF, argsToLocals, Value.category]; done) | rfl
def Q_linf_1_2 (Z : State) (tA : Addr) (kA : ClassId) (tB : Addr) (kB : ClassId) (y0 : Int32) (y1 : Int32) (z0 : Int32) (z1 : Int32) (z2 : Int32) (z3 : Int32) (fm : Value) (h0 : Heap) (n0 : Nat) (v : Option Value) (h : Heap) (L : List Loc) : Prop := v = none ∧ Fr n0 L ∧ Keep h0 h [tA] ∧ Arv Z h tA kA .byte (4 : Int32) [(.int (nar .byte (((y0 &&& (255 : Int32)) >>> ((0 : Int32) &&& 31)).toInt8.toInt32))), (.int (nar .byte (((y0 &&& (255 : Int32)) >>> ((8 : Int32) &&& 31)).toInt8.toInt32))), (.int z2), (.int z3)] (.int 0)
theorem rm_linf_1_2 (l : Launch) (Z : State) (a0 : Array Value) (hw : HW a0 Z) (ws : List Jvm.Cond) (tA : Addr) (kA : ClassId) (tB : Addr) (kB : ClassId) (y0 : Int32) (y1 : Int32) (z0 : Int32) (z1 : Int32) (z2 : Int32) (z3 : Int32) (fm : Value) (h0 : Heap) (n0 : Nat) (Z0 : n0 ≤ h0.size) (O0 : Old Z n0 h0) (R_B : Arv Z h0 tB kB .byte (2 : Int32) [(.int y0), (.int y1)] (.int 0)) (R_A : Arv Z h0 tA kA .byte (4 : Int32) [(.int z0), (.int z1), (.int z2), (.int z3)] (.int 0)) (g_A : n0 ≤ tA) (neBA : tB ≠ tA) (S_AD : sk1 Z Z.heap (.int 1)) (S_HI : sk2 Z Z.heap (.int 0)) (S_LO : sk3 Z Z.heap (.int 8)) (S_SF : sk4 Z Z.heap fm) (P_SF : fm.isRef = true) :
    M16 l ws (rmk 4 0 0 60) Z #[(.ref tB), (.int 0), (.ref tA), (.int 0), (.int 1)] h0 (Q_linf_1_2 Z tA kA tB kB y0 y1 z0 z1 z2 z3 fm h0 n0) := by
  refine own_go "java/lang/StringLatin1" rfl (plainFor_of_name pn_30) (fun m => ef_linf_1_2 m tB tA) (fun p e s m below meth c s₁ hx hby hml hown hnm hlk hret hZ X0 e0 => ?_)
  have N0 := Fr.nil n0
  have K0 := Keep.refl h0 [tA]
  show gs s₁ m 0 #[vr tB, vi 0, vr tA, vi 0, vi 1] []
  refine oaloadN X0 hx hby d30_0 rfl rfl ?_
  refine oiloadN X0 hx hby d30_1 rfl ?_
  refine oaloadN X0 hx hby d30_2 rfl rfl ?_
  refine oiloadN X0 hx hby d30_3 rfl ?_
  refine oiload X0 hx hby d30_4 rfl ?_
  refine oS 0 X0 hx hZ hby hml hown (own_w hw 175 rfl) (own_w hw 176 rfl) (own_w hw 166 rfl) (own_w hw 177 rfl) (rm_uinf_1_2 l Z a0 hw [] tA kA tB kB y0 y1 z0 z1 z2 z3 fm h0 n0 Z0 O0 R_B R_A g_A neBA S_AD S_HI S_LO S_SF P_SF) e0 (by decide) own_pd10 d30_6 rfl rfl rfl (fun T1 L1 v1 X1 hQ1 => ?_)
  obtain ⟨rfl, Nq1, Kc1, P1_0⟩ := hQ1
  have N1 := Fr.app N0 Nq1
  have K1 := K0.trans Kc1 (allS (Or.inl (List.mem_of_getElem? (i := 0) rfl)) all0)
  have O1 := O0.keep Kc1 (allS g_A all0)
  show gs T1 m 9 #[vr tB, vi 0, vr tA, vi 0, vi 1] []
  exact own_retV X1 hx hlk hret (hb hby d30_9) (by decide) (by decide) (show Q_linf_1_2 Z tA kA tB kB y0 y1 z0 z1 z2 z3 fm h0 n0 _ _ _ from ⟨rfl, N1, K1, P1_0⟩)
theorem ef_infl_2_1 (m : MethodId) (x0 : Addr) : entryFrame m #[(.ref x0)] 2 = mkF m 0 #[.val (.ref x0), .unset] [] := by first | (simp [entryFrame, mkF, argsToLocals, Value.category]; done) | rfl
def Q_infl_2_1 (Z : State) (a1 : Addr) (tA : Addr) (kA : ClassId) (y0 : Int32) (y1 : Int32) (zCS : Int32) (fm : Value) (h0 : Heap) (n0 : Nat) (v : Option Value) (h : Heap) (L : List Loc) : Prop := ∃ tN : Addr, ∃ kN : ClassId, v = none ∧ Fr n0 L ∧ Keep h0 h [a1] ∧ h0.size ≤ tN ∧ ek19 Z h tN ∧ ek20 Z h a1 ∧ fk11 Z h a1 (.ref tN) ∧ fk12 Z h a1 (.int 1) ∧ fk13 Z h a1 (.int 1) ∧ fk14 Z h a1 (.int 0) ∧ Arv Z h tN kN .byte (4 : Int32) [(.int (nar .byte (((y0 &&& (255 : Int32)) >>> ((0 : Int32) &&& 31)).toInt8.toInt32))), (.int (nar .byte (((y0 &&& (255 : Int32)) >>> ((8 : Int32) &&& 31)).toInt8.toInt32))), (.int 0), (.int 0)] (.int 0)
theorem rm_infl_2_1 (l : Launch) (Z : State) (a0 : Array Value) (hw : HW a0 Z) (ws : List Jvm.Cond) (a1 : Addr) (tA : Addr) (kA : ClassId) (y0 : Int32) (y1 : Int32) (zCS : Int32) (fm : Value) (h0 : Heap) (n0 : Nat) (Z0 : n0 ≤ h0.size) (O0 : Old Z n0 h0) (E_1 : ek20 Z h0 a1) (g_1 : n0 ≤ a1) (Fv : fk11 Z h0 a1 (.ref tA)) (Fc : fk12 Z h0 a1 (.int 0)) (Fn : fk13 Z h0 a1 (.int 1)) (Fm : fk14 Z h0 a1 (.int 0)) (ne1A : a1 ≠ tA) (R_A : Arv Z h0 tA kA .byte (2 : Int32) [(.int y0), (.int y1)] (.int 0)) (S_CS : sk0 Z Z.heap (.int zCS)) (P_CS : ¬ zCS = 0) (S_SF : sk4 Z Z.heap fm) (P_SF : fm.isRef = true) (S_AD : sk1 Z Z.heap (.int 1)) (S_HI : sk2 Z Z.heap (.int 0)) (S_LO : sk3 Z Z.heap (.int 8)) :
    M17 l ws (rmk 5 1 4 76) Z #[(.ref a1)] h0 (Q_infl_2_1 Z a1 tA kA y0 y1 zCS fm h0 n0) := by
  refine own_go "java/lang/AbstractStringBuilder" rfl (plainFor_of_name pn_27) (fun m => ef_infl_2_1 m a1) (fun p e s m below meth c s₁ hx hby hml hown hnm hlk hret hZ X0 e0 => ?_)
  have N0 := Fr.nil n0
  have K0 := Keep.refl h0 [a1]
  show gs s₁ m 0 #[vr a1, .unset] []
  refine oaloadN X0 hx hby d27_0 rfl rfl ?_
  refine oV 0 X0 hx hZ hby hml hown (own_w hw 127 rfl) (own_w hw 69 rfl) (own_w hw 71 rfl) (own_w hw 70 rfl) (rm_asbLat0 l Z a0 hw [] a1 zCS h0 n0 Z0 O0 S_CS P_CS Fc) (own_w hw 72 rfl) (own_w hw 26 rfl) e0 E_1 (by decide) own_pd11 d27_1 rfl rfl rfl (fun T1 L1 v1 X1 hQ1 => ?_)
  obtain ⟨rfl, Nq1, eq1⟩ := hQ1
  have N1 := Fr.app N0 Nq1
  show gs T1 m 4 #[vr a1, .unset] [(.int 1)]
  refine own_st (fun _ kS => XS.ifYes X1.here hx rfl (pc0 := 4) (pc' := 8) rfl (hb hby d27_4) rfl ((if0 _ _).trans (feq (by decide : ¬ ((1 : Int32) = (0 : Int32)))).2) (by decide) (by decide) kS) ?_
  show gs T1 m 8 #[vr a1, .unset] []
  refine oaloadN X1 hx hby d27_8 rfl rfl ?_
  obtain ⟨T2, X2, e2, st2⟩ := getF X1 hx hZ hown (host := "") (Or.inl (own_w hw 33 rfl)) Via.refl eq1 Fv (g := (mkF m 9 #[vr a1, .unset] [(.ref a1)])) rfl rfl (hb hby d27_9)
  refine own_st st2 ?_
  show gs T2 m 12 #[vr a1, .unset] [(.ref tA)]
  obtain ⟨cl3, Ar3, qa3, qs3, qn3, qh3, qg3⟩ := id R_A
  refine own_st (fun _ kS => X2.arraylength hx (by rw [e2]; exact Ar3.1) (State.isArrayOf_alike hZ.alike Ar3.2.1) (g := (mkF m 12 #[vr a1, .unset] [(.ref tA)])) rfl rfl (hb hby d27_12) _ kS) ?_
  rw [len_of qs3 qn3]
  show gs T2 m 13 #[vr a1, .unset] [(.int 2)]
  refine oS 0 X2 hx hZ hby hml hown (own_w hw 164 rfl) (own_w hw 165 rfl) (own_w hw 166 rfl) (own_w hw 167 rfl) (rm_nbf_2 l Z a0 hw []  h0 n0 Z0  ) e2 (by decide) own_pd12 d27_13 rfl rfl rfl (fun T4 L4 v4 X4 hQ4 => ?_)
  obtain ⟨tN_4, kN_4, rfl, Nq4, Kc4, P4_0, P4_1, P4_2⟩ := hQ4
  have N4 := Fr.app N1 Nq4
  have ne_a1_tN_4 : a1 ≠ tN_4 := Nat.ne_of_lt (Nat.lt_of_lt_of_le E_1.lt P4_0)
  have ne_tA_tN_4 : tA ≠ tN_4 := Nat.ne_of_lt (Nat.lt_of_lt_of_le R_A.lt P4_0)
  have ge_tN_4 : n0 ≤ tN_4 := Nat.le_trans Z0 P4_0
  have sz_tN_4 : h0.size ≤ tN_4 := Nat.le_trans K0.1 P4_0
  have K4 := K0.trans Kc4 all0
  have O4 := O0.keep Kc4 all0
  show gs T4 m 16 #[vr a1, .unset] [(.ref tN_4)]
  refine own_st (fun _ kS => XS.astoreN X4.here hx rfl (hb hby d27_16) rfl rfl (l' := #[vr a1, vr tN_4]) rfl kS) ?_
  refine oaloadN X4 hx hby d27_17 rfl rfl ?_
  obtain ⟨T5, X5, e5, st5⟩ := getF X4 hx hZ hown (host := "") (Or.inl (own_w hw 33 rfl)) Via.refl rfl (Fv.keep Kc4 nin0) (g := (mkF m 18 #[vr a1, vr tN_4] [(.ref a1)])) rfl rfl (hb hby d27_18)
  refine own_st st5 ?_
  show gs T5 m 21 #[vr a1, vr tN_4] [(.ref tA)]
  refine oiconst X5 hx hby d27_21 ?_
  refine oaloadN X5 hx hby d27_22 rfl rfl ?_
  refine oiconst X5 hx hby d27_23 ?_
  refine oaloadN X5 hx hby d27_24 rfl rfl ?_
  obtain ⟨T6, X6, e6, st6⟩ := getF X5 hx hZ hown (host := "") (Or.inl (own_w hw 66 rfl)) Via.refl e5 (Fn.keep Kc4 nin0) (g := (mkF m 25 #[vr a1, vr tN_4] [(.ref a1), (.int 0), (.ref tN_4), (.int 0), (.ref tA)])) rfl rfl (hb hby d27_25)
  refine own_st st6 ?_
  show gs T6 m 28 #[vr a1, vr tN_4] [(.int 1), (.int 0), (.ref tN_4), (.int 0), (.ref tA)]
  refine oS 0 X6 hx hZ hby hml hown (own_w hw 172 rfl) (own_w hw 173 rfl) (own_w hw 130 rfl) (own_w hw 174 rfl) (rm_linf_1_2 l Z a0 hw [] tN_4 kN_4 tA kA y0 y1 (0 : Int32) (0 : Int32) (0 : Int32) (0 : Int32) fm T4.heap n0 (Nat.le_trans Z0 Kc4.1) O4 (R_A.keep Kc4 nin0) P4_2 ge_tN_4 ne_tA_tN_4 S_AD S_HI S_LO S_SF P_SF) e6 (by decide) own_pd10 d27_28 rfl rfl rfl (fun T7 L7 v7 X7 hQ7 => ?_)
  obtain ⟨rfl, Nq7, Kc7, P7_0⟩ := hQ7
  have N7 := Fr.app N4 Nq7
  have K7 := K4.trans Kc7 (allS (Or.inr sz_tN_4) all0)
  have O7 := O4.keep Kc7 (allS ge_tN_4 all0)
  show gs T7 m 31 #[vr a1, vr tN_4] []
  refine oaloadN X7 hx hby d27_31 rfl rfl ?_
  refine oaloadN X7 hx hby d27_32 rfl rfl ?_
  show gs T7 m 33 #[vr a1, vr tN_4] [(.ref tN_4), (.ref a1)]
  obtain ⟨T8, h8, X8, e8, W8, st8⟩ := putF X7 hx hZ hown (host := "") (Or.inl (own_w hw 33 rfl)) Via.refl rfl ((Fv.keep Kc4 nin0).keep Kc7 (ninS ne_a1_tN_4 nin0)) ((E_1.keep Kc4).keep Kc7) (Or.inl (own_w hw 34 rfl)) (own_w hw 15 rfl) (ty := (.array .byte)) (by decide) rfl rfl (g := (mkF m 33 #[vr a1, vr tN_4] [(.ref tN_4), (.ref a1)])) rfl rfl (hb hby d27_33)
  refine own_st st8 ?_
  have N8 := Fr.snoc X8 N7 g_1
  have K8 := K7.wr W8 (Or.inl (List.mem_of_getElem? (i := 0) rfl))
  have O8 := O7.wr W8 g_1
  have Fw8 := Fld.same W8 ((Fv.keep Kc4 nin0).keep Kc7 (ninS ne_a1_tN_4 nin0))
  show gs T8 m 36 #[vr a1, vr tN_4] []
  refine oaloadN X8 hx hby d27_36 rfl rfl ?_
  refine oiconst X8 hx hby d27_37 ?_
  show gs T8 m 38 #[vr a1, vr tN_4] [(.int 1), (.ref a1)]
  obtain ⟨T9, h9, X9, e9, W9, st9⟩ := putFN X8 hx hZ hown (own_w hw 35 rfl) Via.refl e8 (Fld.other W8 ((Fc.keep Kc4 nin0).keep Kc7 (ninS ne_a1_tN_4 nin0)) (Or.inr (slot_ne (Or.inl (own_w hw 36 rfl)) (Or.inl (own_w hw 34 rfl)) (by decide) (t := .byte) (t' := (.array .byte)) (by decide) (by decide)))) (Exa.wr W8 ((E_1.keep Kc4).keep Kc7)) (Or.inl (own_w hw 36 rfl)) (own_w hw 15 rfl) (ty := .byte) (v' := (.int 1)) (by decide) rfl (by decide) (g := (mkF m 38 #[vr a1, vr tN_4] [(.int 1), (.ref a1)])) rfl rfl (hb hby d27_38)
  refine own_st st9 ?_
  have N9 := Fr.snoc X9 N8 g_1
  have K9 := K8.wr W9 (Or.inl (List.mem_of_getElem? (i := 0) rfl))
  have O9 := O8.wr W9 g_1
  have Fw9 := Fld.same W9 (Fld.other W8 ((Fc.keep Kc4 nin0).keep Kc7 (ninS ne_a1_tN_4 nin0)) (Or.inr (slot_ne (Or.inl (own_w hw 36 rfl)) (Or.inl (own_w hw 34 rfl)) (by decide) (t := .byte) (t' := (.array .byte)) (by decide) (by decide))))
  show gs T9 m 41 #[vr a1, vr tN_4] []
  exact own_retV X9 hx hlk hret (hb hby d27_41) (by decide) (by decide) (by rw [e9]; exact ⟨tN_4, kN_4, ⟨rfl, N9, K9, sz_tN_4, (Exa.wr W9 (Exa.wr W8 (P4_1.keep Kc7))), (Exa.wr W9 (Exa.wr W8 ((E_1.keep Kc4).keep Kc7))), (Fld.other W9 Fw8 (Or.inr (slot_ne (Or.inl (own_w hw 34 rfl)) (Or.inl (own_w hw 36 rfl)) (by decide) (t := (.array .byte)) (t' := .byte) (by decide) (by decide)))), Fw9, (Fld.other W9 (Fld.other W8 ((Fn.keep Kc4 nin0).keep Kc7 (ninS ne_a1_tN_4 nin0)) (Or.inr (slot_ne (Or.inl (own_w hw 67 rfl)) (Or.inl (own_w hw 34 rfl)) (by decide) (t := .int) (t' := (.array .byte)) (by decide) (by decide)))) (Or.inr (slot_ne (Or.inl (own_w hw 67 rfl)) (Or.inl (own_w hw 36 rfl)) (by decide) (t := .int) (t' := .byte) (by decide) (by decide)))), (Fld.other W9 (Fld.other W8 ((Fm.keep Kc4 nin0).keep Kc7 (ninS ne_a1_tN_4 nin0)) (Or.inr (slot_ne (Or.inl (own_w hw 204 rfl)) (Or.inl (own_w hw 34 rfl)) (by decide) (t := .boolean) (t' := (.array .byte)) (by decide) (by decide)))) (Or.inr (slot_ne (Or.inl (own_w hw 204 rfl)) (Or.inl (own_w hw 36 rfl)) (by decide) (t := .boolean) (t' := .byte) (by decide) (by decide)))), ((P7_0.other W8 (Ne.symm ne_a1_tN_4)).other W9 (Ne.symm ne_a1_tN_4))⟩⟩)
theorem d19_0 : dk B18 0 (.aload_n 0) 1 := by decide +kernel
theorem d19_1 : dk B18 1 (.getfield 15) 3 := by decide +kernel
theorem d19_4 : dk B18 4 (.arraylength) 1 := by decide +kernel
theorem d19_5 : dk B18 5 (.aload_n 0) 1 := by decide +kernel
theorem d19_6 : dk B18 6 (.getfield 22) 3 := by decide +kernel
theorem d19_9 : dk B18 9 (.ishr) 1 := by decide +kernel
theorem d19_10 : dk B18 10 (.istore_n 2) 1 := by decide +kernel
theorem d19_11 : dk B18 11 (.iload_n 1) 1 := by decide +kernel
theorem d19_12 : dk B18 12 (.iload_n 2) 1 := by decide +kernel
theorem d19_13 : dk B18 13 (.isub) 1 := by decide +kernel
theorem d19_14 : dk B18 14 (.ifCond .le 24) 3 := by decide +kernel
theorem d19_17 : dk B18 17 (.aload_n 0) 1 := by decide +kernel
theorem d19_18 : dk B18 18 (.aload_n 0) 1 := by decide +kernel
theorem d19_19 : dk B18 19 (.getfield 15) 3 := by decide +kernel
theorem d19_22 : dk B18 22 (.aload_n 0) 1 := by decide +kernel
theorem d19_23 : dk B18 23 (.iload_n 1) 1 := by decide +kernel
theorem d19_24 : dk B18 24 (.invokevirtual 104) 3 := by decide +kernel
theorem d19_27 : dk B18 27 (.aload_n 0) 1 := by decide +kernel
theorem d19_28 : dk B18 28 (.getfield 22) 3 := by decide +kernel
theorem d19_31 : dk B18 31 (.ishl) 1 := by decide +kernel
theorem d19_32 : dk B18 32 (.invokestatic 108) 3 := by decide +kernel
theorem d19_35 : dk B18 35 (.putfield 15) 3 := by decide +kernel
theorem d19_38 : dk B18 38 (.return_) 1 := by decide +kernel
theorem pn_19 : plainName "java/lang/AbstractStringBuilder" = true := by first | (simp [plainName, overriddenIn]; done) | decide +kernel
theorem ef_ens_1_0_1 (m : MethodId) (x0 : Addr) : entryFrame m #[(.ref x0), (.int 1)] 3 = mkF m 0 #[.val (.ref x0), .val (.int 1), .unset] [] := by first | (simp [entryFrame, mkF, argsToLocals, Value.category]; done) | rfl
def Q_ens_1_0_1 (Z : State) (a1 : Addr) (tA : Addr) (kA : ClassId) (y0 : Int32) (h0 : Heap) (n0 : Nat) (v : Option Value) (h : Heap) (L : List Loc) : Prop := v = none ∧ Fr n0 L ∧ h = h0
theorem rm_ens_1_0_1 (l : Launch) (Z : State) (a0 : Array Value) (hw : HW a0 Z) (ws : List Jvm.Cond) (a1 : Addr) (tA : Addr) (kA : ClassId) (y0 : Int32) (h0 : Heap) (n0 : Nat) (Z0 : n0 ≤ h0.size) (Fv : fk11 Z h0 a1 (.ref tA)) (Fc : fk12 Z h0 a1 (.int 0)) (R_A : Arv Z h0 tA kA .byte (1 : Int32) [(.int y0)] (.int 0)) :
    M18 l ws (rmk 0 0 0 0) Z #[(.ref a1), (.int 1)] h0 (Q_ens_1_0_1 Z a1 tA kA y0 h0 n0) := by
  refine own_go "java/lang/AbstractStringBuilder" rfl (plainFor_of_name pn_19) (fun m => ef_ens_1_0_1 m a1) (fun p e s m below meth c s₁ hx hby hml hown hnm hlk hret hZ X0 e0 => ?_)
  have N0 := Fr.nil n0
  show gs s₁ m 0 #[vr a1, vi 1, .unset] []
  refine oaloadN X0 hx hby d19_0 rfl rfl ?_
  obtain ⟨T1, X1, e1, st1⟩ := getF X0 hx hZ hown (host := "") (Or.inl (own_w hw 33 rfl)) Via.refl e0 Fv (g := (mkF m 1 #[vr a1, vi 1, .unset] [(.ref a1)])) rfl rfl (hb hby d19_1)
  refine own_st st1 ?_
  show gs T1 m 4 #[vr a1, vi 1, .unset] [(.ref tA)]
  obtain ⟨cl2, Ar2, qa2, qs2, qn2, qh2, qg2⟩ := id R_A
  refine own_st (fun _ kS => X1.arraylength hx (by rw [e1]; exact Ar2.1) (State.isArrayOf_alike hZ.alike Ar2.2.1) (g := (mkF m 4 #[vr a1, vi 1, .unset] [(.ref tA)])) rfl rfl (hb hby d19_4) _ kS) ?_
  rw [len_of qs2 qn2]
  show gs T1 m 5 #[vr a1, vi 1, .unset] [(.int 1)]
  refine oaloadN X1 hx hby d19_5 rfl rfl ?_
  obtain ⟨T3, X3, e3, st3⟩ := getF X1 hx hZ hown (host := "") (Or.inl (own_w hw 35 rfl)) Via.refl e1 Fc (g := (mkF m 6 #[vr a1, vi 1, .unset] [(.ref a1), (.int 1)])) rfl rfl (hb hby d19_6)
  refine own_st st3 ?_
  show gs T3 m 9 #[vr a1, vi 1, .unset] [(.int 0), (.int 1)]
  refine own_st (fun _ kS => XT.ishr X3.here hx rfl (hb hby d19_9) rfl kS) ?_
  refine own_st (fun _ kS => XS.istoreN X3.here hx rfl (hb hby d19_10) rfl (l' := #[vr a1, vi 1, vi 1]) rfl kS) ?_
  refine oiloadN X3 hx hby d19_11 rfl ?_
  refine oiloadN X3 hx hby d19_12 rfl ?_
  refine own_st (fun _ kS => XS.isub X3.here hx rfl (hb hby d19_13) rfl kS) ?_
  show gs T3 m 14 #[vr a1, vi 1, vi 1] [(.int 0)]
  refine own_st (fun _ kS => XS.ifYes X3.here hx rfl (pc0 := 14) (pc' := 38) rfl (hb hby d19_14) rfl ((if0 _ _).trans (flt (by decide : ¬ ((0 : Int32) < (0 : Int32)))).2.2.2) (by decide) (by decide) kS) ?_
  show gs T3 m 38 #[vr a1, vi 1, vi 1] []
  exact own_retV X3 hx hlk hret (hb hby d19_38) (by decide) (by decide) (by rw [e3]; exact ⟨rfl, N0, rfl⟩)
theorem d18_0 : dk B19 0 (.aload_n 0) 1 := by decide +kernel
theorem d18_1 : dk B19 1 (.aload_n 0) 1 := by decide +kernel
theorem d18_2 : dk B19 2 (.getfield 79) 3 := by decide +kernel
theorem d18_5 : dk B19 5 (.iconst 1) 1 := by decide +kernel
theorem d18_6 : dk B19 6 (.iadd) 1 := by decide +kernel
theorem d18_7 : dk B19 7 (.invokevirtual 100) 3 := by decide +kernel
theorem d18_10 : dk B19 10 (.aload_n 0) 1 := by decide +kernel
theorem d18_11 : dk B19 11 (.invokevirtual 83) 3 := by decide +kernel
theorem d18_14 : dk B19 14 (.ifCond .eq 31) 3 := by decide +kernel
theorem d18_17 : dk B19 17 (.iload_n 1) 1 := by decide +kernel
theorem d18_18 : dk B19 18 (.invokestatic 191) 3 := by decide +kernel
theorem d18_21 : dk B19 21 (.ifCond .eq 24) 3 := by decide +kernel
theorem d18_24 : dk B19 24 (.aload_n 0) 1 := by decide +kernel
theorem d18_25 : dk B19 25 (.getfield 15) 3 := by decide +kernel
theorem d18_28 : dk B19 28 (.aload_n 0) 1 := by decide +kernel
theorem d18_29 : dk B19 29 (.dup) 1 := by decide +kernel
theorem d18_30 : dk B19 30 (.getfield 79) 3 := by decide +kernel
theorem d18_33 : dk B19 33 (.dup_x1) 1 := by decide +kernel
theorem d18_34 : dk B19 34 (.iconst 1) 1 := by decide +kernel
theorem d18_35 : dk B19 35 (.iadd) 1 := by decide +kernel
theorem d18_36 : dk B19 36 (.putfield 79) 3 := by decide +kernel
theorem d18_39 : dk B19 39 (.iload_n 1) 1 := by decide +kernel
theorem d18_40 : dk B19 40 (.i2b) 1 := by decide +kernel
theorem d18_41 : dk B19 41 (.bastore) 1 := by decide +kernel
theorem d18_42 : dk B19 42 (.goto 33) 3 := by decide +kernel
theorem d18_45 : dk B19 45 (.aload_n 0) 1 := by decide +kernel
theorem d18_46 : dk B19 46 (.invokevirtual 83) 3 := by decide +kernel
theorem d18_49 : dk B19 49 (.ifCond .eq 7) 3 := by decide +kernel
theorem d18_52 : dk B19 52 (.aload_n 0) 1 := by decide +kernel
theorem d18_53 : dk B19 53 (.invokevirtual 195) 3 := by decide +kernel
theorem d18_56 : dk B19 56 (.aload_n 0) 1 := by decide +kernel
theorem d18_57 : dk B19 57 (.getfield 15) 3 := by decide +kernel
theorem d18_60 : dk B19 60 (.aload_n 0) 1 := by decide +kernel
theorem d18_61 : dk B19 61 (.dup) 1 := by decide +kernel
theorem d18_62 : dk B19 62 (.getfield 79) 3 := by decide +kernel
theorem d18_65 : dk B19 65 (.dup_x1) 1 := by decide +kernel
theorem d18_66 : dk B19 66 (.iconst 1) 1 := by decide +kernel
theorem d18_67 : dk B19 67 (.iadd) 1 := by decide +kernel
theorem d18_68 : dk B19 68 (.putfield 79) 3 := by decide +kernel
theorem d18_71 : dk B19 71 (.iload_n 1) 1 := by decide +kernel
theorem d18_72 : dk B19 72 (.invokestatic 197) 3 := by decide +kernel
theorem d18_75 : dk B19 75 (.aload_n 0) 1 := by decide +kernel
theorem d18_76 : dk B19 76 (.areturn) 1 := by decide +kernel
theorem pn_18 : plainName "java/lang/AbstractStringBuilder" = true := by first | (simp [plainName, overriddenIn]; done) | decide +kernel
theorem own_pd13 : parseMethodDescriptor "(C)Z" = some ⟨[.char], some .boolean⟩ := by decide +kernel
theorem ef_asbApp_1_0_0_L (m : MethodId) (x0 : Addr) (x1 : Int32) : entryFrame m #[(.ref x0), (.int x1)] 2 = mkF m 0 #[.val (.ref x0), .val (.int x1)] [] := by first | (simp [entryFrame, mkF, argsToLocals, Value.category]; done) | rfl
def Q_asbApp_1_0_0_L (Z : State) (a1 : Addr) (tA : Addr) (kA : ClassId) (c1 : Int32) (y0 : Int32) (zCS : Int32) (fm : Value) (h0 : Heap) (n0 : Nat) (v : Option Value) (h : Heap) (L : List Loc) : Prop := v = some (.ref a1) ∧ Fr n0 L ∧ Keep h0 h [a1, tA] ∧ ek20 Z h a1 ∧ fk11 Z h a1 (.ref tA) ∧ fk12 Z h a1 (.int 0) ∧ fk13 Z h a1 (.int 1) ∧ fk14 Z h a1 (.int 0) ∧ Arv Z h tA kA .byte (1 : Int32) [(.int (nar .byte (c1.toInt8.toInt32)))] (.int 0)
theorem rm_asbApp_1_0_0_L (l : Launch) (Z : State) (a0 : Array Value) (hw : HW a0 Z) (ws : List Jvm.Cond) (a1 : Addr) (tA : Addr) (kA : ClassId) (c1 : Int32) (y0 : Int32) (zCS : Int32) (fm : Value) (h0 : Heap) (n0 : Nat) (Z0 : n0 ≤ h0.size) (O0 : Old Z n0 h0) (E_1 : ek20 Z h0 a1) (g_1 : n0 ≤ a1) (Fv : fk11 Z h0 a1 (.ref tA)) (Fc : fk12 Z h0 a1 (.int 0)) (Fn : fk13 Z h0 a1 (.int 0)) (Fm : fk14 Z h0 a1 (.int 0)) (ne1A : a1 ≠ tA) (R_A : Arv Z h0 tA kA .byte (1 : Int32) [(.int y0)] (.int 0)) (g_A : n0 ≤ tA) (S_CS : sk0 Z Z.heap (.int zCS)) (P_CS : ¬ zCS = 0) (S_SF : sk4 Z Z.heap fm) (P_SF : fm.isRef = true) (S_AD : sk1 Z Z.heap (.int 1)) (S_HI : sk2 Z Z.heap (.int 0)) (S_LO : sk3 Z Z.heap (.int 8)) (hcc : ¬ ((255 : Int32) < c1)) :
    M19 l ws (rmk 1 0 0 14) Z #[(.ref a1), (.int c1)] h0 (Q_asbApp_1_0_0_L Z a1 tA kA c1 y0 zCS fm h0 n0) := by
  refine own_go "java/lang/AbstractStringBuilder" rfl (plainFor_of_name pn_18) (fun m => ef_asbApp_1_0_0_L m a1 c1) (fun p e s m below meth c s₁ hx hby hml hown hnm hlk hret hZ X0 e0 => ?_)
  have N0 := Fr.nil n0
  have K0 := Keep.refl h0 [a1, tA]
  show gs s₁ m 0 #[vr a1, vi c1] []
  refine oaloadN X0 hx hby d18_0 rfl rfl ?_
  refine oaloadN X0 hx hby d18_1 rfl rfl ?_
  obtain ⟨T1, X1, e1, st1⟩ := getF X0 hx hZ hown (host := "") (Or.inl (own_w hw 66 rfl)) Via.refl e0 Fn (g := (mkF m 2 #[vr a1, vi c1] [(.ref a1), (.ref a1)])) rfl rfl (hb hby d18_2)
  refine own_st st1 ?_
  show gs T1 m 5 #[vr a1, vi c1] [(.int 0), (.ref a1)]
  refine oiconst X1 hx hby d18_5 ?_
  refine own_st (fun _ kS => XS.iadd X1.here hx rfl (hb hby d18_6) rfl kS) ?_
  show gs T1 m 7 #[vr a1, vi c1] [(.int 1), (.ref a1)]
  obtain ⟨cq2, q2, q2'⟩ := E_1.cell
  obtain ⟨_, _, ⟨T2, L2, k2, n2⟩, -, X2, ⟨Lc2, hQ2, l2, y2, z2⟩, st2⟩ := X1.privateBack hx (y := (⟨"java/lang/AbstractStringBuilder", "ensureCapacityInternal", "(I)V"⟩ : MethodName)) hown (mvT hZ (own_w hw 122 rfl)) (mvT hZ (own_w hw 123 rfl)) (own_selp2 (mvT hZ (own_w hw 125 rfl)) (Cond.privateMethod_at (mvP hZ (own_w hw 124 rfl) (args := #[]))) (mvT hZ (own_w hw 123 rfl)) (by decide)) (Cond.privateMethod_at (mvP hZ (own_w hw 124 rfl) (args := #[]))) (mvT hZ (own_w hw 126 rfl)) (by decide) (backOf (W := 0) (rm_ens_1_0_1 l Z a0 hw [] a1 tA kA y0 h0 n0 Z0  Fv Fc R_A) hZ (own_w hw 126 rfl) (own_w hw 26 rfl) (by decide) (by decide)) (g := (mkF m 7 #[vr a1, vi c1] [(.int 1), (.ref a1)])) rfl (by rw [hml]; rfl) (Steps.refl _) (a := a1) (by rw [e1]; exact q2) q2' (argsL := [(.int 1)]) (rest := []) (lenOf own_pd0 rfl) rfl (by show 2 * 0 + _ ≤ _; exact Nat.le_of_eq rfl) (hb hby d18_7) (fun _ _ => ⟨rfl, e1, (by decide : 0 + 0 ≤ _), (by decide : 0 + 0 ≤ _)⟩)
  dsimp only [Pt.U, Pt.locs, Pt.cells, Pt.slots] at X2 l2 y2 z2 st2 hQ2
  subst l2 y2 z2
  obtain ⟨rfl, Nq2, eq2⟩ := hQ2
  have N2 := Fr.app N0 Nq2
  refine own_tr st2 ?_
  show gs T2 m 10 #[vr a1, vi c1] []
  refine oaloadN X2 hx hby d18_10 rfl rfl ?_
  refine oV 0 X2 hx hZ hby hml hown (own_w hw 127 rfl) (own_w hw 69 rfl) (own_w hw 71 rfl) (own_w hw 70 rfl) (rm_asbLat0 l Z a0 hw [] a1 zCS h0 n0 Z0 O0 S_CS P_CS Fc) (own_w hw 72 rfl) (own_w hw 26 rfl) eq2 E_1 (by decide) own_pd11 d18_11 rfl rfl rfl (fun T3 L3 v3 X3 hQ3 => ?_)
  obtain ⟨rfl, Nq3, eq3⟩ := hQ3
  have N3 := Fr.app N2 Nq3
  show gs T3 m 14 #[vr a1, vi c1] [(.int 1)]
  refine own_st (fun _ kS => XS.ifNo X3.here hx rfl (hb hby d18_14) rfl ((if0 _ _).trans (feq (by decide : ¬ ((1 : Int32) = (0 : Int32)))).1) kS) ?_
  show gs T3 m 17 #[vr a1, vi c1] []
  refine oiloadN X3 hx hby d18_17 rfl ?_
  refine oS 0 X3 hx hZ hby hml hown (own_w hw 128 rfl) (own_w hw 129 rfl) (own_w hw 130 rfl) (own_w hw 131 rfl) (rm_canEnc1 l Z a0 hw [] c1 h0 n0 Z0  hcc) eq3 (by decide) own_pd13 d18_18 rfl rfl rfl (fun T4 L4 v4 X4 hQ4 => ?_)
  obtain ⟨rfl, Nq4, eq4⟩ := hQ4
  have N4 := Fr.app N3 Nq4
  show gs T4 m 21 #[vr a1, vi c1] [(.int 1)]
  refine own_st (fun _ kS => XS.ifNo X4.here hx rfl (hb hby d18_21) rfl ((if0 _ _).trans (feq (by decide : ¬ ((1 : Int32) = (0 : Int32)))).1) kS) ?_
  show gs T4 m 24 #[vr a1, vi c1] []
  refine oaloadN X4 hx hby d18_24 rfl rfl ?_
  obtain ⟨T5, X5, e5, st5⟩ := getF X4 hx hZ hown (host := "") (Or.inl (own_w hw 33 rfl)) Via.refl eq4 Fv (g := (mkF m 25 #[vr a1, vi c1] [(.ref a1)])) rfl rfl (hb hby d18_25)
  refine own_st st5 ?_
  show gs T5 m 28 #[vr a1, vi c1] [(.ref tA)]
  refine oaloadN X5 hx hby d18_28 rfl rfl ?_
  refine own_st (fun _ kS => XS.dup X5.here hx rfl (hb hby d18_29) rfl rfl kS) ?_
  show gs T5 m 30 #[vr a1, vi c1] [(.ref a1), (.ref a1), (.ref tA)]
  obtain ⟨T6, X6, e6, st6⟩ := getF X5 hx hZ hown (host := "") (Or.inl (own_w hw 66 rfl)) Via.refl e5 Fn (g := (mkF m 30 #[vr a1, vi c1] [(.ref a1), (.ref a1), (.ref tA)])) rfl rfl (hb hby d18_30)
  refine own_st st6 ?_
  show gs T6 m 33 #[vr a1, vi c1] [(.int 0), (.ref a1), (.ref tA)]
  refine own_st (fun _ kS => XT.dupX1 X6.here hx rfl (hb hby d18_33) rfl rfl rfl kS) ?_
  show gs T6 m 34 #[vr a1, vi c1] [(.int 0), (.ref a1), (.int 0), (.ref tA)]
  refine oiconst X6 hx hby d18_34 ?_
  refine own_st (fun _ kS => XS.iadd X6.here hx rfl (hb hby d18_35) rfl kS) ?_
  show gs T6 m 36 #[vr a1, vi c1] [(.int 1), (.ref a1), (.int 0), (.ref tA)]
  obtain ⟨T7, h7, X7, e7, W7, st7⟩ := putF X6 hx hZ hown (host := "") (Or.inl (own_w hw 66 rfl)) Via.refl e6 Fn E_1 (Or.inl (own_w hw 67 rfl)) (own_w hw 15 rfl) (ty := .int) (by decide) rfl rfl (g := (mkF m 36 #[vr a1, vi c1] [(.int 1), (.ref a1), (.int 0), (.ref tA)])) rfl rfl (hb hby d18_36)
  refine own_st st7 ?_
  have N7 := Fr.snoc X7 N4 g_1
  have K7 := K0.wr W7 (Or.inl (List.mem_of_getElem? (i := 0) rfl))
  have O7 := O0.wr W7 g_1
  have Fw7 := Fld.same W7 Fn
  show gs T7 m 39 #[vr a1, vi c1] [(.int 0), (.ref tA)]
  refine oiloadN X7 hx hby d18_39 rfl ?_
  refine own_st (fun _ kS => XT.i2b X7.here hx rfl (hb hby d18_40) rfl kS) ?_
  show gs T7 m 41 #[vr a1, vi c1] [(.int (c1.toInt8.toInt32)), (.int 0), (.ref tA)]
  obtain ⟨cl8, Ar8, qa8, qs8, qn8, qh8, qg8⟩ := id (R_A.other W7 (Ne.symm ne1A))
  obtain ⟨T8, h8, X8, e8, W8, st8⟩ := stB X7 hx hZ e7 Ar8 (j := (0 : Int32)) (inb_of qs8 ⟨by decide, by decide⟩) (g := (mkF m 41 #[vr a1, vi c1] [(.int (c1.toInt8.toInt32)), (.int 0), (.ref tA)])) rfl rfl (hb hby d18_41)
  have N8 := Fr.snoc X8 N7 g_A
  have K8 := K7.wr W8 (Or.inl (List.mem_of_getElem? (i := 1) rfl))
  have O8 := O7.wr W8 g_A
  have R8 : Arv Z h8 tA kA .byte (1 : Int32) [(.int (nar .byte (c1.toInt8.toInt32)))] (.int 0) := Arv.set Ar8 qa8 qs8 qn8 qh8 qg8 (fits_nar_byte _) W8 0 rfl (Nat.le_of_ble_eq_true rfl)
  refine own_st st8 ?_
  show gs T8 m 42 #[vr a1, vi c1] []
  refine own_st (fun _ kS => XS.goto X8.here hx rfl (pc0 := 42) (pc' := 75) rfl (hb hby d18_42) (by decide) (by decide) kS) ?_
  refine oaloadN X8 hx hby d18_75 rfl rfl ?_
  exact own_retA X8 hx hlk hret rfl rfl (hb hby d18_76) (by decide) (by decide) (by rw [e8]; exact ⟨rfl, N8, K8, (Exa.wr W8 (Exa.wr W7 E_1)), (Fld.other W8 (Fld.other W7 Fv (Or.inr (slot_ne (Or.inl (own_w hw 34 rfl)) (Or.inl (own_w hw 67 rfl)) (by decide) (t := (.array .byte)) (t' := .int) (by decide) (by decide)))) (Or.inl ne1A)), (Fld.other W8 (Fld.other W7 Fc (Or.inr (slot_ne (Or.inl (own_w hw 36 rfl)) (Or.inl (own_w hw 67 rfl)) (by decide) (t := .byte) (t' := .int) (by decide) (by decide)))) (Or.inl ne1A)), (Fld.other W8 Fw7 (Or.inl ne1A)), (Fld.other W8 (Fld.other W7 Fm (Or.inr (slot_ne (Or.inl (own_w hw 204 rfl)) (Or.inl (own_w hw 67 rfl)) (by decide) (t := .boolean) (t' := .int) (by decide) (by decide)))) (Or.inl ne1A)), R8⟩)
theorem d17_0 : dk B20 0 (.aload_n 0) 1 := by decide +kernel
theorem d17_1 : dk B20 1 (.iload_n 1) 1 := by decide +kernel
theorem d17_2 : dk B20 2 (.invokespecial 50) 3 := by decide +kernel
theorem d17_5 : dk B20 5 (.pop) 1 := by decide +kernel
theorem d17_6 : dk B20 6 (.aload_n 0) 1 := by decide +kernel
theorem d17_7 : dk B20 7 (.areturn) 1 := by decide +kernel
theorem pn_17 : plainName "java/lang/StringBuilder" = true := by first | (simp [plainName, overriddenIn]; done) | decide +kernel
theorem own_pd14 : parseMethodDescriptor "(C)Ljava/lang/AbstractStringBuilder;" = some ⟨[.char], some (.object "java/lang/AbstractStringBuilder")⟩ := by decide +kernel
theorem ef_sbApp_1_0_0_L (m : MethodId) (x0 : Addr) (x1 : Int32) : entryFrame m #[(.ref x0), (.int x1)] 2 = mkF m 0 #[.val (.ref x0), .val (.int x1)] [] := by first | (simp [entryFrame, mkF, argsToLocals, Value.category]; done) | rfl
def Q_sbApp_1_0_0_L (Z : State) (a1 : Addr) (tA : Addr) (kA : ClassId) (c1 : Int32) (y0 : Int32) (zCS : Int32) (fm : Value) (h0 : Heap) (n0 : Nat) (v : Option Value) (h : Heap) (L : List Loc) : Prop := v = some (.ref a1) ∧ Fr n0 L ∧ Keep h0 h [a1, tA] ∧ ek20 Z h a1 ∧ fk11 Z h a1 (.ref tA) ∧ fk12 Z h a1 (.int 0) ∧ fk13 Z h a1 (.int 1) ∧ fk14 Z h a1 (.int 0) ∧ Arv Z h tA kA .byte (1 : Int32) [(.int (nar .byte (c1.toInt8.toInt32)))] (.int 0)
theorem rm_sbApp_1_0_0_L (l : Launch) (Z : State) (a0 : Array Value) (hw : HW a0 Z) (ws : List Jvm.Cond) (a1 : Addr) (tA : Addr) (kA : ClassId) (c1 : Int32) (y0 : Int32) (zCS : Int32) (fm : Value) (h0 : Heap) (n0 : Nat) (Z0 : n0 ≤ h0.size) (O0 : Old Z n0 h0) (E_1 : ek20 Z h0 a1) (g_1 : n0 ≤ a1) (Fv : fk11 Z h0 a1 (.ref tA)) (Fc : fk12 Z h0 a1 (.int 0)) (Fn : fk13 Z h0 a1 (.int 0)) (Fm : fk14 Z h0 a1 (.int 0)) (ne1A : a1 ≠ tA) (R_A : Arv Z h0 tA kA .byte (1 : Int32) [(.int y0)] (.int 0)) (g_A : n0 ≤ tA) (S_CS : sk0 Z Z.heap (.int zCS)) (P_CS : ¬ zCS = 0) (S_SF : sk4 Z Z.heap fm) (P_SF : fm.isRef = true) (S_AD : sk1 Z Z.heap (.int 1)) (S_HI : sk2 Z Z.heap (.int 0)) (S_LO : sk3 Z Z.heap (.int 8)) (hcc : ¬ ((255 : Int32) < c1)) :
    M20 l ws (rmk 2 0 0 27) Z #[(.ref a1), (.int c1)] h0 (Q_sbApp_1_0_0_L Z a1 tA kA c1 y0 zCS fm h0 n0) := by
  refine own_go "java/lang/StringBuilder" rfl (plainFor_of_name pn_17) (fun m => ef_sbApp_1_0_0_L m a1 c1) (fun p e s m below meth c s₁ hx hby hml hown hnm hlk hret hZ X0 e0 => ?_)
  have N0 := Fr.nil n0
  have K0 := Keep.refl h0 [a1, tA]
  show gs s₁ m 0 #[vr a1, vi c1] []
  refine oaloadN X0 hx hby d17_0 rfl rfl ?_
  refine oiloadN X0 hx hby d17_1 rfl ?_
  show gs s₁ m 2 #[vr a1, vi c1] [(.int c1), (.ref a1)]
  obtain ⟨_, _, ⟨T1, L1, k1, n1⟩, -, X1, ⟨Lc1, hQ1, l1, y1, z1⟩, st1⟩ := superBack X0 hx hZ (y := (⟨"java/lang/AbstractStringBuilder", "append", "(C)Ljava/lang/AbstractStringBuilder;"⟩ : MethodName)) hown (own_w hw 118 rfl) (own_same (own_w hw 55 rfl) rfl (own_w hw 119 rfl) (by decide)) (own_w hw 119 rfl) (own_w hw 64 rfl) (by decide) (backOf (W := 0) (rm_asbApp_1_0_0_L l Z a0 hw [] a1 tA kA c1 y0 zCS fm h0 n0 Z0 O0 E_1 g_1 Fv Fc Fn Fm ne1A R_A g_A S_CS P_CS S_SF P_SF S_AD S_HI S_LO hcc) hZ (own_w hw 121 rfl) (own_w hw 26 rfl) (by decide) (by decide)) e0 (Ins.self E_1) (g := (mkF m 2 #[vr a1, vi c1] [(.int c1), (.ref a1)])) rfl (by rw [hml]; rfl) (own_w hw 121 rfl) (argsL := [(.int c1)]) (rest := []) (lenOf own_pd14 rfl) rfl (by show 2 * 0 + _ ≤ _; exact Nat.le_of_eq rfl) (hb hby d17_2) (fun _ _ => ⟨rfl, e0, (by decide : 0 + 0 ≤ _), (by decide : 0 + 0 ≤ _)⟩)
  dsimp only [Pt.U, Pt.locs, Pt.cells, Pt.slots] at X1 l1 y1 z1 st1 hQ1
  subst l1 y1 z1
  obtain ⟨rfl, Nq1, Kc1, P1_0, P1_1, P1_2, P1_3, P1_4, P1_5⟩ := hQ1
  have N1 := Fr.app N0 Nq1
  have K1 := K0.trans Kc1 (allS (Or.inl (List.mem_of_getElem? (i := 0) rfl)) (allS (Or.inl (List.mem_of_getElem? (i := 1) rfl)) all0))
  have O1 := O0.keep Kc1 (allS g_1 (allS g_A all0))
  refine own_tr st1 ?_
  show gs T1 m 5 #[vr a1, vi c1] [(.ref a1)]
  refine own_st (fun _ kS => XT.pop X1.here hx rfl (hb hby d17_5) rfl rfl kS) ?_
  refine oaloadN X1 hx hby d17_6 rfl rfl ?_
  exact own_retA X1 hx hlk hret rfl rfl (hb hby d17_7) (by decide) (by decide) (show Q_sbApp_1_0_0_L Z a1 tA kA c1 y0 zCS fm h0 n0 _ _ _ from ⟨rfl, N1, K1, P1_0, P1_1, P1_2, P1_3, P1_4, P1_5⟩)
theorem own_pd15 : parseMethodDescriptor "()V" = some ⟨[], none⟩ := by decide +kernel
theorem ef_asbApp_1_0_0_U (m : MethodId) (x0 : Addr) (x1 : Int32) : entryFrame m #[(.ref x0), (.int x1)] 2 = mkF m 0 #[.val (.ref x0), .val (.int x1)] [] := by first | (simp [entryFrame, mkF, argsToLocals, Value.category]; done) | rfl
def Q_asbApp_1_0_0_U (Z : State) (a1 : Addr) (tA : Addr) (kA : ClassId) (c1 : Int32) (y0 : Int32) (zCS : Int32) (fm : Value) (h0 : Heap) (n0 : Nat) (v : Option Value) (h : Heap) (L : List Loc) : Prop := ∃ tN : Addr, ∃ kN : ClassId, v = some (.ref a1) ∧ Fr n0 L ∧ Keep h0 h [a1] ∧ h0.size ≤ tN ∧ ek19 Z h tN ∧ ek20 Z h a1 ∧ fk11 Z h a1 (.ref tN) ∧ fk12 Z h a1 (.int 1) ∧ fk13 Z h a1 (.int 1) ∧ fk14 Z h a1 (.int 0) ∧ Arv Z h tN kN .byte (2 : Int32) [(.int (nar .byte ((c1 >>> ((0 : Int32) &&& 31)).toInt8.toInt32))), (.int (nar .byte ((c1 >>> ((8 : Int32) &&& 31)).toInt8.toInt32)))] (.int 0)
theorem rm_asbApp_1_0_0_U (l : Launch) (Z : State) (a0 : Array Value) (hw : HW a0 Z) (ws : List Jvm.Cond) (a1 : Addr) (tA : Addr) (kA : ClassId) (c1 : Int32) (y0 : Int32) (zCS : Int32) (fm : Value) (h0 : Heap) (n0 : Nat) (Z0 : n0 ≤ h0.size) (O0 : Old Z n0 h0) (E_1 : ek20 Z h0 a1) (g_1 : n0 ≤ a1) (Fv : fk11 Z h0 a1 (.ref tA)) (Fc : fk12 Z h0 a1 (.int 0)) (Fn : fk13 Z h0 a1 (.int 0)) (Fm : fk14 Z h0 a1 (.int 0)) (ne1A : a1 ≠ tA) (R_A : Arv Z h0 tA kA .byte (1 : Int32) [(.int y0)] (.int 0)) (g_A : n0 ≤ tA) (S_CS : sk0 Z Z.heap (.int zCS)) (P_CS : ¬ zCS = 0) (S_SF : sk4 Z Z.heap fm) (P_SF : fm.isRef = true) (S_AD : sk1 Z Z.heap (.int 1)) (S_HI : sk2 Z Z.heap (.int 0)) (S_LO : sk3 Z Z.heap (.int 8)) (hcc : (255 : Int32) < c1) :
    M19 l ws (rmk 6 1 2 89) Z #[(.ref a1), (.int c1)] h0 (Q_asbApp_1_0_0_U Z a1 tA kA c1 y0 zCS fm h0 n0) := by
  refine own_go "java/lang/AbstractStringBuilder" rfl (plainFor_of_name pn_18) (fun m => ef_asbApp_1_0_0_U m a1 c1) (fun p e s m below meth c s₁ hx hby hml hown hnm hlk hret hZ X0 e0 => ?_)
  have N0 := Fr.nil n0
  have K0 := Keep.refl h0 [a1]
  show gs s₁ m 0 #[vr a1, vi c1] []
  refine oaloadN X0 hx hby d18_0 rfl rfl ?_
  refine oaloadN X0 hx hby d18_1 rfl rfl ?_
  obtain ⟨T1, X1, e1, st1⟩ := getF X0 hx hZ hown (host := "") (Or.inl (own_w hw 66 rfl)) Via.refl e0 Fn (g := (mkF m 2 #[vr a1, vi c1] [(.ref a1), (.ref a1)])) rfl rfl (hb hby d18_2)
  refine own_st st1 ?_
  show gs T1 m 5 #[vr a1, vi c1] [(.int 0), (.ref a1)]
  refine oiconst X1 hx hby d18_5 ?_
  refine own_st (fun _ kS => XS.iadd X1.here hx rfl (hb hby d18_6) rfl kS) ?_
  show gs T1 m 7 #[vr a1, vi c1] [(.int 1), (.ref a1)]
  obtain ⟨cq2, q2, q2'⟩ := E_1.cell
  obtain ⟨_, _, ⟨T2, L2, k2, n2⟩, -, X2, ⟨Lc2, hQ2, l2, y2, z2⟩, st2⟩ := X1.privateBack hx (y := (⟨"java/lang/AbstractStringBuilder", "ensureCapacityInternal", "(I)V"⟩ : MethodName)) hown (mvT hZ (own_w hw 122 rfl)) (mvT hZ (own_w hw 123 rfl)) (own_selp2 (mvT hZ (own_w hw 125 rfl)) (Cond.privateMethod_at (mvP hZ (own_w hw 124 rfl) (args := #[]))) (mvT hZ (own_w hw 123 rfl)) (by decide)) (Cond.privateMethod_at (mvP hZ (own_w hw 124 rfl) (args := #[]))) (mvT hZ (own_w hw 126 rfl)) (by decide) (backOf (W := 0) (rm_ens_1_0_1 l Z a0 hw [] a1 tA kA y0 h0 n0 Z0  Fv Fc R_A) hZ (own_w hw 126 rfl) (own_w hw 26 rfl) (by decide) (by decide)) (g := (mkF m 7 #[vr a1, vi c1] [(.int 1), (.ref a1)])) rfl (by rw [hml]; rfl) (Steps.refl _) (a := a1) (by rw [e1]; exact q2) q2' (argsL := [(.int 1)]) (rest := []) (lenOf own_pd0 rfl) rfl (by show 2 * 0 + _ ≤ _; exact Nat.le_of_eq rfl) (hb hby d18_7) (fun _ _ => ⟨rfl, e1, (by decide : 0 + 0 ≤ _), (by decide : 0 + 0 ≤ _)⟩)
  dsimp only [Pt.U, Pt.locs, Pt.cells, Pt.slots] at X2 l2 y2 z2 st2 hQ2
  subst l2 y2 z2
  obtain ⟨rfl, Nq2, eq2⟩ := hQ2
  have N2 := Fr.app N0 Nq2
  refine own_tr st2 ?_
  show gs T2 m 10 #[vr a1, vi c1] []
  refine oaloadN X2 hx hby d18_10 rfl rfl ?_
  refine oV 0 X2 hx hZ hby hml hown (own_w hw 127 rfl) (own_w hw 69 rfl) (own_w hw 71 rfl) (own_w hw 70 rfl) (rm_asbLat0 l Z a0 hw [] a1 zCS h0 n0 Z0 O0 S_CS P_CS Fc) (own_w hw 72 rfl) (own_w hw 26 rfl) eq2 E_1 (by decide) own_pd11 d18_11 rfl rfl rfl (fun T3 L3 v3 X3 hQ3 => ?_)
  obtain ⟨rfl, Nq3, eq3⟩ := hQ3
  have N3 := Fr.app N2 Nq3
  show gs T3 m 14 #[vr a1, vi c1] [(.int 1)]
  refine own_st (fun _ kS => XS.ifNo X3.here hx rfl (hb hby d18_14) rfl ((if0 _ _).trans (feq (by decide : ¬ ((1 : Int32) = (0 : Int32)))).1) kS) ?_
  show gs T3 m 17 #[vr a1, vi c1] []
  refine oiloadN X3 hx hby d18_17 rfl ?_
  refine oS 0 X3 hx hZ hby hml hown (own_w hw 128 rfl) (own_w hw 129 rfl) (own_w hw 130 rfl) (own_w hw 131 rfl) (rm_canEnc0 l Z a0 hw [] c1 h0 n0 Z0  hcc) eq3 (by decide) own_pd13 d18_18 rfl rfl rfl (fun T4 L4 v4 X4 hQ4 => ?_)
  obtain ⟨rfl, Nq4, eq4⟩ := hQ4
  have N4 := Fr.app N3 Nq4
  show gs T4 m 21 #[vr a1, vi c1] [(.int 0)]
  refine own_st (fun _ kS => XS.ifYes X4.here hx rfl (pc0 := 21) (pc' := 45) rfl (hb hby d18_21) rfl ((if0 _ _).trans (teq (by decide : (0 : Int32) = (0 : Int32))).1) (by decide) (by decide) kS) ?_
  show gs T4 m 45 #[vr a1, vi c1] []
  refine oaloadN X4 hx hby d18_45 rfl rfl ?_
  refine oV 0 X4 hx hZ hby hml hown (own_w hw 127 rfl) (own_w hw 69 rfl) (own_w hw 71 rfl) (own_w hw 70 rfl) (rm_asbLat0 l Z a0 hw [] a1 zCS h0 n0 Z0 O0 S_CS P_CS Fc) (own_w hw 72 rfl) (own_w hw 26 rfl) eq4 E_1 (by decide) own_pd11 d18_46 rfl rfl rfl (fun T5 L5 v5 X5 hQ5 => ?_)
  obtain ⟨rfl, Nq5, eq5⟩ := hQ5
  have N5 := Fr.app N4 Nq5
  show gs T5 m 49 #[vr a1, vi c1] [(.int 1)]
  refine own_st (fun _ kS => XS.ifNo X5.here hx rfl (hb hby d18_49) rfl ((if0 _ _).trans (feq (by decide : ¬ ((1 : Int32) = (0 : Int32)))).1) kS) ?_
  show gs T5 m 52 #[vr a1, vi c1] []
  refine oaloadN X5 hx hby d18_52 rfl rfl ?_
  show gs T5 m 53 #[vr a1, vi c1] [(.ref a1)]
  obtain ⟨cq6, q6, q6'⟩ := E_1.cell
  obtain ⟨_, _, ⟨T6, L6, k6, n6⟩, -, X6, ⟨Lc6, hQ6, l6, y6, z6⟩, st6⟩ := X5.privateBack hx (y := (⟨"java/lang/AbstractStringBuilder", "inflate", "()V"⟩ : MethodName)) hown (mvT hZ (own_w hw 159 rfl)) (mvT hZ (own_w hw 160 rfl)) (own_selp2 (mvT hZ (own_w hw 162 rfl)) (Cond.privateMethod_at (mvP hZ (own_w hw 161 rfl) (args := #[]))) (mvT hZ (own_w hw 160 rfl)) (by decide)) (Cond.privateMethod_at (mvP hZ (own_w hw 161 rfl) (args := #[]))) (mvT hZ (own_w hw 163 rfl)) (by decide) (backOf (W := 0) (rm_infl_1_0 l Z a0 hw [] a1 tA kA y0 zCS fm h0 n0 Z0 O0 E_1 g_1 Fv Fc Fn Fm ne1A R_A S_CS P_CS S_SF P_SF S_AD S_HI S_LO) hZ (own_w hw 163 rfl) (own_w hw 26 rfl) (by decide) (by decide)) (g := (mkF m 53 #[vr a1, vi c1] [(.ref a1)])) rfl (by rw [hml]; rfl) (Steps.refl _) (a := a1) (by rw [eq5]; exact q6) q6' (argsL := []) (rest := []) (lenOf own_pd15 rfl) rfl (by show 2 * 0 + _ ≤ _; exact Nat.le_of_eq rfl) (hb hby d18_53) (fun _ _ => ⟨rfl, eq5, (by decide : 0 + 1 ≤ _), (by decide : 0 + 2 ≤ _)⟩)
  dsimp only [Pt.U, Pt.locs, Pt.cells, Pt.slots] at X6 l6 y6 z6 st6 hQ6
  subst l6 y6 z6
  obtain ⟨tN_6, kN_6, rfl, Nq6, Kc6, P6_0, P6_1, P6_2, P6_3, P6_4, P6_5, P6_6, P6_7⟩ := hQ6
  have N6 := Fr.app N5 Nq6
  have ne_a1_tN_6 : a1 ≠ tN_6 := Nat.ne_of_lt (Nat.lt_of_lt_of_le E_1.lt P6_0)
  have ne_tA_tN_6 : tA ≠ tN_6 := Nat.ne_of_lt (Nat.lt_of_lt_of_le R_A.lt P6_0)
  have ge_tN_6 : n0 ≤ tN_6 := Nat.le_trans Z0 P6_0
  have sz_tN_6 : h0.size ≤ tN_6 := Nat.le_trans K0.1 P6_0
  have K6 := K0.trans Kc6 (allS (Or.inl (List.mem_of_getElem? (i := 0) rfl)) all0)
  have O6 := O0.keep Kc6 (allS g_1 all0)
  refine own_tr st6 ?_
  show gs T6 m 56 #[vr a1, vi c1] []
  refine oaloadN X6 hx hby d18_56 rfl rfl ?_
  obtain ⟨T7, X7, e7, st7⟩ := getF X6 hx hZ hown (host := "") (Or.inl (own_w hw 33 rfl)) Via.refl rfl P6_3 (g := (mkF m 57 #[vr a1, vi c1] [(.ref a1)])) rfl rfl (hb hby d18_57)
  refine own_st st7 ?_
  show gs T7 m 60 #[vr a1, vi c1] [(.ref tN_6)]
  refine oaloadN X7 hx hby d18_60 rfl rfl ?_
  refine own_st (fun _ kS => XS.dup X7.here hx rfl (hb hby d18_61) rfl rfl kS) ?_
  show gs T7 m 62 #[vr a1, vi c1] [(.ref a1), (.ref a1), (.ref tN_6)]
  obtain ⟨T8, X8, e8, st8⟩ := getF X7 hx hZ hown (host := "") (Or.inl (own_w hw 66 rfl)) Via.refl e7 P6_5 (g := (mkF m 62 #[vr a1, vi c1] [(.ref a1), (.ref a1), (.ref tN_6)])) rfl rfl (hb hby d18_62)
  refine own_st st8 ?_
  show gs T8 m 65 #[vr a1, vi c1] [(.int 0), (.ref a1), (.ref tN_6)]
  refine own_st (fun _ kS => XT.dupX1 X8.here hx rfl (hb hby d18_65) rfl rfl rfl kS) ?_
  show gs T8 m 66 #[vr a1, vi c1] [(.int 0), (.ref a1), (.int 0), (.ref tN_6)]
  refine oiconst X8 hx hby d18_66 ?_
  refine own_st (fun _ kS => XS.iadd X8.here hx rfl (hb hby d18_67) rfl kS) ?_
  show gs T8 m 68 #[vr a1, vi c1] [(.int 1), (.ref a1), (.int 0), (.ref tN_6)]
  obtain ⟨T9, h9, X9, e9, W9, st9⟩ := putF X8 hx hZ hown (host := "") (Or.inl (own_w hw 66 rfl)) Via.refl e8 P6_5 P6_2 (Or.inl (own_w hw 67 rfl)) (own_w hw 15 rfl) (ty := .int) (by decide) rfl rfl (g := (mkF m 68 #[vr a1, vi c1] [(.int 1), (.ref a1), (.int 0), (.ref tN_6)])) rfl rfl (hb hby d18_68)
  refine own_st st9 ?_
  have N9 := Fr.snoc X9 N6 g_1
  have K9 := K6.wr W9 (Or.inl (List.mem_of_getElem? (i := 0) rfl))
  have O9 := O6.wr W9 g_1
  have Fw9 := Fld.same W9 P6_5
  show gs T9 m 71 #[vr a1, vi c1] [(.int 0), (.ref tN_6)]
  refine oiloadN X9 hx hby d18_71 rfl ?_
  refine oS 0 X9 hx hZ hby hml hown (own_w hw 190 rfl) (own_w hw 191 rfl) (own_w hw 166 rfl) (own_w hw 192 rfl) (rm_putSB_0_1 l Z a0 hw [] tN_6 kN_6 c1 (0 : Int32) (0 : Int32) fm h9 n0 (Nat.le_trans (Nat.le_trans Z0 Kc6.1) (Keep.of_wr W9).1) O9 (P6_7.other W9 (Ne.symm ne_a1_tN_6)) ge_tN_6 S_AD S_HI S_LO S_SF P_SF) e9 (by decide) own_pd5 d18_72 rfl rfl rfl (fun T10 L10 v10 X10 hQ10 => ?_)
  obtain ⟨rfl, Nq10, Kc10, P10_0⟩ := hQ10
  have N10 := Fr.app N9 Nq10
  have K10 := K9.trans Kc10 (allS (Or.inr sz_tN_6) all0)
  have O10 := O9.keep Kc10 (allS ge_tN_6 all0)
  show gs T10 m 75 #[vr a1, vi c1] []
  refine oaloadN X10 hx hby d18_75 rfl rfl ?_
  exact own_retA X10 hx hlk hret rfl rfl (hb hby d18_76) (by decide) (by decide) (show Q_asbApp_1_0_0_U Z a1 tA kA c1 y0 zCS fm h0 n0 _ _ _ from ⟨tN_6, kN_6, ⟨rfl, N10, K10, sz_tN_6, ((Exa.wr W9 P6_1).keep Kc10), ((Exa.wr W9 P6_2).keep Kc10), ((Fld.other W9 P6_3 (Or.inr (slot_ne (Or.inl (own_w hw 34 rfl)) (Or.inl (own_w hw 67 rfl)) (by decide) (t := (.array .byte)) (t' := .int) (by decide) (by decide)))).keep Kc10 (ninS ne_a1_tN_6 nin0)), ((Fld.other W9 P6_4 (Or.inr (slot_ne (Or.inl (own_w hw 36 rfl)) (Or.inl (own_w hw 67 rfl)) (by decide) (t := .byte) (t' := .int) (by decide) (by decide)))).keep Kc10 (ninS ne_a1_tN_6 nin0)), (Fw9.keep Kc10 (ninS ne_a1_tN_6 nin0)), ((Fld.other W9 P6_6 (Or.inr (slot_ne (Or.inl (own_w hw 204 rfl)) (Or.inl (own_w hw 67 rfl)) (by decide) (t := .boolean) (t' := .int) (by decide) (by decide)))).keep Kc10 (ninS ne_a1_tN_6 nin0)), P10_0⟩⟩)
theorem ef_sbApp_1_0_0_U (m : MethodId) (x0 : Addr) (x1 : Int32) : entryFrame m #[(.ref x0), (.int x1)] 2 = mkF m 0 #[.val (.ref x0), .val (.int x1)] [] := by first | (simp [entryFrame, mkF, argsToLocals, Value.category]; done) | rfl
def Q_sbApp_1_0_0_U (Z : State) (a1 : Addr) (tA : Addr) (kA : ClassId) (c1 : Int32) (y0 : Int32) (zCS : Int32) (fm : Value) (h0 : Heap) (n0 : Nat) (v : Option Value) (h : Heap) (L : List Loc) : Prop := ∃ tN : Addr, ∃ kN : ClassId, v = some (.ref a1) ∧ Fr n0 L ∧ Keep h0 h [a1] ∧ h0.size ≤ tN ∧ ek19 Z h tN ∧ ek20 Z h a1 ∧ fk11 Z h a1 (.ref tN) ∧ fk12 Z h a1 (.int 1) ∧ fk13 Z h a1 (.int 1) ∧ fk14 Z h a1 (.int 0) ∧ Arv Z h tN kN .byte (2 : Int32) [(.int (nar .byte ((c1 >>> ((0 : Int32) &&& 31)).toInt8.toInt32))), (.int (nar .byte ((c1 >>> ((8 : Int32) &&& 31)).toInt8.toInt32)))] (.int 0)
theorem rm_sbApp_1_0_0_U (l : Launch) (Z : State) (a0 : Array Value) (hw : HW a0 Z) (ws : List Jvm.Cond) (a1 : Addr) (tA : Addr) (kA : ClassId) (c1 : Int32) (y0 : Int32) (zCS : Int32) (fm : Value) (h0 : Heap) (n0 : Nat) (Z0 : n0 ≤ h0.size) (O0 : Old Z n0 h0) (E_1 : ek20 Z h0 a1) (g_1 : n0 ≤ a1) (Fv : fk11 Z h0 a1 (.ref tA)) (Fc : fk12 Z h0 a1 (.int 0)) (Fn : fk13 Z h0 a1 (.int 0)) (Fm : fk14 Z h0 a1 (.int 0)) (ne1A : a1 ≠ tA) (R_A : Arv Z h0 tA kA .byte (1 : Int32) [(.int y0)] (.int 0)) (g_A : n0 ≤ tA) (S_CS : sk0 Z Z.heap (.int zCS)) (P_CS : ¬ zCS = 0) (S_SF : sk4 Z Z.heap fm) (P_SF : fm.isRef = true) (S_AD : sk1 Z Z.heap (.int 1)) (S_HI : sk2 Z Z.heap (.int 0)) (S_LO : sk3 Z Z.heap (.int 8)) (hcc : (255 : Int32) < c1) :
    M20 l ws (rmk 7 1 2 102) Z #[(.ref a1), (.int c1)] h0 (Q_sbApp_1_0_0_U Z a1 tA kA c1 y0 zCS fm h0 n0) := by
  refine own_go "java/lang/StringBuilder" rfl (plainFor_of_name pn_17) (fun m => ef_sbApp_1_0_0_U m a1 c1) (fun p e s m below meth c s₁ hx hby hml hown hnm hlk hret hZ X0 e0 => ?_)
  have N0 := Fr.nil n0
  have K0 := Keep.refl h0 [a1]
  show gs s₁ m 0 #[vr a1, vi c1] []
  refine oaloadN X0 hx hby d17_0 rfl rfl ?_
  refine oiloadN X0 hx hby d17_1 rfl ?_
  show gs s₁ m 2 #[vr a1, vi c1] [(.int c1), (.ref a1)]
  obtain ⟨_, _, ⟨T1, L1, k1, n1⟩, -, X1, ⟨Lc1, hQ1, l1, y1, z1⟩, st1⟩ := superBack X0 hx hZ (y := (⟨"java/lang/AbstractStringBuilder", "append", "(C)Ljava/lang/AbstractStringBuilder;"⟩ : MethodName)) hown (own_w hw 118 rfl) (own_same (own_w hw 55 rfl) rfl (own_w hw 119 rfl) (by decide)) (own_w hw 119 rfl) (own_w hw 64 rfl) (by decide) (backOf (W := 0) (rm_asbApp_1_0_0_U l Z a0 hw [] a1 tA kA c1 y0 zCS fm h0 n0 Z0 O0 E_1 g_1 Fv Fc Fn Fm ne1A R_A g_A S_CS P_CS S_SF P_SF S_AD S_HI S_LO hcc) hZ (own_w hw 121 rfl) (own_w hw 26 rfl) (by decide) (by decide)) e0 (Ins.self E_1) (g := (mkF m 2 #[vr a1, vi c1] [(.int c1), (.ref a1)])) rfl (by rw [hml]; rfl) (own_w hw 121 rfl) (argsL := [(.int c1)]) (rest := []) (lenOf own_pd14 rfl) rfl (by show 2 * 0 + _ ≤ _; exact Nat.le_of_eq rfl) (hb hby d17_2) (fun _ _ => ⟨rfl, e0, (by decide : 0 + 1 ≤ _), (by decide : 0 + 2 ≤ _)⟩)
  dsimp only [Pt.U, Pt.locs, Pt.cells, Pt.slots] at X1 l1 y1 z1 st1 hQ1
  subst l1 y1 z1
  obtain ⟨tN_1, kN_1, rfl, Nq1, Kc1, P1_0, P1_1, P1_2, P1_3, P1_4, P1_5, P1_6, P1_7⟩ := hQ1
  have N1 := Fr.app N0 Nq1
  have ne_a1_tN_1 : a1 ≠ tN_1 := Nat.ne_of_lt (Nat.lt_of_lt_of_le E_1.lt P1_0)
  have ne_tA_tN_1 : tA ≠ tN_1 := Nat.ne_of_lt (Nat.lt_of_lt_of_le R_A.lt P1_0)
  have ge_tN_1 : n0 ≤ tN_1 := Nat.le_trans Z0 P1_0
  have sz_tN_1 : h0.size ≤ tN_1 := Nat.le_trans K0.1 P1_0
  have K1 := K0.trans Kc1 (allS (Or.inl (List.mem_of_getElem? (i := 0) rfl)) all0)
  have O1 := O0.keep Kc1 (allS g_1 all0)
  refine own_tr st1 ?_
  show gs T1 m 5 #[vr a1, vi c1] [(.ref a1)]
  refine own_st (fun _ kS => XT.pop X1.here hx rfl (hb hby d17_5) rfl rfl kS) ?_
  refine oaloadN X1 hx hby d17_6 rfl rfl ?_
  exact own_retA X1 hx hlk hret rfl rfl (hb hby d17_7) (by decide) (by decide) (show Q_sbApp_1_0_0_U Z a1 tA kA c1 y0 zCS fm h0 n0 _ _ _ from ⟨tN_1, kN_1, ⟨rfl, N1, K1, sz_tN_1, P1_1, P1_2, P1_3, P1_4, P1_5, P1_6, P1_7⟩⟩)
theorem ef_ens_2_0_1 (m : MethodId) (x0 : Addr) : entryFrame m #[(.ref x0), (.int 1)] 3 = mkF m 0 #[.val (.ref x0), .val (.int 1), .unset] [] := by first | (simp [entryFrame, mkF, argsToLocals, Value.category]; done) | rfl
def Q_ens_2_0_1 (Z : State) (a1 : Addr) (tA : Addr) (kA : ClassId) (y0 : Int32) (y1 : Int32) (h0 : Heap) (n0 : Nat) (v : Option Value) (h : Heap) (L : List Loc) : Prop := v = none ∧ Fr n0 L ∧ h = h0
theorem rm_ens_2_0_1 (l : Launch) (Z : State) (a0 : Array Value) (hw : HW a0 Z) (ws : List Jvm.Cond) (a1 : Addr) (tA : Addr) (kA : ClassId) (y0 : Int32) (y1 : Int32) (h0 : Heap) (n0 : Nat) (Z0 : n0 ≤ h0.size) (Fv : fk11 Z h0 a1 (.ref tA)) (Fc : fk12 Z h0 a1 (.int 0)) (R_A : Arv Z h0 tA kA .byte (2 : Int32) [(.int y0), (.int y1)] (.int 0)) :
    M18 l ws (rmk 0 0 0 0) Z #[(.ref a1), (.int 1)] h0 (Q_ens_2_0_1 Z a1 tA kA y0 y1 h0 n0) := by
  refine own_go "java/lang/AbstractStringBuilder" rfl (plainFor_of_name pn_19) (fun m => ef_ens_2_0_1 m a1) (fun p e s m below meth c s₁ hx hby hml hown hnm hlk hret hZ X0 e0 => ?_)
  have N0 := Fr.nil n0
  show gs s₁ m 0 #[vr a1, vi 1, .unset] []
  refine oaloadN X0 hx hby d19_0 rfl rfl ?_
  obtain ⟨T1, X1, e1, st1⟩ := getF X0 hx hZ hown (host := "") (Or.inl (own_w hw 33 rfl)) Via.refl e0 Fv (g := (mkF m 1 #[vr a1, vi 1, .unset] [(.ref a1)])) rfl rfl (hb hby d19_1)
  refine own_st st1 ?_
  show gs T1 m 4 #[vr a1, vi 1, .unset] [(.ref tA)]
  obtain ⟨cl2, Ar2, qa2, qs2, qn2, qh2, qg2⟩ := id R_A
  refine own_st (fun _ kS => X1.arraylength hx (by rw [e1]; exact Ar2.1) (State.isArrayOf_alike hZ.alike Ar2.2.1) (g := (mkF m 4 #[vr a1, vi 1, .unset] [(.ref tA)])) rfl rfl (hb hby d19_4) _ kS) ?_
  rw [len_of qs2 qn2]
  show gs T1 m 5 #[vr a1, vi 1, .unset] [(.int 2)]
  refine oaloadN X1 hx hby d19_5 rfl rfl ?_
  obtain ⟨T3, X3, e3, st3⟩ := getF X1 hx hZ hown (host := "") (Or.inl (own_w hw 35 rfl)) Via.refl e1 Fc (g := (mkF m 6 #[vr a1, vi 1, .unset] [(.ref a1), (.int 2)])) rfl rfl (hb hby d19_6)
  refine own_st st3 ?_
  show gs T3 m 9 #[vr a1, vi 1, .unset] [(.int 0), (.int 2)]
  refine own_st (fun _ kS => XT.ishr X3.here hx rfl (hb hby d19_9) rfl kS) ?_
  refine own_st (fun _ kS => XS.istoreN X3.here hx rfl (hb hby d19_10) rfl (l' := #[vr a1, vi 1, vi 2]) rfl kS) ?_
  refine oiloadN X3 hx hby d19_11 rfl ?_
  refine oiloadN X3 hx hby d19_12 rfl ?_
  refine own_st (fun _ kS => XS.isub X3.here hx rfl (hb hby d19_13) rfl kS) ?_
  show gs T3 m 14 #[vr a1, vi 1, vi 2] [(.int (-1))]
  refine own_st (fun _ kS => XS.ifYes X3.here hx rfl (pc0 := 14) (pc' := 38) rfl (hb hby d19_14) rfl ((if0 _ _).trans (flt (by decide : ¬ ((0 : Int32) < (-1 : Int32)))).2.2.2) (by decide) (by decide) kS) ?_
  show gs T3 m 38 #[vr a1, vi 1, vi 2] []
  exact own_retV X3 hx hlk hret (hb hby d19_38) (by decide) (by decide) (by rw [e3]; exact ⟨rfl, N0, rfl⟩)
theorem ef_asbApp_2_0_0_L (m : MethodId) (x0 : Addr) (x1 : Int32) : entryFrame m #[(.ref x0), (.int x1)] 2 = mkF m 0 #[.val (.ref x0), .val (.int x1)] [] := by first | (simp [entryFrame, mkF, argsToLocals, Value.category]; done) | rfl
def Q_asbApp_2_0_0_L (Z : State) (a1 : Addr) (tA : Addr) (kA : ClassId) (c1 : Int32) (y0 : Int32) (y1 : Int32) (zCS : Int32) (fm : Value) (h0 : Heap) (n0 : Nat) (v : Option Value) (h : Heap) (L : List Loc) : Prop := v = some (.ref a1) ∧ Fr n0 L ∧ Keep h0 h [a1, tA] ∧ ek20 Z h a1 ∧ fk11 Z h a1 (.ref tA) ∧ fk12 Z h a1 (.int 0) ∧ fk13 Z h a1 (.int 1) ∧ fk14 Z h a1 (.int 0) ∧ Arv Z h tA kA .byte (2 : Int32) [(.int (nar .byte (c1.toInt8.toInt32))), (.int y1)] (.int 0)
theorem rm_asbApp_2_0_0_L (l : Launch) (Z : State) (a0 : Array Value) (hw : HW a0 Z) (ws : List Jvm.Cond) (a1 : Addr) (tA : Addr) (kA : ClassId) (c1 : Int32) (y0 : Int32) (y1 : Int32) (zCS : Int32) (fm : Value) (h0 : Heap) (n0 : Nat) (Z0 : n0 ≤ h0.size) (O0 : Old Z n0 h0) (E_1 : ek20 Z h0 a1) (g_1 : n0 ≤ a1) (Fv : fk11 Z h0 a1 (.ref tA)) (Fc : fk12 Z h0 a1 (.int 0)) (Fn : fk13 Z h0 a1 (.int 0)) (Fm : fk14 Z h0 a1 (.int 0)) (ne1A : a1 ≠ tA) (R_A : Arv Z h0 tA kA .byte (2 : Int32) [(.int y0), (.int y1)] (.int 0)) (g_A : n0 ≤ tA) (S_CS : sk0 Z Z.heap (.int zCS)) (P_CS : ¬ zCS = 0) (S_SF : sk4 Z Z.heap fm) (P_SF : fm.isRef = true) (S_AD : sk1 Z Z.heap (.int 1)) (S_HI : sk2 Z Z.heap (.int 0)) (S_LO : sk3 Z Z.heap (.int 8)) (hcc : ¬ ((255 : Int32) < c1)) :
    M19 l ws (rmk 1 0 0 14) Z #[(.ref a1), (.int c1)] h0 (Q_asbApp_2_0_0_L Z a1 tA kA c1 y0 y1 zCS fm h0 n0) := by
  refine own_go "java/lang/AbstractStringBuilder" rfl (plainFor_of_name pn_18) (fun m => ef_asbApp_2_0_0_L m a1 c1) (fun p e s m below meth c s₁ hx hby hml hown hnm hlk hret hZ X0 e0 => ?_)
  have N0 := Fr.nil n0
  have K0 := Keep.refl h0 [a1, tA]
  show gs s₁ m 0 #[vr a1, vi c1] []
  refine oaloadN X0 hx hby d18_0 rfl rfl ?_
  refine oaloadN X0 hx hby d18_1 rfl rfl ?_
  obtain ⟨T1, X1, e1, st1⟩ := getF X0 hx hZ hown (host := "") (Or.inl (own_w hw 66 rfl)) Via.refl e0 Fn (g := (mkF m 2 #[vr a1, vi c1] [(.ref a1), (.ref a1)])) rfl rfl (hb hby d18_2)
  refine own_st st1 ?_
  show gs T1 m 5 #[vr a1, vi c1] [(.int 0), (.ref a1)]
  refine oiconst X1 hx hby d18_5 ?_
  refine own_st (fun _ kS => XS.iadd X1.here hx rfl (hb hby d18_6) rfl kS) ?_
  show gs T1 m 7 #[vr a1, vi c1] [(.int 1), (.ref a1)]
  obtain ⟨cq2, q2, q2'⟩ := E_1.cell
  obtain ⟨_, _, ⟨T2, L2, k2, n2⟩, -, X2, ⟨Lc2, hQ2, l2, y2, z2⟩, st2⟩ := X1.privateBack hx (y := (⟨"java/lang/AbstractStringBuilder", "ensureCapacityInternal", "(I)V"⟩ : MethodName)) hown (mvT hZ (own_w hw 122 rfl)) (mvT hZ (own_w hw 123 rfl)) (own_selp2 (mvT hZ (own_w hw 125 rfl)) (Cond.privateMethod_at (mvP hZ (own_w hw 124 rfl) (args := #[]))) (mvT hZ (own_w hw 123 rfl)) (by decide)) (Cond.privateMethod_at (mvP hZ (own_w hw 124 rfl) (args := #[]))) (mvT hZ (own_w hw 126 rfl)) (by decide) (backOf (W := 0) (rm_ens_2_0_1 l Z a0 hw [] a1 tA kA y0 y1 h0 n0 Z0  Fv Fc R_A) hZ (own_w hw 126 rfl) (own_w hw 26 rfl) (by decide) (by decide)) (g := (mkF m 7 #[vr a1, vi c1] [(.int 1), (.ref a1)])) rfl (by rw [hml]; rfl) (Steps.refl _) (a := a1) (by rw [e1]; exact q2) q2' (argsL := [(.int 1)]) (rest := []) (lenOf own_pd0 rfl) rfl (by show 2 * 0 + _ ≤ _; exact Nat.le_of_eq rfl) (hb hby d18_7) (fun _ _ => ⟨rfl, e1, (by decide : 0 + 0 ≤ _), (by decide : 0 + 0 ≤ _)⟩)
  dsimp only [Pt.U, Pt.locs, Pt.cells, Pt.slots] at X2 l2 y2 z2 st2 hQ2
  subst l2 y2 z2
  obtain ⟨rfl, Nq2, eq2⟩ := hQ2
  have N2 := Fr.app N0 Nq2
  refine own_tr st2 ?_
  show gs T2 m 10 #[vr a1, vi c1] []
  refine oaloadN X2 hx hby d18_10 rfl rfl ?_
  refine oV 0 X2 hx hZ hby hml hown (own_w hw 127 rfl) (own_w hw 69 rfl) (own_w hw 71 rfl) (own_w hw 70 rfl) (rm_asbLat0 l Z a0 hw [] a1 zCS h0 n0 Z0 O0 S_CS P_CS Fc) (own_w hw 72 rfl) (own_w hw 26 rfl) eq2 E_1 (by decide) own_pd11 d18_11 rfl rfl rfl (fun T3 L3 v3 X3 hQ3 => ?_)
  obtain ⟨rfl, Nq3, eq3⟩ := hQ3
  have N3 := Fr.app N2 Nq3
  show gs T3 m 14 #[vr a1, vi c1] [(.int 1)]
  refine own_st (fun _ kS => XS.ifNo X3.here hx rfl (hb hby d18_14) rfl ((if0 _ _).trans (feq (by decide : ¬ ((1 : Int32) = (0 : Int32)))).1) kS) ?_
  show gs T3 m 17 #[vr a1, vi c1] []
  refine oiloadN X3 hx hby d18_17 rfl ?_
  refine oS 0 X3 hx hZ hby hml hown (own_w hw 128 rfl) (own_w hw 129 rfl) (own_w hw 130 rfl) (own_w hw 131 rfl) (rm_canEnc1 l Z a0 hw [] c1 h0 n0 Z0  hcc) eq3 (by decide) own_pd13 d18_18 rfl rfl rfl (fun T4 L4 v4 X4 hQ4 => ?_)
  obtain ⟨rfl, Nq4, eq4⟩ := hQ4
  have N4 := Fr.app N3 Nq4
  show gs T4 m 21 #[vr a1, vi c1] [(.int 1)]
  refine own_st (fun _ kS => XS.ifNo X4.here hx rfl (hb hby d18_21) rfl ((if0 _ _).trans (feq (by decide : ¬ ((1 : Int32) = (0 : Int32)))).1) kS) ?_
  show gs T4 m 24 #[vr a1, vi c1] []
  refine oaloadN X4 hx hby d18_24 rfl rfl ?_
  obtain ⟨T5, X5, e5, st5⟩ := getF X4 hx hZ hown (host := "") (Or.inl (own_w hw 33 rfl)) Via.refl eq4 Fv (g := (mkF m 25 #[vr a1, vi c1] [(.ref a1)])) rfl rfl (hb hby d18_25)
  refine own_st st5 ?_
  show gs T5 m 28 #[vr a1, vi c1] [(.ref tA)]
  refine oaloadN X5 hx hby d18_28 rfl rfl ?_
  refine own_st (fun _ kS => XS.dup X5.here hx rfl (hb hby d18_29) rfl rfl kS) ?_
  show gs T5 m 30 #[vr a1, vi c1] [(.ref a1), (.ref a1), (.ref tA)]
  obtain ⟨T6, X6, e6, st6⟩ := getF X5 hx hZ hown (host := "") (Or.inl (own_w hw 66 rfl)) Via.refl e5 Fn (g := (mkF m 30 #[vr a1, vi c1] [(.ref a1), (.ref a1), (.ref tA)])) rfl rfl (hb hby d18_30)
  refine own_st st6 ?_
  show gs T6 m 33 #[vr a1, vi c1] [(.int 0), (.ref a1), (.ref tA)]
  refine own_st (fun _ kS => XT.dupX1 X6.here hx rfl (hb hby d18_33) rfl rfl rfl kS) ?_
  show gs T6 m 34 #[vr a1, vi c1] [(.int 0), (.ref a1), (.int 0), (.ref tA)]
  refine oiconst X6 hx hby d18_34 ?_
  refine own_st (fun _ kS => XS.iadd X6.here hx rfl (hb hby d18_35) rfl kS) ?_
  show gs T6 m 36 #[vr a1, vi c1] [(.int 1), (.ref a1), (.int 0), (.ref tA)]
  obtain ⟨T7, h7, X7, e7, W7, st7⟩ := putF X6 hx hZ hown (host := "") (Or.inl (own_w hw 66 rfl)) Via.refl e6 Fn E_1 (Or.inl (own_w hw 67 rfl)) (own_w hw 15 rfl) (ty := .int) (by decide) rfl rfl (g := (mkF m 36 #[vr a1, vi c1] [(.int 1), (.ref a1), (.int 0), (.ref tA)])) rfl rfl (hb hby d18_36)
  refine own_st st7 ?_
  have N7 := Fr.snoc X7 N4 g_1
  have K7 := K0.wr W7 (Or.inl (List.mem_of_getElem? (i := 0) rfl))
  have O7 := O0.wr W7 g_1
  have Fw7 := Fld.same W7 Fn
  show gs T7 m 39 #[vr a1, vi c1] [(.int 0), (.ref tA)]
  refine oiloadN X7 hx hby d18_39 rfl ?_
  refine own_st (fun _ kS => XT.i2b X7.here hx rfl (hb hby d18_40) rfl kS) ?_
  show gs T7 m 41 #[vr a1, vi c1] [(.int (c1.toInt8.toInt32)), (.int 0), (.ref tA)]
  obtain ⟨cl8, Ar8, qa8, qs8, qn8, qh8, qg8⟩ := id (R_A.other W7 (Ne.symm ne1A))
  obtain ⟨T8, h8, X8, e8, W8, st8⟩ := stB X7 hx hZ e7 Ar8 (j := (0 : Int32)) (inb_of qs8 ⟨by decide, by decide⟩) (g := (mkF m 41 #[vr a1, vi c1] [(.int (c1.toInt8.toInt32)), (.int 0), (.ref tA)])) rfl rfl (hb hby d18_41)
  have N8 := Fr.snoc X8 N7 g_A
  have K8 := K7.wr W8 (Or.inl (List.mem_of_getElem? (i := 1) rfl))
  have O8 := O7.wr W8 g_A
  have R8 : Arv Z h8 tA kA .byte (2 : Int32) [(.int (nar .byte (c1.toInt8.toInt32))), (.int y1)] (.int 0) := Arv.set Ar8 qa8 qs8 qn8 qh8 qg8 (fits_nar_byte _) W8 0 rfl (Nat.le_of_ble_eq_true rfl)
  refine own_st st8 ?_
  show gs T8 m 42 #[vr a1, vi c1] []
  refine own_st (fun _ kS => XS.goto X8.here hx rfl (pc0 := 42) (pc' := 75) rfl (hb hby d18_42) (by decide) (by decide) kS) ?_
  refine oaloadN X8 hx hby d18_75 rfl rfl ?_
  exact own_retA X8 hx hlk hret rfl rfl (hb hby d18_76) (by decide) (by decide) (by rw [e8]; exact ⟨rfl, N8, K8, (Exa.wr W8 (Exa.wr W7 E_1)), (Fld.other W8 (Fld.other W7 Fv (Or.inr (slot_ne (Or.inl (own_w hw 34 rfl)) (Or.inl (own_w hw 67 rfl)) (by decide) (t := (.array .byte)) (t' := .int) (by decide) (by decide)))) (Or.inl ne1A)), (Fld.other W8 (Fld.other W7 Fc (Or.inr (slot_ne (Or.inl (own_w hw 36 rfl)) (Or.inl (own_w hw 67 rfl)) (by decide) (t := .byte) (t' := .int) (by decide) (by decide)))) (Or.inl ne1A)), (Fld.other W8 Fw7 (Or.inl ne1A)), (Fld.other W8 (Fld.other W7 Fm (Or.inr (slot_ne (Or.inl (own_w hw 204 rfl)) (Or.inl (own_w hw 67 rfl)) (by decide) (t := .boolean) (t' := .int) (by decide) (by decide)))) (Or.inl ne1A)), R8⟩)
theorem ef_sbApp_2_0_0_L (m : MethodId) (x0 : Addr) (x1 : Int32) : entryFrame m #[(.ref x0), (.int x1)] 2 = mkF m 0 #[.val (.ref x0), .val (.int x1)] [] := by first | (simp [entryFrame, mkF, argsToLocals, Value.category]; done) | rfl
def Q_sbApp_2_0_0_L (Z : State) (a1 : Addr) (tA : Addr) (kA : ClassId) (c1 : Int32) (y0 : Int32) (y1 : Int32) (zCS : Int32) (fm : Value) (h0 : Heap) (n0 : Nat) (v : Option Value) (h : Heap) (L : List Loc) : Prop := v = some (.ref a1) ∧ Fr n0 L ∧ Keep h0 h [a1, tA] ∧ ek20 Z h a1 ∧ fk11 Z h a1 (.ref tA) ∧ fk12 Z h a1 (.int 0) ∧ fk13 Z h a1 (.int 1) ∧ fk14 Z h a1 (.int 0) ∧ Arv Z h tA kA .byte (2 : Int32) [(.int (nar .byte (c1.toInt8.toInt32))), (.int y1)] (.int 0)
theorem rm_sbApp_2_0_0_L (l : Launch) (Z : State) (a0 : Array Value) (hw : HW a0 Z) (ws : List Jvm.Cond) (a1 : Addr) (tA : Addr) (kA : ClassId) (c1 : Int32) (y0 : Int32) (y1 : Int32) (zCS : Int32) (fm : Value) (h0 : Heap) (n0 : Nat) (Z0 : n0 ≤ h0.size) (O0 : Old Z n0 h0) (E_1 : ek20 Z h0 a1) (g_1 : n0 ≤ a1) (Fv : fk11 Z h0 a1 (.ref tA)) (Fc : fk12 Z h0 a1 (.int 0)) (Fn : fk13 Z h0 a1 (.int 0)) (Fm : fk14 Z h0 a1 (.int 0)) (ne1A : a1 ≠ tA) (R_A : Arv Z h0 tA kA .byte (2 : Int32) [(.int y0), (.int y1)] (.int 0)) (g_A : n0 ≤ tA) (S_CS : sk0 Z Z.heap (.int zCS)) (P_CS : ¬ zCS = 0) (S_SF : sk4 Z Z.heap fm) (P_SF : fm.isRef = true) (S_AD : sk1 Z Z.heap (.int 1)) (S_HI : sk2 Z Z.heap (.int 0)) (S_LO : sk3 Z Z.heap (.int 8)) (hcc : ¬ ((255 : Int32) < c1)) :
    M20 l ws (rmk 2 0 0 27) Z #[(.ref a1), (.int c1)] h0 (Q_sbApp_2_0_0_L Z a1 tA kA c1 y0 y1 zCS fm h0 n0) := by
  refine own_go "java/lang/StringBuilder" rfl (plainFor_of_name pn_17) (fun m => ef_sbApp_2_0_0_L m a1 c1) (fun p e s m below meth c s₁ hx hby hml hown hnm hlk hret hZ X0 e0 => ?_)
  have N0 := Fr.nil n0
  have K0 := Keep.refl h0 [a1, tA]
  show gs s₁ m 0 #[vr a1, vi c1] []
  refine oaloadN X0 hx hby d17_0 rfl rfl ?_
  refine oiloadN X0 hx hby d17_1 rfl ?_
  show gs s₁ m 2 #[vr a1, vi c1] [(.int c1), (.ref a1)]
  obtain ⟨_, _, ⟨T1, L1, k1, n1⟩, -, X1, ⟨Lc1, hQ1, l1, y1, z1⟩, st1⟩ := superBack X0 hx hZ (y := (⟨"java/lang/AbstractStringBuilder", "append", "(C)Ljava/lang/AbstractStringBuilder;"⟩ : MethodName)) hown (own_w hw 118 rfl) (own_same (own_w hw 55 rfl) rfl (own_w hw 119 rfl) (by decide)) (own_w hw 119 rfl) (own_w hw 64 rfl) (by decide) (backOf (W := 0) (rm_asbApp_2_0_0_L l Z a0 hw [] a1 tA kA c1 y0 y1 zCS fm h0 n0 Z0 O0 E_1 g_1 Fv Fc Fn Fm ne1A R_A g_A S_CS P_CS S_SF P_SF S_AD S_HI S_LO hcc) hZ (own_w hw 121 rfl) (own_w hw 26 rfl) (by decide) (by decide)) e0 (Ins.self E_1) (g := (mkF m 2 #[vr a1, vi c1] [(.int c1), (.ref a1)])) rfl (by rw [hml]; rfl) (own_w hw 121 rfl) (argsL := [(.int c1)]) (rest := []) (lenOf own_pd14 rfl) rfl (by show 2 * 0 + _ ≤ _; exact Nat.le_of_eq rfl) (hb hby d17_2) (fun _ _ => ⟨rfl, e0, (by decide : 0 + 0 ≤ _), (by decide : 0 + 0 ≤ _)⟩)
  dsimp only [Pt.U, Pt.locs, Pt.cells, Pt.slots] at X1 l1 y1 z1 st1 hQ1
  subst l1 y1 z1
  obtain ⟨rfl, Nq1, Kc1, P1_0, P1_1, P1_2, P1_3, P1_4, P1_5⟩ := hQ1
  have N1 := Fr.app N0 Nq1
  have K1 := K0.trans Kc1 (allS (Or.inl (List.mem_of_getElem? (i := 0) rfl)) (allS (Or.inl (List.mem_of_getElem? (i := 1) rfl)) all0))
  have O1 := O0.keep Kc1 (allS g_1 (allS g_A all0))
  refine own_tr st1 ?_
  show gs T1 m 5 #[vr a1, vi c1] [(.ref a1)]
  refine own_st (fun _ kS => XT.pop X1.here hx rfl (hb hby d17_5) rfl rfl kS) ?_
  refine oaloadN X1 hx hby d17_6 rfl rfl ?_
  exact own_retA X1 hx hlk hret rfl rfl (hb hby d17_7) (by decide) (by decide) (show Q_sbApp_2_0_0_L Z a1 tA kA c1 y0 y1 zCS fm h0 n0 _ _ _ from ⟨rfl, N1, K1, P1_0, P1_1, P1_2, P1_3, P1_4, P1_5⟩)
theorem ef_ens_2_0_2 (m : MethodId) (x0 : Addr) : entryFrame m #[(.ref x0), (.int 2)] 3 = mkF m 0 #[.val (.ref x0), .val (.int 2), .unset] [] := by first | (simp [entryFrame, mkF, argsToLocals, Value.category]; done) | rfl
def Q_ens_2_0_2 (Z : State) (a1 : Addr) (tA : Addr) (kA : ClassId) (y0 : Int32) (y1 : Int32) (h0 : Heap) (n0 : Nat) (v : Option Value) (h : Heap) (L : List Loc) : Prop := v = none ∧ Fr n0 L ∧ h = h0
theorem rm_ens_2_0_2 (l : Launch) (Z : State) (a0 : Array Value) (hw : HW a0 Z) (ws : List Jvm.Cond) (a1 : Addr) (tA : Addr) (kA : ClassId) (y0 : Int32) (y1 : Int32) (h0 : Heap) (n0 : Nat) (Z0 : n0 ≤ h0.size) (Fv : fk11 Z h0 a1 (.ref tA)) (Fc : fk12 Z h0 a1 (.int 0)) (R_A : Arv Z h0 tA kA .byte (2 : Int32) [(.int y0), (.int y1)] (.int 0)) :
    M18 l ws (rmk 0 0 0 0) Z #[(.ref a1), (.int 2)] h0 (Q_ens_2_0_2 Z a1 tA kA y0 y1 h0 n0) := by
  refine own_go "java/lang/AbstractStringBuilder" rfl (plainFor_of_name pn_19) (fun m => ef_ens_2_0_2 m a1) (fun p e s m below meth c s₁ hx hby hml hown hnm hlk hret hZ X0 e0 => ?_)
  have N0 := Fr.nil n0
  show gs s₁ m 0 #[vr a1, vi 2, .unset] []
  refine oaloadN X0 hx hby d19_0 rfl rfl ?_
  obtain ⟨T1, X1, e1, st1⟩ := getF X0 hx hZ hown (host := "") (Or.inl (own_w hw 33 rfl)) Via.refl e0 Fv (g := (mkF m 1 #[vr a1, vi 2, .unset] [(.ref a1)])) rfl rfl (hb hby d19_1)
  refine own_st st1 ?_
  show gs T1 m 4 #[vr a1, vi 2, .unset] [(.ref tA)]
  obtain ⟨cl2, Ar2, qa2, qs2, qn2, qh2, qg2⟩ := id R_A
  refine own_st (fun _ kS => X1.arraylength hx (by rw [e1]; exact Ar2.1) (State.isArrayOf_alike hZ.alike Ar2.2.1) (g := (mkF m 4 #[vr a1, vi 2, .unset] [(.ref tA)])) rfl rfl (hb hby d19_4) _ kS) ?_
  rw [len_of qs2 qn2]
  show gs T1 m 5 #[vr a1, vi 2, .unset] [(.int 2)]
  refine oaloadN X1 hx hby d19_5 rfl rfl ?_
  obtain ⟨T3, X3, e3, st3⟩ := getF X1 hx hZ hown (host := "") (Or.inl (own_w hw 35 rfl)) Via.refl e1 Fc (g := (mkF m 6 #[vr a1, vi 2, .unset] [(.ref a1), (.int 2)])) rfl rfl (hb hby d19_6)
  refine own_st st3 ?_
  show gs T3 m 9 #[vr a1, vi 2, .unset] [(.int 0), (.int 2)]
  refine own_st (fun _ kS => XT.ishr X3.here hx rfl (hb hby d19_9) rfl kS) ?_
  refine own_st (fun _ kS => XS.istoreN X3.here hx rfl (hb hby d19_10) rfl (l' := #[vr a1, vi 2, vi 2]) rfl kS) ?_
  refine oiloadN X3 hx hby d19_11 rfl ?_
  refine oiloadN X3 hx hby d19_12 rfl ?_
  refine own_st (fun _ kS => XS.isub X3.here hx rfl (hb hby d19_13) rfl kS) ?_
  show gs T3 m 14 #[vr a1, vi 2, vi 2] [(.int 0)]
  refine own_st (fun _ kS => XS.ifYes X3.here hx rfl (pc0 := 14) (pc' := 38) rfl (hb hby d19_14) rfl ((if0 _ _).trans (flt (by decide : ¬ ((0 : Int32) < (0 : Int32)))).2.2.2) (by decide) (by decide) kS) ?_
  show gs T3 m 38 #[vr a1, vi 2, vi 2] []
  exact own_retV X3 hx hlk hret (hb hby d19_38) (by decide) (by decide) (by rw [e3]; exact ⟨rfl, N0, rfl⟩)
theorem ef_asbApp_2_1_0_L (m : MethodId) (x0 : Addr) (x1 : Int32) : entryFrame m #[(.ref x0), (.int x1)] 2 = mkF m 0 #[.val (.ref x0), .val (.int x1)] [] := by first | (simp [entryFrame, mkF, argsToLocals, Value.category]; done) | rfl
def Q_asbApp_2_1_0_L (Z : State) (a1 : Addr) (tA : Addr) (kA : ClassId) (c1 : Int32) (y0 : Int32) (y1 : Int32) (zCS : Int32) (fm : Value) (h0 : Heap) (n0 : Nat) (v : Option Value) (h : Heap) (L : List Loc) : Prop := v = some (.ref a1) ∧ Fr n0 L ∧ Keep h0 h [a1, tA] ∧ ek20 Z h a1 ∧ fk11 Z h a1 (.ref tA) ∧ fk12 Z h a1 (.int 0) ∧ fk13 Z h a1 (.int 2) ∧ fk14 Z h a1 (.int 0) ∧ Arv Z h tA kA .byte (2 : Int32) [(.int y0), (.int (nar .byte (c1.toInt8.toInt32)))] (.int 0)
theorem rm_asbApp_2_1_0_L (l : Launch) (Z : State) (a0 : Array Value) (hw : HW a0 Z) (ws : List Jvm.Cond) (a1 : Addr) (tA : Addr) (kA : ClassId) (c1 : Int32) (y0 : Int32) (y1 : Int32) (zCS : Int32) (fm : Value) (h0 : Heap) (n0 : Nat) (Z0 : n0 ≤ h0.size) (O0 : Old Z n0 h0) (E_1 : ek20 Z h0 a1) (g_1 : n0 ≤ a1) (Fv : fk11 Z h0 a1 (.ref tA)) (Fc : fk12 Z h0 a1 (.int 0)) (Fn : fk13 Z h0 a1 (.int 1)) (Fm : fk14 Z h0 a1 (.int 0)) (ne1A : a1 ≠ tA) (R_A : Arv Z h0 tA kA .byte (2 : Int32) [(.int y0), (.int y1)] (.int 0)) (g_A : n0 ≤ tA) (S_CS : sk0 Z Z.heap (.int zCS)) (P_CS : ¬ zCS = 0) (S_SF : sk4 Z Z.heap fm) (P_SF : fm.isRef = true) (S_AD : sk1 Z Z.heap (.int 1)) (S_HI : sk2 Z Z.heap (.int 0)) (S_LO : sk3 Z Z.heap (.int 8)) (hcc : ¬ ((255 : Int32) < c1)) :
    M19 l ws (rmk 1 0 0 14) Z #[(.ref a1), (.int c1)] h0 (Q_asbApp_2_1_0_L Z a1 tA kA c1 y0 y1 zCS fm h0 n0) := by
  refine own_go "java/lang/AbstractStringBuilder" rfl (plainFor_of_name pn_18) (fun m => ef_asbApp_2_1_0_L m a1 c1) (fun p e s m below meth c s₁ hx hby hml hown hnm hlk hret hZ X0 e0 => ?_)
  have N0 := Fr.nil n0
  have K0 := Keep.refl h0 [a1, tA]
  show gs s₁ m 0 #[vr a1, vi c1] []
  refine oaloadN X0 hx hby d18_0 rfl rfl ?_
  refine oaloadN X0 hx hby d18_1 rfl rfl ?_
  obtain ⟨T1, X1, e1, st1⟩ := getF X0 hx hZ hown (host := "") (Or.inl (own_w hw 66 rfl)) Via.refl e0 Fn (g := (mkF m 2 #[vr a1, vi c1] [(.ref a1), (.ref a1)])) rfl rfl (hb hby d18_2)
  refine own_st st1 ?_
  show gs T1 m 5 #[vr a1, vi c1] [(.int 1), (.ref a1)]
  refine oiconst X1 hx hby d18_5 ?_
  refine own_st (fun _ kS => XS.iadd X1.here hx rfl (hb hby d18_6) rfl kS) ?_
  show gs T1 m 7 #[vr a1, vi c1] [(.int 2), (.ref a1)]
  obtain ⟨cq2, q2, q2'⟩ := E_1.cell
  obtain ⟨_, _, ⟨T2, L2, k2, n2⟩, -, X2, ⟨Lc2, hQ2, l2, y2, z2⟩, st2⟩ := X1.privateBack hx (y := (⟨"java/lang/AbstractStringBuilder", "ensureCapacityInternal", "(I)V"⟩ : MethodName)) hown (mvT hZ (own_w hw 122 rfl)) (mvT hZ (own_w hw 123 rfl)) (own_selp2 (mvT hZ (own_w hw 125 rfl)) (Cond.privateMethod_at (mvP hZ (own_w hw 124 rfl) (args := #[]))) (mvT hZ (own_w hw 123 rfl)) (by decide)) (Cond.privateMethod_at (mvP hZ (own_w hw 124 rfl) (args := #[]))) (mvT hZ (own_w hw 126 rfl)) (by decide) (backOf (W := 0) (rm_ens_2_0_2 l Z a0 hw [] a1 tA kA y0 y1 h0 n0 Z0  Fv Fc R_A) hZ (own_w hw 126 rfl) (own_w hw 26 rfl) (by decide) (by decide)) (g := (mkF m 7 #[vr a1, vi c1] [(.int 2), (.ref a1)])) rfl (by rw [hml]; rfl) (Steps.refl _) (a := a1) (by rw [e1]; exact q2) q2' (argsL := [(.int 2)]) (rest := []) (lenOf own_pd0 rfl) rfl (by show 2 * 0 + _ ≤ _; exact Nat.le_of_eq rfl) (hb hby d18_7) (fun _ _ => ⟨rfl, e1, (by decide : 0 + 0 ≤ _), (by decide : 0 + 0 ≤ _)⟩)
  dsimp only [Pt.U, Pt.locs, Pt.cells, Pt.slots] at X2 l2 y2 z2 st2 hQ2
  subst l2 y2 z2
  obtain ⟨rfl, Nq2, eq2⟩ := hQ2
  have N2 := Fr.app N0 Nq2
  refine own_tr st2 ?_
  show gs T2 m 10 #[vr a1, vi c1] []
  refine oaloadN X2 hx hby d18_10 rfl rfl ?_
  refine oV 0 X2 hx hZ hby hml hown (own_w hw 127 rfl) (own_w hw 69 rfl) (own_w hw 71 rfl) (own_w hw 70 rfl) (rm_asbLat0 l Z a0 hw [] a1 zCS h0 n0 Z0 O0 S_CS P_CS Fc) (own_w hw 72 rfl) (own_w hw 26 rfl) eq2 E_1 (by decide) own_pd11 d18_11 rfl rfl rfl (fun T3 L3 v3 X3 hQ3 => ?_)
  obtain ⟨rfl, Nq3, eq3⟩ := hQ3
  have N3 := Fr.app N2 Nq3
  show gs T3 m 14 #[vr a1, vi c1] [(.int 1)]
  refine own_st (fun _ kS => XS.ifNo X3.here hx rfl (hb hby d18_14) rfl ((if0 _ _).trans (feq (by decide : ¬ ((1 : Int32) = (0 : Int32)))).1) kS) ?_
  show gs T3 m 17 #[vr a1, vi c1] []
  refine oiloadN X3 hx hby d18_17 rfl ?_
  refine oS 0 X3 hx hZ hby hml hown (own_w hw 128 rfl) (own_w hw 129 rfl) (own_w hw 130 rfl) (own_w hw 131 rfl) (rm_canEnc1 l Z a0 hw [] c1 h0 n0 Z0  hcc) eq3 (by decide) own_pd13 d18_18 rfl rfl rfl (fun T4 L4 v4 X4 hQ4 => ?_)
  obtain ⟨rfl, Nq4, eq4⟩ := hQ4
  have N4 := Fr.app N3 Nq4
  show gs T4 m 21 #[vr a1, vi c1] [(.int 1)]
  refine own_st (fun _ kS => XS.ifNo X4.here hx rfl (hb hby d18_21) rfl ((if0 _ _).trans (feq (by decide : ¬ ((1 : Int32) = (0 : Int32)))).1) kS) ?_
  show gs T4 m 24 #[vr a1, vi c1] []
  refine oaloadN X4 hx hby d18_24 rfl rfl ?_
  obtain ⟨T5, X5, e5, st5⟩ := getF X4 hx hZ hown (host := "") (Or.inl (own_w hw 33 rfl)) Via.refl eq4 Fv (g := (mkF m 25 #[vr a1, vi c1] [(.ref a1)])) rfl rfl (hb hby d18_25)
  refine own_st st5 ?_
  show gs T5 m 28 #[vr a1, vi c1] [(.ref tA)]
  refine oaloadN X5 hx hby d18_28 rfl rfl ?_
  refine own_st (fun _ kS => XS.dup X5.here hx rfl (hb hby d18_29) rfl rfl kS) ?_
  show gs T5 m 30 #[vr a1, vi c1] [(.ref a1), (.ref a1), (.ref tA)]
  obtain ⟨T6, X6, e6, st6⟩ := getF X5 hx hZ hown (host := "") (Or.inl (own_w hw 66 rfl)) Via.refl e5 Fn (g := (mkF m 30 #[vr a1, vi c1] [(.ref a1), (.ref a1), (.ref tA)])) rfl rfl (hb hby d18_30)
  refine own_st st6 ?_
  show gs T6 m 33 #[vr a1, vi c1] [(.int 1), (.ref a1), (.ref tA)]
  refine own_st (fun _ kS => XT.dupX1 X6.here hx rfl (hb hby d18_33) rfl rfl rfl kS) ?_
  show gs T6 m 34 #[vr a1, vi c1] [(.int 1), (.ref a1), (.int 1), (.ref tA)]
  refine oiconst X6 hx hby d18_34 ?_
  refine own_st (fun _ kS => XS.iadd X6.here hx rfl (hb hby d18_35) rfl kS) ?_
  show gs T6 m 36 #[vr a1, vi c1] [(.int 2), (.ref a1), (.int 1), (.ref tA)]
  obtain ⟨T7, h7, X7, e7, W7, st7⟩ := putF X6 hx hZ hown (host := "") (Or.inl (own_w hw 66 rfl)) Via.refl e6 Fn E_1 (Or.inl (own_w hw 67 rfl)) (own_w hw 15 rfl) (ty := .int) (by decide) rfl rfl (g := (mkF m 36 #[vr a1, vi c1] [(.int 2), (.ref a1), (.int 1), (.ref tA)])) rfl rfl (hb hby d18_36)
  refine own_st st7 ?_
  have N7 := Fr.snoc X7 N4 g_1
  have K7 := K0.wr W7 (Or.inl (List.mem_of_getElem? (i := 0) rfl))
  have O7 := O0.wr W7 g_1
  have Fw7 := Fld.same W7 Fn
  show gs T7 m 39 #[vr a1, vi c1] [(.int 1), (.ref tA)]
  refine oiloadN X7 hx hby d18_39 rfl ?_
  refine own_st (fun _ kS => XT.i2b X7.here hx rfl (hb hby d18_40) rfl kS) ?_
  show gs T7 m 41 #[vr a1, vi c1] [(.int (c1.toInt8.toInt32)), (.int 1), (.ref tA)]
  obtain ⟨cl8, Ar8, qa8, qs8, qn8, qh8, qg8⟩ := id (R_A.other W7 (Ne.symm ne1A))
  obtain ⟨T8, h8, X8, e8, W8, st8⟩ := stB X7 hx hZ e7 Ar8 (j := (1 : Int32)) (inb_of qs8 ⟨by decide, by decide⟩) (g := (mkF m 41 #[vr a1, vi c1] [(.int (c1.toInt8.toInt32)), (.int 1), (.ref tA)])) rfl rfl (hb hby d18_41)
  have N8 := Fr.snoc X8 N7 g_A
  have K8 := K7.wr W8 (Or.inl (List.mem_of_getElem? (i := 1) rfl))
  have O8 := O7.wr W8 g_A
  have R8 : Arv Z h8 tA kA .byte (2 : Int32) [(.int y0), (.int (nar .byte (c1.toInt8.toInt32)))] (.int 0) := Arv.set Ar8 qa8 qs8 qn8 qh8 qg8 (fits_nar_byte _) W8 1 rfl (Nat.le_of_ble_eq_true rfl)
  refine own_st st8 ?_
  show gs T8 m 42 #[vr a1, vi c1] []
  refine own_st (fun _ kS => XS.goto X8.here hx rfl (pc0 := 42) (pc' := 75) rfl (hb hby d18_42) (by decide) (by decide) kS) ?_
  refine oaloadN X8 hx hby d18_75 rfl rfl ?_
  exact own_retA X8 hx hlk hret rfl rfl (hb hby d18_76) (by decide) (by decide) (by rw [e8]; exact ⟨rfl, N8, K8, (Exa.wr W8 (Exa.wr W7 E_1)), (Fld.other W8 (Fld.other W7 Fv (Or.inr (slot_ne (Or.inl (own_w hw 34 rfl)) (Or.inl (own_w hw 67 rfl)) (by decide) (t := (.array .byte)) (t' := .int) (by decide) (by decide)))) (Or.inl ne1A)), (Fld.other W8 (Fld.other W7 Fc (Or.inr (slot_ne (Or.inl (own_w hw 36 rfl)) (Or.inl (own_w hw 67 rfl)) (by decide) (t := .byte) (t' := .int) (by decide) (by decide)))) (Or.inl ne1A)), (Fld.other W8 Fw7 (Or.inl ne1A)), (Fld.other W8 (Fld.other W7 Fm (Or.inr (slot_ne (Or.inl (own_w hw 204 rfl)) (Or.inl (own_w hw 67 rfl)) (by decide) (t := .boolean) (t' := .int) (by decide) (by decide)))) (Or.inl ne1A)), R8⟩)
theorem ef_sbApp_2_1_0_L (m : MethodId) (x0 : Addr) (x1 : Int32) : entryFrame m #[(.ref x0), (.int x1)] 2 = mkF m 0 #[.val (.ref x0), .val (.int x1)] [] := by first | (simp [entryFrame, mkF, argsToLocals, Value.category]; done) | rfl
def Q_sbApp_2_1_0_L (Z : State) (a1 : Addr) (tA : Addr) (kA : ClassId) (c1 : Int32) (y0 : Int32) (y1 : Int32) (zCS : Int32) (fm : Value) (h0 : Heap) (n0 : Nat) (v : Option Value) (h : Heap) (L : List Loc) : Prop := v = some (.ref a1) ∧ Fr n0 L ∧ Keep h0 h [a1, tA] ∧ ek20 Z h a1 ∧ fk11 Z h a1 (.ref tA) ∧ fk12 Z h a1 (.int 0) ∧ fk13 Z h a1 (.int 2) ∧ fk14 Z h a1 (.int 0) ∧ Arv Z h tA kA .byte (2 : Int32) [(.int y0), (.int (nar .byte (c1.toInt8.toInt32)))] (.int 0)
theorem rm_sbApp_2_1_0_L (l : Launch) (Z : State) (a0 : Array Value) (hw : HW a0 Z) (ws : List Jvm.Cond) (a1 : Addr) (tA : Addr) (kA : ClassId) (c1 : Int32) (y0 : Int32) (y1 : Int32) (zCS : Int32) (fm : Value) (h0 : Heap) (n0 : Nat) (Z0 : n0 ≤ h0.size) (O0 : Old Z n0 h0) (E_1 : ek20 Z h0 a1) (g_1 : n0 ≤ a1) (Fv : fk11 Z h0 a1 (.ref tA)) (Fc : fk12 Z h0 a1 (.int 0)) (Fn : fk13 Z h0 a1 (.int 1)) (Fm : fk14 Z h0 a1 (.int 0)) (ne1A : a1 ≠ tA) (R_A : Arv Z h0 tA kA .byte (2 : Int32) [(.int y0), (.int y1)] (.int 0)) (g_A : n0 ≤ tA) (S_CS : sk0 Z Z.heap (.int zCS)) (P_CS : ¬ zCS = 0) (S_SF : sk4 Z Z.heap fm) (P_SF : fm.isRef = true) (S_AD : sk1 Z Z.heap (.int 1)) (S_HI : sk2 Z Z.heap (.int 0)) (S_LO : sk3 Z Z.heap (.int 8)) (hcc : ¬ ((255 : Int32) < c1)) :
    M20 l ws (rmk 2 0 0 27) Z #[(.ref a1), (.int c1)] h0 (Q_sbApp_2_1_0_L Z a1 tA kA c1 y0 y1 zCS fm h0 n0) := by
  refine own_go "java/lang/StringBuilder" rfl (plainFor_of_name pn_17) (fun m => ef_sbApp_2_1_0_L m a1 c1) (fun p e s m below meth c s₁ hx hby hml hown hnm hlk hret hZ X0 e0 => ?_)
  have N0 := Fr.nil n0
  have K0 := Keep.refl h0 [a1, tA]
  show gs s₁ m 0 #[vr a1, vi c1] []
  refine oaloadN X0 hx hby d17_0 rfl rfl ?_
  refine oiloadN X0 hx hby d17_1 rfl ?_
  show gs s₁ m 2 #[vr a1, vi c1] [(.int c1), (.ref a1)]
  obtain ⟨_, _, ⟨T1, L1, k1, n1⟩, -, X1, ⟨Lc1, hQ1, l1, y1, z1⟩, st1⟩ := superBack X0 hx hZ (y := (⟨"java/lang/AbstractStringBuilder", "append", "(C)Ljava/lang/AbstractStringBuilder;"⟩ : MethodName)) hown (own_w hw 118 rfl) (own_same (own_w hw 55 rfl) rfl (own_w hw 119 rfl) (by decide)) (own_w hw 119 rfl) (own_w hw 64 rfl) (by decide) (backOf (W := 0) (rm_asbApp_2_1_0_L l Z a0 hw [] a1 tA kA c1 y0 y1 zCS fm h0 n0 Z0 O0 E_1 g_1 Fv Fc Fn Fm ne1A R_A g_A S_CS P_CS S_SF P_SF S_AD S_HI S_LO hcc) hZ (own_w hw 121 rfl) (own_w hw 26 rfl) (by decide) (by decide)) e0 (Ins.self E_1) (g := (mkF m 2 #[vr a1, vi c1] [(.int c1), (.ref a1)])) rfl (by rw [hml]; rfl) (own_w hw 121 rfl) (argsL := [(.int c1)]) (rest := []) (lenOf own_pd14 rfl) rfl (by show 2 * 0 + _ ≤ _; exact Nat.le_of_eq rfl) (hb hby d17_2) (fun _ _ => ⟨rfl, e0, (by decide : 0 + 0 ≤ _), (by decide : 0 + 0 ≤ _)⟩)
  dsimp only [Pt.U, Pt.locs, Pt.cells, Pt.slots] at X1 l1 y1 z1 st1 hQ1
  subst l1 y1 z1
  obtain ⟨rfl, Nq1, Kc1, P1_0, P1_1, P1_2, P1_3, P1_4, P1_5⟩ := hQ1
  have N1 := Fr.app N0 Nq1
  have K1 := K0.trans Kc1 (allS (Or.inl (List.mem_of_getElem? (i := 0) rfl)) (allS (Or.inl (List.mem_of_getElem? (i := 1) rfl)) all0))
  have O1 := O0.keep Kc1 (allS g_1 (allS g_A all0))
  refine own_tr st1 ?_
  show gs T1 m 5 #[vr a1, vi c1] [(.ref a1)]
  refine own_st (fun _ kS => XT.pop X1.here hx rfl (hb hby d17_5) rfl rfl kS) ?_
  refine oaloadN X1 hx hby d17_6 rfl rfl ?_
  exact own_retA X1 hx hlk hret rfl rfl (hb hby d17_7) (by decide) (by decide) (show Q_sbApp_2_1_0_L Z a1 tA kA c1 y0 y1 zCS fm h0 n0 _ _ _ from ⟨rfl, N1, K1, P1_0, P1_1, P1_2, P1_3, P1_4, P1_5⟩)
theorem ef_asbApp_2_1_0_U (m : MethodId) (x0 : Addr) (x1 : Int32) : entryFrame m #[(.ref x0), (.int x1)] 2 = mkF m 0 #[.val (.ref x0), .val (.int x1)] [] := by first | (simp [entryFrame, mkF, argsToLocals, Value.category]; done) | rfl
def Q_asbApp_2_1_0_U (Z : State) (a1 : Addr) (tA : Addr) (kA : ClassId) (c1 : Int32) (y0 : Int32) (y1 : Int32) (zCS : Int32) (fm : Value) (h0 : Heap) (n0 : Nat) (v : Option Value) (h : Heap) (L : List Loc) : Prop := ∃ tN : Addr, ∃ kN : ClassId, v = some (.ref a1) ∧ Fr n0 L ∧ Keep h0 h [a1] ∧ h0.size ≤ tN ∧ ek19 Z h tN ∧ ek20 Z h a1 ∧ fk11 Z h a1 (.ref tN) ∧ fk12 Z h a1 (.int 1) ∧ fk13 Z h a1 (.int 2) ∧ fk14 Z h a1 (.int 0) ∧ Arv Z h tN kN .byte (4 : Int32) [(.int (nar .byte (((y0 &&& (255 : Int32)) >>> ((0 : Int32) &&& 31)).toInt8.toInt32))), (.int (nar .byte (((y0 &&& (255 : Int32)) >>> ((8 : Int32) &&& 31)).toInt8.toInt32))), (.int (nar .byte ((c1 >>> ((0 : Int32) &&& 31)).toInt8.toInt32))), (.int (nar .byte ((c1 >>> ((8 : Int32) &&& 31)).toInt8.toInt32)))] (.int 0)
theorem rm_asbApp_2_1_0_U (l : Launch) (Z : State) (a0 : Array Value) (hw : HW a0 Z) (ws : List Jvm.Cond) (a1 : Addr) (tA : Addr) (kA : ClassId) (c1 : Int32) (y0 : Int32) (y1 : Int32) (zCS : Int32) (fm : Value) (h0 : Heap) (n0 : Nat) (Z0 : n0 ≤ h0.size) (O0 : Old Z n0 h0) (E_1 : ek20 Z h0 a1) (g_1 : n0 ≤ a1) (Fv : fk11 Z h0 a1 (.ref tA)) (Fc : fk12 Z h0 a1 (.int 0)) (Fn : fk13 Z h0 a1 (.int 1)) (Fm : fk14 Z h0 a1 (.int 0)) (ne1A : a1 ≠ tA) (R_A : Arv Z h0 tA kA .byte (2 : Int32) [(.int y0), (.int y1)] (.int 0)) (g_A : n0 ≤ tA) (S_CS : sk0 Z Z.heap (.int zCS)) (P_CS : ¬ zCS = 0) (S_SF : sk4 Z Z.heap fm) (P_SF : fm.isRef = true) (S_AD : sk1 Z Z.heap (.int 1)) (S_HI : sk2 Z Z.heap (.int 0)) (S_LO : sk3 Z Z.heap (.int 8)) (hcc : (255 : Int32) < c1) :
    M19 l ws (rmk 6 1 4 89) Z #[(.ref a1), (.int c1)] h0 (Q_asbApp_2_1_0_U Z a1 tA kA c1 y0 y1 zCS fm h0 n0) := by
  refine own_go "java/lang/AbstractStringBuilder" rfl (plainFor_of_name pn_18) (fun m => ef_asbApp_2_1_0_U m a1 c1) (fun p e s m below meth c s₁ hx hby hml hown hnm hlk hret hZ X0 e0 => ?_)
  have N0 := Fr.nil n0
  have K0 := Keep.refl h0 [a1]
  show gs s₁ m 0 #[vr a1, vi c1] []
  refine oaloadN X0 hx hby d18_0 rfl rfl ?_
  refine oaloadN X0 hx hby d18_1 rfl rfl ?_
  obtain ⟨T1, X1, e1, st1⟩ := getF X0 hx hZ hown (host := "") (Or.inl (own_w hw 66 rfl)) Via.refl e0 Fn (g := (mkF m 2 #[vr a1, vi c1] [(.ref a1), (.ref a1)])) rfl rfl (hb hby d18_2)
  refine own_st st1 ?_
  show gs T1 m 5 #[vr a1, vi c1] [(.int 1), (.ref a1)]
  refine oiconst X1 hx hby d18_5 ?_
  refine own_st (fun _ kS => XS.iadd X1.here hx rfl (hb hby d18_6) rfl kS) ?_
  show gs T1 m 7 #[vr a1, vi c1] [(.int 2), (.ref a1)]
  obtain ⟨cq2, q2, q2'⟩ := E_1.cell
  obtain ⟨_, _, ⟨T2, L2, k2, n2⟩, -, X2, ⟨Lc2, hQ2, l2, y2, z2⟩, st2⟩ := X1.privateBack hx (y := (⟨"java/lang/AbstractStringBuilder", "ensureCapacityInternal", "(I)V"⟩ : MethodName)) hown (mvT hZ (own_w hw 122 rfl)) (mvT hZ (own_w hw 123 rfl)) (own_selp2 (mvT hZ (own_w hw 125 rfl)) (Cond.privateMethod_at (mvP hZ (own_w hw 124 rfl) (args := #[]))) (mvT hZ (own_w hw 123 rfl)) (by decide)) (Cond.privateMethod_at (mvP hZ (own_w hw 124 rfl) (args := #[]))) (mvT hZ (own_w hw 126 rfl)) (by decide) (backOf (W := 0) (rm_ens_2_0_2 l Z a0 hw [] a1 tA kA y0 y1 h0 n0 Z0  Fv Fc R_A) hZ (own_w hw 126 rfl) (own_w hw 26 rfl) (by decide) (by decide)) (g := (mkF m 7 #[vr a1, vi c1] [(.int 2), (.ref a1)])) rfl (by rw [hml]; rfl) (Steps.refl _) (a := a1) (by rw [e1]; exact q2) q2' (argsL := [(.int 2)]) (rest := []) (lenOf own_pd0 rfl) rfl (by show 2 * 0 + _ ≤ _; exact Nat.le_of_eq rfl) (hb hby d18_7) (fun _ _ => ⟨rfl, e1, (by decide : 0 + 0 ≤ _), (by decide : 0 + 0 ≤ _)⟩)
  dsimp only [Pt.U, Pt.locs, Pt.cells, Pt.slots] at X2 l2 y2 z2 st2 hQ2
  subst l2 y2 z2
  obtain ⟨rfl, Nq2, eq2⟩ := hQ2
  have N2 := Fr.app N0 Nq2
  refine own_tr st2 ?_
  show gs T2 m 10 #[vr a1, vi c1] []
  refine oaloadN X2 hx hby d18_10 rfl rfl ?_
  refine oV 0 X2 hx hZ hby hml hown (own_w hw 127 rfl) (own_w hw 69 rfl) (own_w hw 71 rfl) (own_w hw 70 rfl) (rm_asbLat0 l Z a0 hw [] a1 zCS h0 n0 Z0 O0 S_CS P_CS Fc) (own_w hw 72 rfl) (own_w hw 26 rfl) eq2 E_1 (by decide) own_pd11 d18_11 rfl rfl rfl (fun T3 L3 v3 X3 hQ3 => ?_)
  obtain ⟨rfl, Nq3, eq3⟩ := hQ3
  have N3 := Fr.app N2 Nq3
  show gs T3 m 14 #[vr a1, vi c1] [(.int 1)]
  refine own_st (fun _ kS => XS.ifNo X3.here hx rfl (hb hby d18_14) rfl ((if0 _ _).trans (feq (by decide : ¬ ((1 : Int32) = (0 : Int32)))).1) kS) ?_
  show gs T3 m 17 #[vr a1, vi c1] []
  refine oiloadN X3 hx hby d18_17 rfl ?_
  refine oS 0 X3 hx hZ hby hml hown (own_w hw 128 rfl) (own_w hw 129 rfl) (own_w hw 130 rfl) (own_w hw 131 rfl) (rm_canEnc0 l Z a0 hw [] c1 h0 n0 Z0  hcc) eq3 (by decide) own_pd13 d18_18 rfl rfl rfl (fun T4 L4 v4 X4 hQ4 => ?_)
  obtain ⟨rfl, Nq4, eq4⟩ := hQ4
  have N4 := Fr.app N3 Nq4
  show gs T4 m 21 #[vr a1, vi c1] [(.int 0)]
  refine own_st (fun _ kS => XS.ifYes X4.here hx rfl (pc0 := 21) (pc' := 45) rfl (hb hby d18_21) rfl ((if0 _ _).trans (teq (by decide : (0 : Int32) = (0 : Int32))).1) (by decide) (by decide) kS) ?_
  show gs T4 m 45 #[vr a1, vi c1] []
  refine oaloadN X4 hx hby d18_45 rfl rfl ?_
  refine oV 0 X4 hx hZ hby hml hown (own_w hw 127 rfl) (own_w hw 69 rfl) (own_w hw 71 rfl) (own_w hw 70 rfl) (rm_asbLat0 l Z a0 hw [] a1 zCS h0 n0 Z0 O0 S_CS P_CS Fc) (own_w hw 72 rfl) (own_w hw 26 rfl) eq4 E_1 (by decide) own_pd11 d18_46 rfl rfl rfl (fun T5 L5 v5 X5 hQ5 => ?_)
  obtain ⟨rfl, Nq5, eq5⟩ := hQ5
  have N5 := Fr.app N4 Nq5
  show gs T5 m 49 #[vr a1, vi c1] [(.int 1)]
  refine own_st (fun _ kS => XS.ifNo X5.here hx rfl (hb hby d18_49) rfl ((if0 _ _).trans (feq (by decide : ¬ ((1 : Int32) = (0 : Int32)))).1) kS) ?_
  show gs T5 m 52 #[vr a1, vi c1] []
  refine oaloadN X5 hx hby d18_52 rfl rfl ?_
  show gs T5 m 53 #[vr a1, vi c1] [(.ref a1)]
  obtain ⟨cq6, q6, q6'⟩ := E_1.cell
  obtain ⟨_, _, ⟨T6, L6, k6, n6⟩, -, X6, ⟨Lc6, hQ6, l6, y6, z6⟩, st6⟩ := X5.privateBack hx (y := (⟨"java/lang/AbstractStringBuilder", "inflate", "()V"⟩ : MethodName)) hown (mvT hZ (own_w hw 159 rfl)) (mvT hZ (own_w hw 160 rfl)) (own_selp2 (mvT hZ (own_w hw 162 rfl)) (Cond.privateMethod_at (mvP hZ (own_w hw 161 rfl) (args := #[]))) (mvT hZ (own_w hw 160 rfl)) (by decide)) (Cond.privateMethod_at (mvP hZ (own_w hw 161 rfl) (args := #[]))) (mvT hZ (own_w hw 163 rfl)) (by decide) (backOf (W := 0) (rm_infl_2_1 l Z a0 hw [] a1 tA kA y0 y1 zCS fm h0 n0 Z0 O0 E_1 g_1 Fv Fc Fn Fm ne1A R_A S_CS P_CS S_SF P_SF S_AD S_HI S_LO) hZ (own_w hw 163 rfl) (own_w hw 26 rfl) (by decide) (by decide)) (g := (mkF m 53 #[vr a1, vi c1] [(.ref a1)])) rfl (by rw [hml]; rfl) (Steps.refl _) (a := a1) (by rw [eq5]; exact q6) q6' (argsL := []) (rest := []) (lenOf own_pd15 rfl) rfl (by show 2 * 0 + _ ≤ _; exact Nat.le_of_eq rfl) (hb hby d18_53) (fun _ _ => ⟨rfl, eq5, (by decide : 0 + 1 ≤ _), (by decide : 0 + 4 ≤ _)⟩)
  dsimp only [Pt.U, Pt.locs, Pt.cells, Pt.slots] at X6 l6 y6 z6 st6 hQ6
  subst l6 y6 z6
  obtain ⟨tN_6, kN_6, rfl, Nq6, Kc6, P6_0, P6_1, P6_2, P6_3, P6_4, P6_5, P6_6, P6_7⟩ := hQ6
  have N6 := Fr.app N5 Nq6
  have ne_a1_tN_6 : a1 ≠ tN_6 := Nat.ne_of_lt (Nat.lt_of_lt_of_le E_1.lt P6_0)
  have ne_tA_tN_6 : tA ≠ tN_6 := Nat.ne_of_lt (Nat.lt_of_lt_of_le R_A.lt P6_0)
  have ge_tN_6 : n0 ≤ tN_6 := Nat.le_trans Z0 P6_0
  have sz_tN_6 : h0.size ≤ tN_6 := Nat.le_trans K0.1 P6_0
  have K6 := K0.trans Kc6 (allS (Or.inl (List.mem_of_getElem? (i := 0) rfl)) all0)
  have O6 := O0.keep Kc6 (allS g_1 all0)
  refine own_tr st6 ?_
  show gs T6 m 56 #[vr a1, vi c1] []
  refine oaloadN X6 hx hby d18_56 rfl rfl ?_
  obtain ⟨T7, X7, e7, st7⟩ := getF X6 hx hZ hown (host := "") (Or.inl (own_w hw 33 rfl)) Via.refl rfl P6_3 (g := (mkF m 57 #[vr a1, vi c1] [(.ref a1)])) rfl rfl (hb hby d18_57)
  refine own_st st7 ?_
  show gs T7 m 60 #[vr a1, vi c1] [(.ref tN_6)]
  refine oaloadN X7 hx hby d18_60 rfl rfl ?_
  refine own_st (fun _ kS => XS.dup X7.here hx rfl (hb hby d18_61) rfl rfl kS) ?_
  show gs T7 m 62 #[vr a1, vi c1] [(.ref a1), (.ref a1), (.ref tN_6)]
  obtain ⟨T8, X8, e8, st8⟩ := getF X7 hx hZ hown (host := "") (Or.inl (own_w hw 66 rfl)) Via.refl e7 P6_5 (g := (mkF m 62 #[vr a1, vi c1] [(.ref a1), (.ref a1), (.ref tN_6)])) rfl rfl (hb hby d18_62)
  refine own_st st8 ?_
  show gs T8 m 65 #[vr a1, vi c1] [(.int 1), (.ref a1), (.ref tN_6)]
  refine own_st (fun _ kS => XT.dupX1 X8.here hx rfl (hb hby d18_65) rfl rfl rfl kS) ?_
  show gs T8 m 66 #[vr a1, vi c1] [(.int 1), (.ref a1), (.int 1), (.ref tN_6)]
  refine oiconst X8 hx hby d18_66 ?_
  refine own_st (fun _ kS => XS.iadd X8.here hx rfl (hb hby d18_67) rfl kS) ?_
  show gs T8 m 68 #[vr a1, vi c1] [(.int 2), (.ref a1), (.int 1), (.ref tN_6)]
  obtain ⟨T9, h9, X9, e9, W9, st9⟩ := putF X8 hx hZ hown (host := "") (Or.inl (own_w hw 66 rfl)) Via.refl e8 P6_5 P6_2 (Or.inl (own_w hw 67 rfl)) (own_w hw 15 rfl) (ty := .int) (by decide) rfl rfl (g := (mkF m 68 #[vr a1, vi c1] [(.int 2), (.ref a1), (.int 1), (.ref tN_6)])) rfl rfl (hb hby d18_68)
  refine own_st st9 ?_
  have N9 := Fr.snoc X9 N6 g_1
  have K9 := K6.wr W9 (Or.inl (List.mem_of_getElem? (i := 0) rfl))
  have O9 := O6.wr W9 g_1
  have Fw9 := Fld.same W9 P6_5
  show gs T9 m 71 #[vr a1, vi c1] [(.int 1), (.ref tN_6)]
  refine oiloadN X9 hx hby d18_71 rfl ?_
  refine oS 0 X9 hx hZ hby hml hown (own_w hw 190 rfl) (own_w hw 191 rfl) (own_w hw 166 rfl) (own_w hw 192 rfl) (rm_putSB_1_2 l Z a0 hw [] tN_6 kN_6 c1 (nar .byte (((y0 &&& (255 : Int32)) >>> ((0 : Int32) &&& 31)).toInt8.toInt32)) (nar .byte (((y0 &&& (255 : Int32)) >>> ((8 : Int32) &&& 31)).toInt8.toInt32)) (0 : Int32) (0 : Int32) fm h9 n0 (Nat.le_trans (Nat.le_trans Z0 Kc6.1) (Keep.of_wr W9).1) O9 (P6_7.other W9 (Ne.symm ne_a1_tN_6)) ge_tN_6 S_AD S_HI S_LO S_SF P_SF) e9 (by decide) own_pd5 d18_72 rfl rfl rfl (fun T10 L10 v10 X10 hQ10 => ?_)
  obtain ⟨rfl, Nq10, Kc10, P10_0⟩ := hQ10
  have N10 := Fr.app N9 Nq10
  have K10 := K9.trans Kc10 (allS (Or.inr sz_tN_6) all0)
  have O10 := O9.keep Kc10 (allS ge_tN_6 all0)
  show gs T10 m 75 #[vr a1, vi c1] []
  refine oaloadN X10 hx hby d18_75 rfl rfl ?_
  exact own_retA X10 hx hlk hret rfl rfl (hb hby d18_76) (by decide) (by decide) (show Q_asbApp_2_1_0_U Z a1 tA kA c1 y0 y1 zCS fm h0 n0 _ _ _ from ⟨tN_6, kN_6, ⟨rfl, N10, K10, sz_tN_6, ((Exa.wr W9 P6_1).keep Kc10), ((Exa.wr W9 P6_2).keep Kc10), ((Fld.other W9 P6_3 (Or.inr (slot_ne (Or.inl (own_w hw 34 rfl)) (Or.inl (own_w hw 67 rfl)) (by decide) (t := (.array .byte)) (t' := .int) (by decide) (by decide)))).keep Kc10 (ninS ne_a1_tN_6 nin0)), ((Fld.other W9 P6_4 (Or.inr (slot_ne (Or.inl (own_w hw 36 rfl)) (Or.inl (own_w hw 67 rfl)) (by decide) (t := .byte) (t' := .int) (by decide) (by decide)))).keep Kc10 (ninS ne_a1_tN_6 nin0)), (Fw9.keep Kc10 (ninS ne_a1_tN_6 nin0)), ((Fld.other W9 P6_6 (Or.inr (slot_ne (Or.inl (own_w hw 204 rfl)) (Or.inl (own_w hw 67 rfl)) (by decide) (t := .boolean) (t' := .int) (by decide) (by decide)))).keep Kc10 (ninS ne_a1_tN_6 nin0)), P10_0⟩⟩)
theorem ef_sbApp_2_1_0_U (m : MethodId) (x0 : Addr) (x1 : Int32) : entryFrame m #[(.ref x0), (.int x1)] 2 = mkF m 0 #[.val (.ref x0), .val (.int x1)] [] := by first | (simp [entryFrame, mkF, argsToLocals, Value.category]; done) | rfl
def Q_sbApp_2_1_0_U (Z : State) (a1 : Addr) (tA : Addr) (kA : ClassId) (c1 : Int32) (y0 : Int32) (y1 : Int32) (zCS : Int32) (fm : Value) (h0 : Heap) (n0 : Nat) (v : Option Value) (h : Heap) (L : List Loc) : Prop := ∃ tN : Addr, ∃ kN : ClassId, v = some (.ref a1) ∧ Fr n0 L ∧ Keep h0 h [a1] ∧ h0.size ≤ tN ∧ ek19 Z h tN ∧ ek20 Z h a1 ∧ fk11 Z h a1 (.ref tN) ∧ fk12 Z h a1 (.int 1) ∧ fk13 Z h a1 (.int 2) ∧ fk14 Z h a1 (.int 0) ∧ Arv Z h tN kN .byte (4 : Int32) [(.int (nar .byte (((y0 &&& (255 : Int32)) >>> ((0 : Int32) &&& 31)).toInt8.toInt32))), (.int (nar .byte (((y0 &&& (255 : Int32)) >>> ((8 : Int32) &&& 31)).toInt8.toInt32))), (.int (nar .byte ((c1 >>> ((0 : Int32) &&& 31)).toInt8.toInt32))), (.int (nar .byte ((c1 >>> ((8 : Int32) &&& 31)).toInt8.toInt32)))] (.int 0)
theorem rm_sbApp_2_1_0_U (l : Launch) (Z : State) (a0 : Array Value) (hw : HW a0 Z) (ws : List Jvm.Cond) (a1 : Addr) (tA : Addr) (kA : ClassId) (c1 : Int32) (y0 : Int32) (y1 : Int32) (zCS : Int32) (fm : Value) (h0 : Heap) (n0 : Nat) (Z0 : n0 ≤ h0.size) (O0 : Old Z n0 h0) (E_1 : ek20 Z h0 a1) (g_1 : n0 ≤ a1) (Fv : fk11 Z h0 a1 (.ref tA)) (Fc : fk12 Z h0 a1 (.int 0)) (Fn : fk13 Z h0 a1 (.int 1)) (Fm : fk14 Z h0 a1 (.int 0)) (ne1A : a1 ≠ tA) (R_A : Arv Z h0 tA kA .byte (2 : Int32) [(.int y0), (.int y1)] (.int 0)) (g_A : n0 ≤ tA) (S_CS : sk0 Z Z.heap (.int zCS)) (P_CS : ¬ zCS = 0) (S_SF : sk4 Z Z.heap fm) (P_SF : fm.isRef = true) (S_AD : sk1 Z Z.heap (.int 1)) (S_HI : sk2 Z Z.heap (.int 0)) (S_LO : sk3 Z Z.heap (.int 8)) (hcc : (255 : Int32) < c1) :
    M20 l ws (rmk 7 1 4 102) Z #[(.ref a1), (.int c1)] h0 (Q_sbApp_2_1_0_U Z a1 tA kA c1 y0 y1 zCS fm h0 n0) := by
  refine own_go "java/lang/StringBuilder" rfl (plainFor_of_name pn_17) (fun m => ef_sbApp_2_1_0_U m a1 c1) (fun p e s m below meth c s₁ hx hby hml hown hnm hlk hret hZ X0 e0 => ?_)
  have N0 := Fr.nil n0
  have K0 := Keep.refl h0 [a1]
  show gs s₁ m 0 #[vr a1, vi c1] []
  refine oaloadN X0 hx hby d17_0 rfl rfl ?_
  refine oiloadN X0 hx hby d17_1 rfl ?_
  show gs s₁ m 2 #[vr a1, vi c1] [(.int c1), (.ref a1)]
  obtain ⟨_, _, ⟨T1, L1, k1, n1⟩, -, X1, ⟨Lc1, hQ1, l1, y1, z1⟩, st1⟩ := superBack X0 hx hZ (y := (⟨"java/lang/AbstractStringBuilder", "append", "(C)Ljava/lang/AbstractStringBuilder;"⟩ : MethodName)) hown (own_w hw 118 rfl) (own_same (own_w hw 55 rfl) rfl (own_w hw 119 rfl) (by decide)) (own_w hw 119 rfl) (own_w hw 64 rfl) (by decide) (backOf (W := 0) (rm_asbApp_2_1_0_U l Z a0 hw [] a1 tA kA c1 y0 y1 zCS fm h0 n0 Z0 O0 E_1 g_1 Fv Fc Fn Fm ne1A R_A g_A S_CS P_CS S_SF P_SF S_AD S_HI S_LO hcc) hZ (own_w hw 121 rfl) (own_w hw 26 rfl) (by decide) (by decide)) e0 (Ins.self E_1) (g := (mkF m 2 #[vr a1, vi c1] [(.int c1), (.ref a1)])) rfl (by rw [hml]; rfl) (own_w hw 121 rfl) (argsL := [(.int c1)]) (rest := []) (lenOf own_pd14 rfl) rfl (by show 2 * 0 + _ ≤ _; exact Nat.le_of_eq rfl) (hb hby d17_2) (fun _ _ => ⟨rfl, e0, (by decide : 0 + 1 ≤ _), (by decide : 0 + 4 ≤ _)⟩)
  dsimp only [Pt.U, Pt.locs, Pt.cells, Pt.slots] at X1 l1 y1 z1 st1 hQ1
  subst l1 y1 z1
  obtain ⟨tN_1, kN_1, rfl, Nq1, Kc1, P1_0, P1_1, P1_2, P1_3, P1_4, P1_5, P1_6, P1_7⟩ := hQ1
  have N1 := Fr.app N0 Nq1
  have ne_a1_tN_1 : a1 ≠ tN_1 := Nat.ne_of_lt (Nat.lt_of_lt_of_le E_1.lt P1_0)
  have ne_tA_tN_1 : tA ≠ tN_1 := Nat.ne_of_lt (Nat.lt_of_lt_of_le R_A.lt P1_0)
  have ge_tN_1 : n0 ≤ tN_1 := Nat.le_trans Z0 P1_0
  have sz_tN_1 : h0.size ≤ tN_1 := Nat.le_trans K0.1 P1_0
  have K1 := K0.trans Kc1 (allS (Or.inl (List.mem_of_getElem? (i := 0) rfl)) all0)
  have O1 := O0.keep Kc1 (allS g_1 all0)
  refine own_tr st1 ?_
  show gs T1 m 5 #[vr a1, vi c1] [(.ref a1)]
  refine own_st (fun _ kS => XT.pop X1.here hx rfl (hb hby d17_5) rfl rfl kS) ?_
  refine oaloadN X1 hx hby d17_6 rfl rfl ?_
  exact own_retA X1 hx hlk hret rfl rfl (hb hby d17_7) (by decide) (by decide) (show Q_sbApp_2_1_0_U Z a1 tA kA c1 y0 y1 zCS fm h0 n0 _ _ _ from ⟨tN_1, kN_1, ⟨rfl, N1, K1, sz_tN_1, P1_1, P1_2, P1_3, P1_4, P1_5, P1_6, P1_7⟩⟩)
theorem ef_asbApp_2_0_0_U (m : MethodId) (x0 : Addr) (x1 : Int32) : entryFrame m #[(.ref x0), (.int x1)] 2 = mkF m 0 #[.val (.ref x0), .val (.int x1)] [] := by first | (simp [entryFrame, mkF, argsToLocals, Value.category]; done) | rfl
def Q_asbApp_2_0_0_U (Z : State) (a1 : Addr) (tA : Addr) (kA : ClassId) (c1 : Int32) (y0 : Int32) (y1 : Int32) (zCS : Int32) (fm : Value) (h0 : Heap) (n0 : Nat) (v : Option Value) (h : Heap) (L : List Loc) : Prop := ∃ tN : Addr, ∃ kN : ClassId, v = some (.ref a1) ∧ Fr n0 L ∧ Keep h0 h [a1] ∧ h0.size ≤ tN ∧ ek19 Z h tN ∧ ek20 Z h a1 ∧ fk11 Z h a1 (.ref tN) ∧ fk12 Z h a1 (.int 1) ∧ fk13 Z h a1 (.int 1) ∧ fk14 Z h a1 (.int 0) ∧ Arv Z h tN kN .byte (4 : Int32) [(.int (nar .byte ((c1 >>> ((0 : Int32) &&& 31)).toInt8.toInt32))), (.int (nar .byte ((c1 >>> ((8 : Int32) &&& 31)).toInt8.toInt32))), (.int 0), (.int 0)] (.int 0)
theorem rm_asbApp_2_0_0_U (l : Launch) (Z : State) (a0 : Array Value) (hw : HW a0 Z) (ws : List Jvm.Cond) (a1 : Addr) (tA : Addr) (kA : ClassId) (c1 : Int32) (y0 : Int32) (y1 : Int32) (zCS : Int32) (fm : Value) (h0 : Heap) (n0 : Nat) (Z0 : n0 ≤ h0.size) (O0 : Old Z n0 h0) (E_1 : ek20 Z h0 a1) (g_1 : n0 ≤ a1) (Fv : fk11 Z h0 a1 (.ref tA)) (Fc : fk12 Z h0 a1 (.int 0)) (Fn : fk13 Z h0 a1 (.int 0)) (Fm : fk14 Z h0 a1 (.int 0)) (ne1A : a1 ≠ tA) (R_A : Arv Z h0 tA kA .byte (2 : Int32) [(.int y0), (.int y1)] (.int 0)) (g_A : n0 ≤ tA) (S_CS : sk0 Z Z.heap (.int zCS)) (P_CS : ¬ zCS = 0) (S_SF : sk4 Z Z.heap fm) (P_SF : fm.isRef = true) (S_AD : sk1 Z Z.heap (.int 1)) (S_HI : sk2 Z Z.heap (.int 0)) (S_LO : sk3 Z Z.heap (.int 8)) (hcc : (255 : Int32) < c1) :
    M19 l ws (rmk 6 1 4 89) Z #[(.ref a1), (.int c1)] h0 (Q_asbApp_2_0_0_U Z a1 tA kA c1 y0 y1 zCS fm h0 n0) := by
  refine own_go "java/lang/AbstractStringBuilder" rfl (plainFor_of_name pn_18) (fun m => ef_asbApp_2_0_0_U m a1 c1) (fun p e s m below meth c s₁ hx hby hml hown hnm hlk hret hZ X0 e0 => ?_)
  have N0 := Fr.nil n0
  have K0 := Keep.refl h0 [a1]
  show gs s₁ m 0 #[vr a1, vi c1] []
  refine oaloadN X0 hx hby d18_0 rfl rfl ?_
  refine oaloadN X0 hx hby d18_1 rfl rfl ?_
  obtain ⟨T1, X1, e1, st1⟩ := getF X0 hx hZ hown (host := "") (Or.inl (own_w hw 66 rfl)) Via.refl e0 Fn (g := (mkF m 2 #[vr a1, vi c1] [(.ref a1), (.ref a1)])) rfl rfl (hb hby d18_2)
  refine own_st st1 ?_
  show gs T1 m 5 #[vr a1, vi c1] [(.int 0), (.ref a1)]
  refine oiconst X1 hx hby d18_5 ?_
  refine own_st (fun _ kS => XS.iadd X1.here hx rfl (hb hby d18_6) rfl kS) ?_
  show gs T1 m 7 #[vr a1, vi c1] [(.int 1), (.ref a1)]
  obtain ⟨cq2, q2, q2'⟩ := E_1.cell
  obtain ⟨_, _, ⟨T2, L2, k2, n2⟩, -, X2, ⟨Lc2, hQ2, l2, y2, z2⟩, st2⟩ := X1.privateBack hx (y := (⟨"java/lang/AbstractStringBuilder", "ensureCapacityInternal", "(I)V"⟩ : MethodName)) hown (mvT hZ (own_w hw 122 rfl)) (mvT hZ (own_w hw 123 rfl)) (own_selp2 (mvT hZ (own_w hw 125 rfl)) (Cond.privateMethod_at (mvP hZ (own_w hw 124 rfl) (args := #[]))) (mvT hZ (own_w hw 123 rfl)) (by decide)) (Cond.privateMethod_at (mvP hZ (own_w hw 124 rfl) (args := #[]))) (mvT hZ (own_w hw 126 rfl)) (by decide) (backOf (W := 0) (rm_ens_2_0_1 l Z a0 hw [] a1 tA kA y0 y1 h0 n0 Z0  Fv Fc R_A) hZ (own_w hw 126 rfl) (own_w hw 26 rfl) (by decide) (by decide)) (g := (mkF m 7 #[vr a1, vi c1] [(.int 1), (.ref a1)])) rfl (by rw [hml]; rfl) (Steps.refl _) (a := a1) (by rw [e1]; exact q2) q2' (argsL := [(.int 1)]) (rest := []) (lenOf own_pd0 rfl) rfl (by show 2 * 0 + _ ≤ _; exact Nat.le_of_eq rfl) (hb hby d18_7) (fun _ _ => ⟨rfl, e1, (by decide : 0 + 0 ≤ _), (by decide : 0 + 0 ≤ _)⟩)
  dsimp only [Pt.U, Pt.locs, Pt.cells, Pt.slots] at X2 l2 y2 z2 st2 hQ2
  subst l2 y2 z2
  obtain ⟨rfl, Nq2, eq2⟩ := hQ2
  have N2 := Fr.app N0 Nq2
  refine own_tr st2 ?_
  show gs T2 m 10 #[vr a1, vi c1] []
  refine oaloadN X2 hx hby d18_10 rfl rfl ?_
  refine oV 0 X2 hx hZ hby hml hown (own_w hw 127 rfl) (own_w hw 69 rfl) (own_w hw 71 rfl) (own_w hw 70 rfl) (rm_asbLat0 l Z a0 hw [] a1 zCS h0 n0 Z0 O0 S_CS P_CS Fc) (own_w hw 72 rfl) (own_w hw 26 rfl) eq2 E_1 (by decide) own_pd11 d18_11 rfl rfl rfl (fun T3 L3 v3 X3 hQ3 => ?_)
  obtain ⟨rfl, Nq3, eq3⟩ := hQ3
  have N3 := Fr.app N2 Nq3
  show gs T3 m 14 #[vr a1, vi c1] [(.int 1)]
  refine own_st (fun _ kS => XS.ifNo X3.here hx rfl (hb hby d18_14) rfl ((if0 _ _).trans (feq (by decide : ¬ ((1 : Int32) = (0 : Int32)))).1) kS) ?_
  show gs T3 m 17 #[vr a1, vi c1] []
  refine oiloadN X3 hx hby d18_17 rfl ?_
  refine oS 0 X3 hx hZ hby hml hown (own_w hw 128 rfl) (own_w hw 129 rfl) (own_w hw 130 rfl) (own_w hw 131 rfl) (rm_canEnc0 l Z a0 hw [] c1 h0 n0 Z0  hcc) eq3 (by decide) own_pd13 d18_18 rfl rfl rfl (fun T4 L4 v4 X4 hQ4 => ?_)
  obtain ⟨rfl, Nq4, eq4⟩ := hQ4
  have N4 := Fr.app N3 Nq4
  show gs T4 m 21 #[vr a1, vi c1] [(.int 0)]
  refine own_st (fun _ kS => XS.ifYes X4.here hx rfl (pc0 := 21) (pc' := 45) rfl (hb hby d18_21) rfl ((if0 _ _).trans (teq (by decide : (0 : Int32) = (0 : Int32))).1) (by decide) (by decide) kS) ?_
  show gs T4 m 45 #[vr a1, vi c1] []
  refine oaloadN X4 hx hby d18_45 rfl rfl ?_
  refine oV 0 X4 hx hZ hby hml hown (own_w hw 127 rfl) (own_w hw 69 rfl) (own_w hw 71 rfl) (own_w hw 70 rfl) (rm_asbLat0 l Z a0 hw [] a1 zCS h0 n0 Z0 O0 S_CS P_CS Fc) (own_w hw 72 rfl) (own_w hw 26 rfl) eq4 E_1 (by decide) own_pd11 d18_46 rfl rfl rfl (fun T5 L5 v5 X5 hQ5 => ?_)
  obtain ⟨rfl, Nq5, eq5⟩ := hQ5
  have N5 := Fr.app N4 Nq5
  show gs T5 m 49 #[vr a1, vi c1] [(.int 1)]
  refine own_st (fun _ kS => XS.ifNo X5.here hx rfl (hb hby d18_49) rfl ((if0 _ _).trans (feq (by decide : ¬ ((1 : Int32) = (0 : Int32)))).1) kS) ?_
  show gs T5 m 52 #[vr a1, vi c1] []
  refine oaloadN X5 hx hby d18_52 rfl rfl ?_
  show gs T5 m 53 #[vr a1, vi c1] [(.ref a1)]
  obtain ⟨cq6, q6, q6'⟩ := E_1.cell
  obtain ⟨_, _, ⟨T6, L6, k6, n6⟩, -, X6, ⟨Lc6, hQ6, l6, y6, z6⟩, st6⟩ := X5.privateBack hx (y := (⟨"java/lang/AbstractStringBuilder", "inflate", "()V"⟩ : MethodName)) hown (mvT hZ (own_w hw 159 rfl)) (mvT hZ (own_w hw 160 rfl)) (own_selp2 (mvT hZ (own_w hw 162 rfl)) (Cond.privateMethod_at (mvP hZ (own_w hw 161 rfl) (args := #[]))) (mvT hZ (own_w hw 160 rfl)) (by decide)) (Cond.privateMethod_at (mvP hZ (own_w hw 161 rfl) (args := #[]))) (mvT hZ (own_w hw 163 rfl)) (by decide) (backOf (W := 0) (rm_infl_2_0 l Z a0 hw [] a1 tA kA y0 y1 zCS fm h0 n0 Z0 O0 E_1 g_1 Fv Fc Fn Fm ne1A R_A S_CS P_CS S_SF P_SF S_AD S_HI S_LO) hZ (own_w hw 163 rfl) (own_w hw 26 rfl) (by decide) (by decide)) (g := (mkF m 53 #[vr a1, vi c1] [(.ref a1)])) rfl (by rw [hml]; rfl) (Steps.refl _) (a := a1) (by rw [eq5]; exact q6) q6' (argsL := []) (rest := []) (lenOf own_pd15 rfl) rfl (by show 2 * 0 + _ ≤ _; exact Nat.le_of_eq rfl) (hb hby d18_53) (fun _ _ => ⟨rfl, eq5, (by decide : 0 + 1 ≤ _), (by decide : 0 + 4 ≤ _)⟩)
  dsimp only [Pt.U, Pt.locs, Pt.cells, Pt.slots] at X6 l6 y6 z6 st6 hQ6
  subst l6 y6 z6
  obtain ⟨tN_6, kN_6, rfl, Nq6, Kc6, P6_0, P6_1, P6_2, P6_3, P6_4, P6_5, P6_6, P6_7⟩ := hQ6
  have N6 := Fr.app N5 Nq6
  have ne_a1_tN_6 : a1 ≠ tN_6 := Nat.ne_of_lt (Nat.lt_of_lt_of_le E_1.lt P6_0)
  have ne_tA_tN_6 : tA ≠ tN_6 := Nat.ne_of_lt (Nat.lt_of_lt_of_le R_A.lt P6_0)
  have ge_tN_6 : n0 ≤ tN_6 := Nat.le_trans Z0 P6_0
  have sz_tN_6 : h0.size ≤ tN_6 := Nat.le_trans K0.1 P6_0
  have K6 := K0.trans Kc6 (allS (Or.inl (List.mem_of_getElem? (i := 0) rfl)) all0)
  have O6 := O0.keep Kc6 (allS g_1 all0)
  refine own_tr st6 ?_
  show gs T6 m 56 #[vr a1, vi c1] []
  refine oaloadN X6 hx hby d18_56 rfl rfl ?_
  obtain ⟨T7, X7, e7, st7⟩ := getF X6 hx hZ hown (host := "") (Or.inl (own_w hw 33 rfl)) Via.refl rfl P6_3 (g := (mkF m 57 #[vr a1, vi c1] [(.ref a1)])) rfl rfl (hb hby d18_57)
  refine own_st st7 ?_
  show gs T7 m 60 #[vr a1, vi c1] [(.ref tN_6)]
  refine oaloadN X7 hx hby d18_60 rfl rfl ?_
  refine own_st (fun _ kS => XS.dup X7.here hx rfl (hb hby d18_61) rfl rfl kS) ?_
  show gs T7 m 62 #[vr a1, vi c1] [(.ref a1), (.ref a1), (.ref tN_6)]
  obtain ⟨T8, X8, e8, st8⟩ := getF X7 hx hZ hown (host := "") (Or.inl (own_w hw 66 rfl)) Via.refl e7 P6_5 (g := (mkF m 62 #[vr a1, vi c1] [(.ref a1), (.ref a1), (.ref tN_6)])) rfl rfl (hb hby d18_62)
  refine own_st st8 ?_
  show gs T8 m 65 #[vr a1, vi c1] [(.int 0), (.ref a1), (.ref tN_6)]
  refine own_st (fun _ kS => XT.dupX1 X8.here hx rfl (hb hby d18_65) rfl rfl rfl kS) ?_
  show gs T8 m 66 #[vr a1, vi c1] [(.int 0), (.ref a1), (.int 0), (.ref tN_6)]
  refine oiconst X8 hx hby d18_66 ?_
  refine own_st (fun _ kS => XS.iadd X8.here hx rfl (hb hby d18_67) rfl kS) ?_
  show gs T8 m 68 #[vr a1, vi c1] [(.int 1), (.ref a1), (.int 0), (.ref tN_6)]
  obtain ⟨T9, h9, X9, e9, W9, st9⟩ := putF X8 hx hZ hown (host := "") (Or.inl (own_w hw 66 rfl)) Via.refl e8 P6_5 P6_2 (Or.inl (own_w hw 67 rfl)) (own_w hw 15 rfl) (ty := .int) (by decide) rfl rfl (g := (mkF m 68 #[vr a1, vi c1] [(.int 1), (.ref a1), (.int 0), (.ref tN_6)])) rfl rfl (hb hby d18_68)
  refine own_st st9 ?_
  have N9 := Fr.snoc X9 N6 g_1
  have K9 := K6.wr W9 (Or.inl (List.mem_of_getElem? (i := 0) rfl))
  have O9 := O6.wr W9 g_1
  have Fw9 := Fld.same W9 P6_5
  show gs T9 m 71 #[vr a1, vi c1] [(.int 0), (.ref tN_6)]
  refine oiloadN X9 hx hby d18_71 rfl ?_
  refine oS 0 X9 hx hZ hby hml hown (own_w hw 190 rfl) (own_w hw 191 rfl) (own_w hw 166 rfl) (own_w hw 192 rfl) (rm_putSB_0_2 l Z a0 hw [] tN_6 kN_6 c1 (0 : Int32) (0 : Int32) (0 : Int32) (0 : Int32) fm h9 n0 (Nat.le_trans (Nat.le_trans Z0 Kc6.1) (Keep.of_wr W9).1) O9 (P6_7.other W9 (Ne.symm ne_a1_tN_6)) ge_tN_6 S_AD S_HI S_LO S_SF P_SF) e9 (by decide) own_pd5 d18_72 rfl rfl rfl (fun T10 L10 v10 X10 hQ10 => ?_)
  obtain ⟨rfl, Nq10, Kc10, P10_0⟩ := hQ10
  have N10 := Fr.app N9 Nq10
  have K10 := K9.trans Kc10 (allS (Or.inr sz_tN_6) all0)
  have O10 := O9.keep Kc10 (allS ge_tN_6 all0)
  show gs T10 m 75 #[vr a1, vi c1] []
  refine oaloadN X10 hx hby d18_75 rfl rfl ?_
  exact own_retA X10 hx hlk hret rfl rfl (hb hby d18_76) (by decide) (by decide) (show Q_asbApp_2_0_0_U Z a1 tA kA c1 y0 y1 zCS fm h0 n0 _ _ _ from ⟨tN_6, kN_6, ⟨rfl, N10, K10, sz_tN_6, ((Exa.wr W9 P6_1).keep Kc10), ((Exa.wr W9 P6_2).keep Kc10), ((Fld.other W9 P6_3 (Or.inr (slot_ne (Or.inl (own_w hw 34 rfl)) (Or.inl (own_w hw 67 rfl)) (by decide) (t := (.array .byte)) (t' := .int) (by decide) (by decide)))).keep Kc10 (ninS ne_a1_tN_6 nin0)), ((Fld.other W9 P6_4 (Or.inr (slot_ne (Or.inl (own_w hw 36 rfl)) (Or.inl (own_w hw 67 rfl)) (by decide) (t := .byte) (t' := .int) (by decide) (by decide)))).keep Kc10 (ninS ne_a1_tN_6 nin0)), (Fw9.keep Kc10 (ninS ne_a1_tN_6 nin0)), ((Fld.other W9 P6_6 (Or.inr (slot_ne (Or.inl (own_w hw 204 rfl)) (Or.inl (own_w hw 67 rfl)) (by decide) (t := .boolean) (t' := .int) (by decide) (by decide)))).keep Kc10 (ninS ne_a1_tN_6 nin0)), P10_0⟩⟩)
theorem ef_sbApp_2_0_0_U (m : MethodId) (x0 : Addr) (x1 : Int32) : entryFrame m #[(.ref x0), (.int x1)] 2 = mkF m 0 #[.val (.ref x0), .val (.int x1)] [] := by first | (simp [entryFrame, mkF, argsToLocals, Value.category]; done) | rfl
def Q_sbApp_2_0_0_U (Z : State) (a1 : Addr) (tA : Addr) (kA : ClassId) (c1 : Int32) (y0 : Int32) (y1 : Int32) (zCS : Int32) (fm : Value) (h0 : Heap) (n0 : Nat) (v : Option Value) (h : Heap) (L : List Loc) : Prop := ∃ tN : Addr, ∃ kN : ClassId, v = some (.ref a1) ∧ Fr n0 L ∧ Keep h0 h [a1] ∧ h0.size ≤ tN ∧ ek19 Z h tN ∧ ek20 Z h a1 ∧ fk11 Z h a1 (.ref tN) ∧ fk12 Z h a1 (.int 1) ∧ fk13 Z h a1 (.int 1) ∧ fk14 Z h a1 (.int 0) ∧ Arv Z h tN kN .byte (4 : Int32) [(.int (nar .byte ((c1 >>> ((0 : Int32) &&& 31)).toInt8.toInt32))), (.int (nar .byte ((c1 >>> ((8 : Int32) &&& 31)).toInt8.toInt32))), (.int 0), (.int 0)] (.int 0)
theorem rm_sbApp_2_0_0_U (l : Launch) (Z : State) (a0 : Array Value) (hw : HW a0 Z) (ws : List Jvm.Cond) (a1 : Addr) (tA : Addr) (kA : ClassId) (c1 : Int32) (y0 : Int32) (y1 : Int32) (zCS : Int32) (fm : Value) (h0 : Heap) (n0 : Nat) (Z0 : n0 ≤ h0.size) (O0 : Old Z n0 h0) (E_1 : ek20 Z h0 a1) (g_1 : n0 ≤ a1) (Fv : fk11 Z h0 a1 (.ref tA)) (Fc : fk12 Z h0 a1 (.int 0)) (Fn : fk13 Z h0 a1 (.int 0)) (Fm : fk14 Z h0 a1 (.int 0)) (ne1A : a1 ≠ tA) (R_A : Arv Z h0 tA kA .byte (2 : Int32) [(.int y0), (.int y1)] (.int 0)) (g_A : n0 ≤ tA) (S_CS : sk0 Z Z.heap (.int zCS)) (P_CS : ¬ zCS = 0) (S_SF : sk4 Z Z.heap fm) (P_SF : fm.isRef = true) (S_AD : sk1 Z Z.heap (.int 1)) (S_HI : sk2 Z Z.heap (.int 0)) (S_LO : sk3 Z Z.heap (.int 8)) (hcc : (255 : Int32) < c1) :
    M20 l ws (rmk 7 1 4 102) Z #[(.ref a1), (.int c1)] h0 (Q_sbApp_2_0_0_U Z a1 tA kA c1 y0 y1 zCS fm h0 n0) := by
  refine own_go "java/lang/StringBuilder" rfl (plainFor_of_name pn_17) (fun m => ef_sbApp_2_0_0_U m a1 c1) (fun p e s m below meth c s₁ hx hby hml hown hnm hlk hret hZ X0 e0 => ?_)
  have N0 := Fr.nil n0
  have K0 := Keep.refl h0 [a1]
  show gs s₁ m 0 #[vr a1, vi c1] []
  refine oaloadN X0 hx hby d17_0 rfl rfl ?_
  refine oiloadN X0 hx hby d17_1 rfl ?_
  show gs s₁ m 2 #[vr a1, vi c1] [(.int c1), (.ref a1)]
  obtain ⟨_, _, ⟨T1, L1, k1, n1⟩, -, X1, ⟨Lc1, hQ1, l1, y1, z1⟩, st1⟩ := superBack X0 hx hZ (y := (⟨"java/lang/AbstractStringBuilder", "append", "(C)Ljava/lang/AbstractStringBuilder;"⟩ : MethodName)) hown (own_w hw 118 rfl) (own_same (own_w hw 55 rfl) rfl (own_w hw 119 rfl) (by decide)) (own_w hw 119 rfl) (own_w hw 64 rfl) (by decide) (backOf (W := 0) (rm_asbApp_2_0_0_U l Z a0 hw [] a1 tA kA c1 y0 y1 zCS fm h0 n0 Z0 O0 E_1 g_1 Fv Fc Fn Fm ne1A R_A g_A S_CS P_CS S_SF P_SF S_AD S_HI S_LO hcc) hZ (own_w hw 121 rfl) (own_w hw 26 rfl) (by decide) (by decide)) e0 (Ins.self E_1) (g := (mkF m 2 #[vr a1, vi c1] [(.int c1), (.ref a1)])) rfl (by rw [hml]; rfl) (own_w hw 121 rfl) (argsL := [(.int c1)]) (rest := []) (lenOf own_pd14 rfl) rfl (by show 2 * 0 + _ ≤ _; exact Nat.le_of_eq rfl) (hb hby d17_2) (fun _ _ => ⟨rfl, e0, (by decide : 0 + 1 ≤ _), (by decide : 0 + 4 ≤ _)⟩)
  dsimp only [Pt.U, Pt.locs, Pt.cells, Pt.slots] at X1 l1 y1 z1 st1 hQ1
  subst l1 y1 z1
  obtain ⟨tN_1, kN_1, rfl, Nq1, Kc1, P1_0, P1_1, P1_2, P1_3, P1_4, P1_5, P1_6, P1_7⟩ := hQ1
  have N1 := Fr.app N0 Nq1
  have ne_a1_tN_1 : a1 ≠ tN_1 := Nat.ne_of_lt (Nat.lt_of_lt_of_le E_1.lt P1_0)
  have ne_tA_tN_1 : tA ≠ tN_1 := Nat.ne_of_lt (Nat.lt_of_lt_of_le R_A.lt P1_0)
  have ge_tN_1 : n0 ≤ tN_1 := Nat.le_trans Z0 P1_0
  have sz_tN_1 : h0.size ≤ tN_1 := Nat.le_trans K0.1 P1_0
  have K1 := K0.trans Kc1 (allS (Or.inl (List.mem_of_getElem? (i := 0) rfl)) all0)
  have O1 := O0.keep Kc1 (allS g_1 all0)
  refine own_tr st1 ?_
  show gs T1 m 5 #[vr a1, vi c1] [(.ref a1)]
  refine own_st (fun _ kS => XT.pop X1.here hx rfl (hb hby d17_5) rfl rfl kS) ?_
  refine oaloadN X1 hx hby d17_6 rfl rfl ?_
  exact own_retA X1 hx hlk hret rfl rfl (hb hby d17_7) (by decide) (by decide) (show Q_sbApp_2_0_0_U Z a1 tA kA c1 y0 y1 zCS fm h0 n0 _ _ _ from ⟨tN_1, kN_1, ⟨rfl, N1, K1, sz_tN_1, P1_1, P1_2, P1_3, P1_4, P1_5, P1_6, P1_7⟩⟩)
theorem ef_ens_2_1_2 (m : MethodId) (x0 : Addr) : entryFrame m #[(.ref x0), (.int 2)] 3 = mkF m 0 #[.val (.ref x0), .val (.int 2), .unset] [] := by first | (simp [entryFrame, mkF, argsToLocals, Value.category]; done) | rfl
def Q_ens_2_1_2 (Z : State) (a1 : Addr) (tA : Addr) (kA : ClassId) (y0 : Int32) (y1 : Int32) (y2 : Int32) (y3 : Int32) (h0 : Heap) (n0 : Nat) (v : Option Value) (h : Heap) (L : List Loc) : Prop := v = none ∧ Fr n0 L ∧ h = h0
theorem rm_ens_2_1_2 (l : Launch) (Z : State) (a0 : Array Value) (hw : HW a0 Z) (ws : List Jvm.Cond) (a1 : Addr) (tA : Addr) (kA : ClassId) (y0 : Int32) (y1 : Int32) (y2 : Int32) (y3 : Int32) (h0 : Heap) (n0 : Nat) (Z0 : n0 ≤ h0.size) (Fv : fk11 Z h0 a1 (.ref tA)) (Fc : fk12 Z h0 a1 (.int 1)) (R_A : Arv Z h0 tA kA .byte (4 : Int32) [(.int y0), (.int y1), (.int y2), (.int y3)] (.int 0)) :
    M18 l ws (rmk 0 0 0 0) Z #[(.ref a1), (.int 2)] h0 (Q_ens_2_1_2 Z a1 tA kA y0 y1 y2 y3 h0 n0) := by
  refine own_go "java/lang/AbstractStringBuilder" rfl (plainFor_of_name pn_19) (fun m => ef_ens_2_1_2 m a1) (fun p e s m below meth c s₁ hx hby hml hown hnm hlk hret hZ X0 e0 => ?_)
  have N0 := Fr.nil n0
  show gs s₁ m 0 #[vr a1, vi 2, .unset] []
  refine oaloadN X0 hx hby d19_0 rfl rfl ?_
  obtain ⟨T1, X1, e1, st1⟩ := getF X0 hx hZ hown (host := "") (Or.inl (own_w hw 33 rfl)) Via.refl e0 Fv (g := (mkF m 1 #[vr a1, vi 2, .unset] [(.ref a1)])) rfl rfl (hb hby d19_1)
  refine own_st st1 ?_
  show gs T1 m 4 #[vr a1, vi 2, .unset] [(.ref tA)]
  obtain ⟨cl2, Ar2, qa2, qs2, qn2, qh2, qg2⟩ := id R_A
  refine own_st (fun _ kS => X1.arraylength hx (by rw [e1]; exact Ar2.1) (State.isArrayOf_alike hZ.alike Ar2.2.1) (g := (mkF m 4 #[vr a1, vi 2, .unset] [(.ref tA)])) rfl rfl (hb hby d19_4) _ kS) ?_
  rw [len_of qs2 qn2]
  show gs T1 m 5 #[vr a1, vi 2, .unset] [(.int 4)]
  refine oaloadN X1 hx hby d19_5 rfl rfl ?_
  obtain ⟨T3, X3, e3, st3⟩ := getF X1 hx hZ hown (host := "") (Or.inl (own_w hw 35 rfl)) Via.refl e1 Fc (g := (mkF m 6 #[vr a1, vi 2, .unset] [(.ref a1), (.int 4)])) rfl rfl (hb hby d19_6)
  refine own_st st3 ?_
  show gs T3 m 9 #[vr a1, vi 2, .unset] [(.int 1), (.int 4)]
  refine own_st (fun _ kS => XT.ishr X3.here hx rfl (hb hby d19_9) rfl kS) ?_
  refine own_st (fun _ kS => XS.istoreN X3.here hx rfl (hb hby d19_10) rfl (l' := #[vr a1, vi 2, vi 2]) rfl kS) ?_
  refine oiloadN X3 hx hby d19_11 rfl ?_
  refine oiloadN X3 hx hby d19_12 rfl ?_
  refine own_st (fun _ kS => XS.isub X3.here hx rfl (hb hby d19_13) rfl kS) ?_
  show gs T3 m 14 #[vr a1, vi 2, vi 2] [(.int 0)]
  refine own_st (fun _ kS => XS.ifYes X3.here hx rfl (pc0 := 14) (pc' := 38) rfl (hb hby d19_14) rfl ((if0 _ _).trans (flt (by decide : ¬ ((0 : Int32) < (0 : Int32)))).2.2.2) (by decide) (by decide) kS) ?_
  show gs T3 m 38 #[vr a1, vi 2, vi 2] []
  exact own_retV X3 hx hlk hret (hb hby d19_38) (by decide) (by decide) (by rw [e3]; exact ⟨rfl, N0, rfl⟩)
theorem ef_asbApp_2_1_1_W (m : MethodId) (x0 : Addr) (x1 : Int32) : entryFrame m #[(.ref x0), (.int x1)] 2 = mkF m 0 #[.val (.ref x0), .val (.int x1)] [] := by first | (simp [entryFrame, mkF, argsToLocals, Value.category]; done) | rfl
def Q_asbApp_2_1_1_W (Z : State) (a1 : Addr) (tA : Addr) (kA : ClassId) (c1 : Int32) (y0 : Int32) (y1 : Int32) (y2 : Int32) (y3 : Int32) (zCS : Int32) (fm : Value) (h0 : Heap) (n0 : Nat) (v : Option Value) (h : Heap) (L : List Loc) : Prop := v = some (.ref a1) ∧ Fr n0 L ∧ Keep h0 h [a1, tA] ∧ ek20 Z h a1 ∧ fk11 Z h a1 (.ref tA) ∧ fk12 Z h a1 (.int 1) ∧ fk13 Z h a1 (.int 2) ∧ fk14 Z h a1 (.int 0) ∧ Arv Z h tA kA .byte (4 : Int32) [(.int y0), (.int y1), (.int (nar .byte ((c1 >>> ((0 : Int32) &&& 31)).toInt8.toInt32))), (.int (nar .byte ((c1 >>> ((8 : Int32) &&& 31)).toInt8.toInt32)))] (.int 0)
theorem rm_asbApp_2_1_1_W (l : Launch) (Z : State) (a0 : Array Value) (hw : HW a0 Z) (ws : List Jvm.Cond) (a1 : Addr) (tA : Addr) (kA : ClassId) (c1 : Int32) (y0 : Int32) (y1 : Int32) (y2 : Int32) (y3 : Int32) (zCS : Int32) (fm : Value) (h0 : Heap) (n0 : Nat) (Z0 : n0 ≤ h0.size) (O0 : Old Z n0 h0) (E_1 : ek20 Z h0 a1) (g_1 : n0 ≤ a1) (Fv : fk11 Z h0 a1 (.ref tA)) (Fc : fk12 Z h0 a1 (.int 1)) (Fn : fk13 Z h0 a1 (.int 1)) (Fm : fk14 Z h0 a1 (.int 0)) (ne1A : a1 ≠ tA) (R_A : Arv Z h0 tA kA .byte (4 : Int32) [(.int y0), (.int y1), (.int y2), (.int y3)] (.int 0)) (g_A : n0 ≤ tA) (S_CS : sk0 Z Z.heap (.int zCS)) (P_CS : ¬ zCS = 0) (S_SF : sk4 Z Z.heap fm) (P_SF : fm.isRef = true) (S_AD : sk1 Z Z.heap (.int 1)) (S_HI : sk2 Z Z.heap (.int 0)) (S_LO : sk3 Z Z.heap (.int 8)) :
    M19 l ws (rmk 4 0 0 54) Z #[(.ref a1), (.int c1)] h0 (Q_asbApp_2_1_1_W Z a1 tA kA c1 y0 y1 y2 y3 zCS fm h0 n0) := by
  refine own_go "java/lang/AbstractStringBuilder" rfl (plainFor_of_name pn_18) (fun m => ef_asbApp_2_1_1_W m a1 c1) (fun p e s m below meth c s₁ hx hby hml hown hnm hlk hret hZ X0 e0 => ?_)
  have N0 := Fr.nil n0
  have K0 := Keep.refl h0 [a1, tA]
  show gs s₁ m 0 #[vr a1, vi c1] []
  refine oaloadN X0 hx hby d18_0 rfl rfl ?_
  refine oaloadN X0 hx hby d18_1 rfl rfl ?_
  obtain ⟨T1, X1, e1, st1⟩ := getF X0 hx hZ hown (host := "") (Or.inl (own_w hw 66 rfl)) Via.refl e0 Fn (g := (mkF m 2 #[vr a1, vi c1] [(.ref a1), (.ref a1)])) rfl rfl (hb hby d18_2)
  refine own_st st1 ?_
  show gs T1 m 5 #[vr a1, vi c1] [(.int 1), (.ref a1)]
  refine oiconst X1 hx hby d18_5 ?_
  refine own_st (fun _ kS => XS.iadd X1.here hx rfl (hb hby d18_6) rfl kS) ?_
  show gs T1 m 7 #[vr a1, vi c1] [(.int 2), (.ref a1)]
  obtain ⟨cq2, q2, q2'⟩ := E_1.cell
  obtain ⟨_, _, ⟨T2, L2, k2, n2⟩, -, X2, ⟨Lc2, hQ2, l2, y2, z2⟩, st2⟩ := X1.privateBack hx (y := (⟨"java/lang/AbstractStringBuilder", "ensureCapacityInternal", "(I)V"⟩ : MethodName)) hown (mvT hZ (own_w hw 122 rfl)) (mvT hZ (own_w hw 123 rfl)) (own_selp2 (mvT hZ (own_w hw 125 rfl)) (Cond.privateMethod_at (mvP hZ (own_w hw 124 rfl) (args := #[]))) (mvT hZ (own_w hw 123 rfl)) (by decide)) (Cond.privateMethod_at (mvP hZ (own_w hw 124 rfl) (args := #[]))) (mvT hZ (own_w hw 126 rfl)) (by decide) (backOf (W := 0) (rm_ens_2_1_2 l Z a0 hw [] a1 tA kA y0 y1 y2 y3 h0 n0 Z0  Fv Fc R_A) hZ (own_w hw 126 rfl) (own_w hw 26 rfl) (by decide) (by decide)) (g := (mkF m 7 #[vr a1, vi c1] [(.int 2), (.ref a1)])) rfl (by rw [hml]; rfl) (Steps.refl _) (a := a1) (by rw [e1]; exact q2) q2' (argsL := [(.int 2)]) (rest := []) (lenOf own_pd0 rfl) rfl (by show 2 * 0 + _ ≤ _; exact Nat.le_of_eq rfl) (hb hby d18_7) (fun _ _ => ⟨rfl, e1, (by decide : 0 + 0 ≤ _), (by decide : 0 + 0 ≤ _)⟩)
  dsimp only [Pt.U, Pt.locs, Pt.cells, Pt.slots] at X2 l2 y2 z2 st2 hQ2
  subst l2 y2 z2
  obtain ⟨rfl, Nq2, eq2⟩ := hQ2
  have N2 := Fr.app N0 Nq2
  refine own_tr st2 ?_
  show gs T2 m 10 #[vr a1, vi c1] []
  refine oaloadN X2 hx hby d18_10 rfl rfl ?_
  refine oV 0 X2 hx hZ hby hml hown (own_w hw 127 rfl) (own_w hw 69 rfl) (own_w hw 71 rfl) (own_w hw 70 rfl) (rm_asbLat1 l Z a0 hw [] a1 zCS h0 n0 Z0 O0 S_CS P_CS Fc) (own_w hw 72 rfl) (own_w hw 26 rfl) eq2 E_1 (by decide) own_pd11 d18_11 rfl rfl rfl (fun T3 L3 v3 X3 hQ3 => ?_)
  obtain ⟨rfl, Nq3, eq3⟩ := hQ3
  have N3 := Fr.app N2 Nq3
  show gs T3 m 14 #[vr a1, vi c1] [(.int 0)]
  refine own_st (fun _ kS => XS.ifYes X3.here hx rfl (pc0 := 14) (pc' := 45) rfl (hb hby d18_14) rfl ((if0 _ _).trans (teq (by decide : (0 : Int32) = (0 : Int32))).1) (by decide) (by decide) kS) ?_
  show gs T3 m 45 #[vr a1, vi c1] []
  refine oaloadN X3 hx hby d18_45 rfl rfl ?_
  refine oV 0 X3 hx hZ hby hml hown (own_w hw 127 rfl) (own_w hw 69 rfl) (own_w hw 71 rfl) (own_w hw 70 rfl) (rm_asbLat1 l Z a0 hw [] a1 zCS h0 n0 Z0 O0 S_CS P_CS Fc) (own_w hw 72 rfl) (own_w hw 26 rfl) eq3 E_1 (by decide) own_pd11 d18_46 rfl rfl rfl (fun T4 L4 v4 X4 hQ4 => ?_)
  obtain ⟨rfl, Nq4, eq4⟩ := hQ4
  have N4 := Fr.app N3 Nq4
  show gs T4 m 49 #[vr a1, vi c1] [(.int 0)]
  refine own_st (fun _ kS => XS.ifYes X4.here hx rfl (pc0 := 49) (pc' := 56) rfl (hb hby d18_49) rfl ((if0 _ _).trans (teq (by decide : (0 : Int32) = (0 : Int32))).1) (by decide) (by decide) kS) ?_
  show gs T4 m 56 #[vr a1, vi c1] []
  refine oaloadN X4 hx hby d18_56 rfl rfl ?_
  obtain ⟨T5, X5, e5, st5⟩ := getF X4 hx hZ hown (host := "") (Or.inl (own_w hw 33 rfl)) Via.refl eq4 Fv (g := (mkF m 57 #[vr a1, vi c1] [(.ref a1)])) rfl rfl (hb hby d18_57)
  refine own_st st5 ?_
  show gs T5 m 60 #[vr a1, vi c1] [(.ref tA)]
  refine oaloadN X5 hx hby d18_60 rfl rfl ?_
  refine own_st (fun _ kS => XS.dup X5.here hx rfl (hb hby d18_61) rfl rfl kS) ?_
  show gs T5 m 62 #[vr a1, vi c1] [(.ref a1), (.ref a1), (.ref tA)]
  obtain ⟨T6, X6, e6, st6⟩ := getF X5 hx hZ hown (host := "") (Or.inl (own_w hw 66 rfl)) Via.refl e5 Fn (g := (mkF m 62 #[vr a1, vi c1] [(.ref a1), (.ref a1), (.ref tA)])) rfl rfl (hb hby d18_62)
  refine own_st st6 ?_
  show gs T6 m 65 #[vr a1, vi c1] [(.int 1), (.ref a1), (.ref tA)]
  refine own_st (fun _ kS => XT.dupX1 X6.here hx rfl (hb hby d18_65) rfl rfl rfl kS) ?_
  show gs T6 m 66 #[vr a1, vi c1] [(.int 1), (.ref a1), (.int 1), (.ref tA)]
  refine oiconst X6 hx hby d18_66 ?_
  refine own_st (fun _ kS => XS.iadd X6.here hx rfl (hb hby d18_67) rfl kS) ?_
  show gs T6 m 68 #[vr a1, vi c1] [(.int 2), (.ref a1), (.int 1), (.ref tA)]
  obtain ⟨T7, h7, X7, e7, W7, st7⟩ := putF X6 hx hZ hown (host := "") (Or.inl (own_w hw 66 rfl)) Via.refl e6 Fn E_1 (Or.inl (own_w hw 67 rfl)) (own_w hw 15 rfl) (ty := .int) (by decide) rfl rfl (g := (mkF m 68 #[vr a1, vi c1] [(.int 2), (.ref a1), (.int 1), (.ref tA)])) rfl rfl (hb hby d18_68)
  refine own_st st7 ?_
  have N7 := Fr.snoc X7 N4 g_1
  have K7 := K0.wr W7 (Or.inl (List.mem_of_getElem? (i := 0) rfl))
  have O7 := O0.wr W7 g_1
  have Fw7 := Fld.same W7 Fn
  show gs T7 m 71 #[vr a1, vi c1] [(.int 1), (.ref tA)]
  refine oiloadN X7 hx hby d18_71 rfl ?_
  refine oS 0 X7 hx hZ hby hml hown (own_w hw 190 rfl) (own_w hw 191 rfl) (own_w hw 166 rfl) (own_w hw 192 rfl) (rm_putSB_1_2 l Z a0 hw [] tA kA c1 y0 y1 y2 y3 fm h7 n0 (Nat.le_trans Z0 (Keep.of_wr W7).1) O7 (R_A.other W7 (Ne.symm ne1A)) g_A S_AD S_HI S_LO S_SF P_SF) e7 (by decide) own_pd5 d18_72 rfl rfl rfl (fun T8 L8 v8 X8 hQ8 => ?_)
  obtain ⟨rfl, Nq8, Kc8, P8_0⟩ := hQ8
  have N8 := Fr.app N7 Nq8
  have K8 := K7.trans Kc8 (allS (Or.inl (List.mem_of_getElem? (i := 1) rfl)) all0)
  have O8 := O7.keep Kc8 (allS g_A all0)
  show gs T8 m 75 #[vr a1, vi c1] []
  refine oaloadN X8 hx hby d18_75 rfl rfl ?_
  exact own_retA X8 hx hlk hret rfl rfl (hb hby d18_76) (by decide) (by decide) (show Q_asbApp_2_1_1_W Z a1 tA kA c1 y0 y1 y2 y3 zCS fm h0 n0 _ _ _ from ⟨rfl, N8, K8, ((Exa.wr W7 E_1).keep Kc8), ((Fld.other W7 Fv (Or.inr (slot_ne (Or.inl (own_w hw 34 rfl)) (Or.inl (own_w hw 67 rfl)) (by decide) (t := (.array .byte)) (t' := .int) (by decide) (by decide)))).keep Kc8 (ninS ne1A nin0)), ((Fld.other W7 Fc (Or.inr (slot_ne (Or.inl (own_w hw 36 rfl)) (Or.inl (own_w hw 67 rfl)) (by decide) (t := .byte) (t' := .int) (by decide) (by decide)))).keep Kc8 (ninS ne1A nin0)), (Fw7.keep Kc8 (ninS ne1A nin0)), ((Fld.other W7 Fm (Or.inr (slot_ne (Or.inl (own_w hw 204 rfl)) (Or.inl (own_w hw 67 rfl)) (by decide) (t := .boolean) (t' := .int) (by decide) (by decide)))).keep Kc8 (ninS ne1A nin0)), P8_0⟩)
theorem ef_sbApp_2_1_1_W (m : MethodId) (x0 : Addr) (x1 : Int32) : entryFrame m #[(.ref x0), (.int x1)] 2 = mkF m 0 #[.val (.ref x0), .val (.int x1)] [] := by first | (simp [entryFrame, mkF, argsToLocals, Value.category]; done) | rfl
def Q_sbApp_2_1_1_W (Z : State) (a1 : Addr) (tA : Addr) (kA : ClassId) (c1 : Int32) (y0 : Int32) (y1 : Int32) (y2 : Int32) (y3 : Int32) (zCS : Int32) (fm : Value) (h0 : Heap) (n0 : Nat) (v : Option Value) (h : Heap) (L : List Loc) : Prop := v = some (.ref a1) ∧ Fr n0 L ∧ Keep h0 h [a1, tA] ∧ ek20 Z h a1 ∧ fk11 Z h a1 (.ref tA) ∧ fk12 Z h a1 (.int 1) ∧ fk13 Z h a1 (.int 2) ∧ fk14 Z h a1 (.int 0) ∧ Arv Z h tA kA .byte (4 : Int32) [(.int y0), (.int y1), (.int (nar .byte ((c1 >>> ((0 : Int32) &&& 31)).toInt8.toInt32))), (.int (nar .byte ((c1 >>> ((8 : Int32) &&& 31)).toInt8.toInt32)))] (.int 0)
theorem rm_sbApp_2_1_1_W (l : Launch) (Z : State) (a0 : Array Value) (hw : HW a0 Z) (ws : List Jvm.Cond) (a1 : Addr) (tA : Addr) (kA : ClassId) (c1 : Int32) (y0 : Int32) (y1 : Int32) (y2 : Int32) (y3 : Int32) (zCS : Int32) (fm : Value) (h0 : Heap) (n0 : Nat) (Z0 : n0 ≤ h0.size) (O0 : Old Z n0 h0) (E_1 : ek20 Z h0 a1) (g_1 : n0 ≤ a1) (Fv : fk11 Z h0 a1 (.ref tA)) (Fc : fk12 Z h0 a1 (.int 1)) (Fn : fk13 Z h0 a1 (.int 1)) (Fm : fk14 Z h0 a1 (.int 0)) (ne1A : a1 ≠ tA) (R_A : Arv Z h0 tA kA .byte (4 : Int32) [(.int y0), (.int y1), (.int y2), (.int y3)] (.int 0)) (g_A : n0 ≤ tA) (S_CS : sk0 Z Z.heap (.int zCS)) (P_CS : ¬ zCS = 0) (S_SF : sk4 Z Z.heap fm) (P_SF : fm.isRef = true) (S_AD : sk1 Z Z.heap (.int 1)) (S_HI : sk2 Z Z.heap (.int 0)) (S_LO : sk3 Z Z.heap (.int 8)) :
    M20 l ws (rmk 5 0 0 67) Z #[(.ref a1), (.int c1)] h0 (Q_sbApp_2_1_1_W Z a1 tA kA c1 y0 y1 y2 y3 zCS fm h0 n0) := by
  refine own_go "java/lang/StringBuilder" rfl (plainFor_of_name pn_17) (fun m => ef_sbApp_2_1_1_W m a1 c1) (fun p e s m below meth c s₁ hx hby hml hown hnm hlk hret hZ X0 e0 => ?_)
  have N0 := Fr.nil n0
  have K0 := Keep.refl h0 [a1, tA]
  show gs s₁ m 0 #[vr a1, vi c1] []
  refine oaloadN X0 hx hby d17_0 rfl rfl ?_
  refine oiloadN X0 hx hby d17_1 rfl ?_
  show gs s₁ m 2 #[vr a1, vi c1] [(.int c1), (.ref a1)]
  obtain ⟨_, _, ⟨T1, L1, k1, n1⟩, -, X1, ⟨Lc1, hQ1, l1, y1, z1⟩, st1⟩ := superBack X0 hx hZ (y := (⟨"java/lang/AbstractStringBuilder", "append", "(C)Ljava/lang/AbstractStringBuilder;"⟩ : MethodName)) hown (own_w hw 118 rfl) (own_same (own_w hw 55 rfl) rfl (own_w hw 119 rfl) (by decide)) (own_w hw 119 rfl) (own_w hw 64 rfl) (by decide) (backOf (W := 0) (rm_asbApp_2_1_1_W l Z a0 hw [] a1 tA kA c1 y0 y1 y2 y3 zCS fm h0 n0 Z0 O0 E_1 g_1 Fv Fc Fn Fm ne1A R_A g_A S_CS P_CS S_SF P_SF S_AD S_HI S_LO) hZ (own_w hw 121 rfl) (own_w hw 26 rfl) (by decide) (by decide)) e0 (Ins.self E_1) (g := (mkF m 2 #[vr a1, vi c1] [(.int c1), (.ref a1)])) rfl (by rw [hml]; rfl) (own_w hw 121 rfl) (argsL := [(.int c1)]) (rest := []) (lenOf own_pd14 rfl) rfl (by show 2 * 0 + _ ≤ _; exact Nat.le_of_eq rfl) (hb hby d17_2) (fun _ _ => ⟨rfl, e0, (by decide : 0 + 0 ≤ _), (by decide : 0 + 0 ≤ _)⟩)
  dsimp only [Pt.U, Pt.locs, Pt.cells, Pt.slots] at X1 l1 y1 z1 st1 hQ1
  subst l1 y1 z1
  obtain ⟨rfl, Nq1, Kc1, P1_0, P1_1, P1_2, P1_3, P1_4, P1_5⟩ := hQ1
  have N1 := Fr.app N0 Nq1
  have K1 := K0.trans Kc1 (allS (Or.inl (List.mem_of_getElem? (i := 0) rfl)) (allS (Or.inl (List.mem_of_getElem? (i := 1) rfl)) all0))
  have O1 := O0.keep Kc1 (allS g_1 (allS g_A all0))
  refine own_tr st1 ?_
  show gs T1 m 5 #[vr a1, vi c1] [(.ref a1)]
  refine own_st (fun _ kS => XT.pop X1.here hx rfl (hb hby d17_5) rfl rfl kS) ?_
  refine oaloadN X1 hx hby d17_6 rfl rfl ?_
  exact own_retA X1 hx hlk hret rfl rfl (hb hby d17_7) (by decide) (by decide) (show Q_sbApp_2_1_1_W Z a1 tA kA c1 y0 y1 y2 y3 zCS fm h0 n0 _ _ _ from ⟨rfl, N1, K1, P1_0, P1_1, P1_2, P1_3, P1_4, P1_5⟩)
theorem d9_0 : dk B21 0 (.aload_n 0) 1 := by decide +kernel
theorem d9_1 : dk B21 1 (.getfield 15) 3 := by decide +kernel
theorem d9_4 : dk B21 4 (.areturn) 1 := by decide +kernel
theorem pn_9 : plainName "java/lang/AbstractStringBuilder" = true := by first | (simp [plainName, overriddenIn]; done) | decide +kernel
theorem ef_getValue (m : MethodId) (x0 : Addr) : entryFrame m #[(.ref x0)] 1 = mkF m 0 #[.val (.ref x0)] [] := by first | (simp [entryFrame, mkF, argsToLocals, Value.category]; done) | rfl
def Q_getValue (Z : State) (a1 : Addr) (tA : Addr) (h0 : Heap) (n0 : Nat) (v : Option Value) (h : Heap) (L : List Loc) : Prop := v = some (.ref tA) ∧ Fr n0 L ∧ h = h0
theorem rm_getValue (l : Launch) (Z : State) (a0 : Array Value) (hw : HW a0 Z) (ws : List Jvm.Cond) (a1 : Addr) (tA : Addr) (h0 : Heap) (n0 : Nat) (Z0 : n0 ≤ h0.size) (Fv : fk11 Z h0 a1 (.ref tA)) :
    M21 l ws (rmk 0 0 0 0) Z #[(.ref a1)] h0 (Q_getValue Z a1 tA h0 n0) := by
  refine own_go "java/lang/AbstractStringBuilder" rfl (plainFor_of_name pn_9) (fun m => ef_getValue m a1) (fun p e s m below meth c s₁ hx hby hml hown hnm hlk hret hZ X0 e0 => ?_)
  have N0 := Fr.nil n0
  show gs s₁ m 0 #[vr a1] []
  refine oaloadN X0 hx hby d9_0 rfl rfl ?_
  obtain ⟨T1, X1, e1, st1⟩ := getF X0 hx hZ hown (host := "") (Or.inl (own_w hw 33 rfl)) Via.refl e0 Fv (g := (mkF m 1 #[vr a1] [(.ref a1)])) rfl rfl (hb hby d9_1)
  refine own_st st1 ?_
  show gs T1 m 4 #[vr a1] [(.ref tA)]
  exact own_retA X1 hx hlk hret rfl rfl (hb hby d9_4) (by decide) (by decide) (by rw [e1]; exact ⟨rfl, N0, rfl⟩)
theorem d11_0 : dk B22 0 (.aload_n 0) 1 := by decide +kernel
theorem d11_1 : dk B22 1 (.getfield 79) 3 := by decide +kernel
theorem d11_4 : dk B22 4 (.ireturn) 1 := by decide +kernel
theorem pn_11 : plainName "java/lang/AbstractStringBuilder" = true := by first | (simp [plainName, overriddenIn]; done) | decide +kernel
theorem ef_asbLen_0 (m : MethodId) (x0 : Addr) : entryFrame m #[(.ref x0)] 1 = mkF m 0 #[.val (.ref x0)] [] := by first | (simp [entryFrame, mkF, argsToLocals, Value.category]; done) | rfl
def Q_asbLen_0 (Z : State) (a1 : Addr) (h0 : Heap) (n0 : Nat) (v : Option Value) (h : Heap) (L : List Loc) : Prop := v = some (.int 0) ∧ Fr n0 L ∧ h = h0
theorem rm_asbLen_0 (l : Launch) (Z : State) (a0 : Array Value) (hw : HW a0 Z) (ws : List Jvm.Cond) (a1 : Addr) (h0 : Heap) (n0 : Nat) (Z0 : n0 ≤ h0.size) (Fn : fk13 Z h0 a1 (.int 0)) :
    M22 l ws (rmk 0 0 0 0) Z #[(.ref a1)] h0 (Q_asbLen_0 Z a1 h0 n0) := by
  refine own_go "java/lang/AbstractStringBuilder" rfl (plainFor_of_name pn_11) (fun m => ef_asbLen_0 m a1) (fun p e s m below meth c s₁ hx hby hml hown hnm hlk hret hZ X0 e0 => ?_)
  have N0 := Fr.nil n0
  show gs s₁ m 0 #[vr a1] []
  refine oaloadN X0 hx hby d11_0 rfl rfl ?_
  obtain ⟨T1, X1, e1, st1⟩ := getF X0 hx hZ hown (host := "") (Or.inl (own_w hw 66 rfl)) Via.refl e0 Fn (g := (mkF m 1 #[vr a1] [(.ref a1)])) rfl rfl (hb hby d11_1)
  refine own_st st1 ?_
  show gs T1 m 4 #[vr a1] [(.int 0)]
  exact own_retI X1 hx hlk hret (hb hby d11_4) (by decide) (by decide) (by rw [e1]; exact ⟨rfl, N0, rfl⟩)
theorem d10_0 : dk B23 0 (.aload_n 0) 1 := by decide +kernel
theorem d10_1 : dk B23 1 (.invokespecial 343) 3 := by decide +kernel
theorem d10_4 : dk B23 4 (.ireturn) 1 := by decide +kernel
theorem pn_10 : plainName "java/lang/StringBuilder" = true := by first | (simp [plainName, overriddenIn]; done) | decide +kernel
theorem own_pd16 : parseMethodDescriptor "()I" = some ⟨[], some .int⟩ := by decide +kernel
theorem ef_sbLen_0 (m : MethodId) (x0 : Addr) : entryFrame m #[(.ref x0)] 1 = mkF m 0 #[.val (.ref x0)] [] := by first | (simp [entryFrame, mkF, argsToLocals, Value.category]; done) | rfl
def Q_sbLen_0 (Z : State) (a1 : Addr) (h0 : Heap) (n0 : Nat) (v : Option Value) (h : Heap) (L : List Loc) : Prop := v = some (.int 0) ∧ Fr n0 L ∧ h = h0
theorem rm_sbLen_0 (l : Launch) (Z : State) (a0 : Array Value) (hw : HW a0 Z) (ws : List Jvm.Cond) (a1 : Addr) (h0 : Heap) (n0 : Nat) (Z0 : n0 ≤ h0.size) (E_1 : ek20 Z h0 a1) (Fn : fk13 Z h0 a1 (.int 0)) :
    M23 l ws (rmk 1 0 0 12) Z #[(.ref a1)] h0 (Q_sbLen_0 Z a1 h0 n0) := by
  refine own_go "java/lang/StringBuilder" rfl (plainFor_of_name pn_10) (fun m => ef_sbLen_0 m a1) (fun p e s m below meth c s₁ hx hby hml hown hnm hlk hret hZ X0 e0 => ?_)
  have N0 := Fr.nil n0
  show gs s₁ m 0 #[vr a1] []
  refine oaloadN X0 hx hby d10_0 rfl rfl ?_
  show gs s₁ m 1 #[vr a1] [(.ref a1)]
  obtain ⟨_, _, ⟨T1, L1, k1, n1⟩, -, X1, ⟨Lc1, hQ1, l1, y1, z1⟩, st1⟩ := superBack X0 hx hZ (y := (⟨"java/lang/AbstractStringBuilder", "length", "()I"⟩ : MethodName)) hown (own_w hw 63 rfl) (own_same (own_w hw 55 rfl) rfl (own_w hw 59 rfl) (by decide)) (own_w hw 59 rfl) (own_w hw 64 rfl) (by decide) (backOf (W := 0) (rm_asbLen_0 l Z a0 hw [] a1 h0 n0 Z0  Fn) hZ (own_w hw 65 rfl) (own_w hw 26 rfl) (by decide) (by decide)) e0 (Ins.self E_1) (g := (mkF m 1 #[vr a1] [(.ref a1)])) rfl (by rw [hml]; rfl) (own_w hw 65 rfl) (argsL := []) (rest := []) (lenOf own_pd16 rfl) rfl (by show 2 * 0 + _ ≤ _; exact Nat.le_of_eq rfl) (hb hby d10_1) (fun _ _ => ⟨rfl, e0, (by decide : 0 + 0 ≤ _), (by decide : 0 + 0 ≤ _)⟩)
  dsimp only [Pt.U, Pt.locs, Pt.cells, Pt.slots] at X1 l1 y1 z1 st1 hQ1
  subst l1 y1 z1
  obtain ⟨rfl, Nq1, eq1⟩ := hQ1
  have N1 := Fr.app N0 Nq1
  refine own_tr st1 ?_
  show gs T1 m 4 #[vr a1] [(.int 0)]
  exact own_retI X1 hx hlk hret (hb hby d10_4) (by decide) (by decide) (by rw [eq1]; exact ⟨rfl, N1, rfl⟩)
theorem d13_0 : dk B24 0 (.iload_n 1) 1 := by decide +kernel
theorem d13_1 : dk B24 1 (.ifCond .ne 9) 3 := by decide +kernel
theorem d13_4 : dk B24 4 (.iload_n 2) 1 := by decide +kernel
theorem d13_5 : dk B24 5 (.aload_n 0) 1 := by decide +kernel
theorem d13_6 : dk B24 6 (.arraylength) 1 := by decide +kernel
theorem d13_7 : dk B24 7 (.if_icmp .eq 10) 3 := by decide +kernel
theorem d13_10 : dk B24 10 (.aload_n 0) 1 := by decide +kernel
theorem d13_11 : dk B24 11 (.iload_n 1) 1 := by decide +kernel
theorem d13_12 : dk B24 12 (.iload_n 2) 1 := by decide +kernel
theorem d13_13 : dk B24 13 (.invokestatic 339) 3 := by decide +kernel
theorem d13_16 : dk B24 16 (.areturn) 1 := by decide +kernel
theorem d13_17 : dk B24 17 (.aload_n 0) 1 := by decide +kernel
theorem d13_18 : dk B24 18 (.invokevirtual 310) 3 := by decide +kernel
theorem d13_21 : dk B24 21 (.checkcast 311) 3 := by decide +kernel
theorem d13_24 : dk B24 24 (.areturn) 1 := by decide +kernel
theorem pn_13 : plainName "java/util/Arrays" = true := by first | (simp [plainName, overriddenIn]; done) | decide +kernel
theorem ef_copy_0 (m : MethodId) (x0 : Addr) : entryFrame m #[(.ref x0), (.int 0), (.int 0)] 3 = mkF m 0 #[.val (.ref x0), .val (.int 0), .val (.int 0)] [] := by first | (simp [entryFrame, mkF, argsToLocals, Value.category]; done) | rfl
def Q_copy_0 (Z : State) (tA : Addr) (kA : ClassId) (h0 : Heap) (n0 : Nat) (v : Option Value) (h : Heap) (L : List Loc) : Prop := ∃ tN : Addr, v = some (.ref tN) ∧ Fr n0 L ∧ Keep h0 h [] ∧ h0.size ≤ tN ∧ Arv Z h tN kA .byte (0 : Int32) [] (.int 0)
theorem rm_copy_0 (l : Launch) (Z : State) (a0 : Array Value) (hw : HW a0 Z) (ws : List Jvm.Cond) (tA : Addr) (kA : ClassId) (h0 : Heap) (n0 : Nat) (Z0 : n0 ≤ h0.size) (R_A : Arv Z h0 tA kA .byte (0 : Int32) [] (.int 0)) (E_A : ek19 Z h0 tA) :
    M24 l ws (rmk 1 1 0 14) Z #[(.ref tA), (.int 0), (.int 0)] h0 (Q_copy_0 Z tA kA h0 n0) := by
  refine own_go "java/util/Arrays" rfl (plainFor_of_name pn_13) (fun m => ef_copy_0 m tA) (fun p e s m below meth c s₁ hx hby hml hown hnm hlk hret hZ X0 e0 => ?_)
  have N0 := Fr.nil n0
  have K0 := Keep.refl h0 []
  show gs s₁ m 0 #[vr tA, vi 0, vi 0] []
  refine oiloadN X0 hx hby d13_0 rfl ?_
  refine own_st (fun _ kS => XS.ifNo X0.here hx rfl (hb hby d13_1) rfl ((if0 _ _).trans (teq (by decide : (0 : Int32) = (0 : Int32))).2) kS) ?_
  show gs s₁ m 4 #[vr tA, vi 0, vi 0] []
  refine oiloadN X0 hx hby d13_4 rfl ?_
  refine oaloadN X0 hx hby d13_5 rfl rfl ?_
  show gs s₁ m 6 #[vr tA, vi 0, vi 0] [(.ref tA), (.int 0)]
  obtain ⟨cl1, Ar1, qa1, qs1, qn1, qh1, qg1⟩ := id R_A
  refine own_st (fun _ kS => X0.arraylength hx (by rw [e0]; exact Ar1.1) (State.isArrayOf_alike hZ.alike Ar1.2.1) (g := (mkF m 6 #[vr tA, vi 0, vi 0] [(.ref tA), (.int 0)])) rfl rfl (hb hby d13_6) _ kS) ?_
  rw [len_of qs1 qn1]
  show gs s₁ m 7 #[vr tA, vi 0, vi 0] [(.int 0), (.int 0)]
  refine own_st (fun _ kS => XS.icmpYes X0.here hx rfl (pc0 := 7) (pc' := 17) rfl (hb hby d13_7) rfl (teq (by decide : (0 : Int32) = (0 : Int32))).1 (by decide) (by decide) kS) ?_
  show gs s₁ m 17 #[vr tA, vi 0, vi 0] []
  refine oaloadN X0 hx hby d13_17 rfl rfl ?_
  show gs s₁ m 18 #[vr tA, vi 0, vi 0] [(.ref tA)]
  obtain ⟨T2, h2, X2, e2, E2, A2, B2, st2⟩ := cloneH X0 hx hZ hown (own_w hw 79 rfl) (own_w hw 80 rfl) (own_w hw 84 rfl) (own_w hw 82 rfl) (own_w hw 83 rfl) (own_w hw 85 rfl) e0 (Arv.arh R_A) E_A (g := (mkF m 18 #[vr tA, vi 0, vi 0] [(.ref tA)])) rfl (by rw [hml]; rfl) rfl (hb hby d13_18) (by decide) (W := 0) (cap := 0) (by show 2 * 0 + _ ≤ _; exact Nat.le_of_eq rfl) (by decide) (by decide) (by decide) (by decide)
  obtain ⟨b2, g2⟩ : ∃ z, z = h0.size := ⟨_, rfl⟩
  have ne_tA_b2 : tA ≠ b2 := Nat.ne_of_lt (Nat.lt_of_lt_of_eq R_A.lt g2.symm)
  have ge_b2 : n0 ≤ b2 := Nat.le_trans Z0 (Nat.le_of_eq g2.symm)
  have sz_b2 : h0.size ≤ b2 := Nat.le_trans K0.1 (Nat.le_of_eq g2.symm)
  rw [← g2] at A2 B2 st2
  have K2 := K0.ext E2
  have R2 : Arv Z h2 b2 kA .byte (0 : Int32) [] (.int 0) := A2
  refine own_st st2 ?_
  show gs T2 m 21 #[vr tA, vi 0, vi 0] [(.ref b2)]
  obtain ⟨T3, X3, e3, st3⟩ := castY X2 hx hZ hown (own_w hw 86 rfl) e2 (Ins.self B2) (g := (mkF m 21 #[vr tA, vi 0, vi 0] [(.ref b2)])) rfl rfl (hb hby d13_21)
  refine own_st st3 ?_
  show gs T3 m 24 #[vr tA, vi 0, vi 0] [(.ref b2)]
  exact own_retA X3 hx hlk hret rfl rfl (hb hby d13_24) (by decide) (by decide) (by rw [e3]; exact ⟨b2, ⟨rfl, N0, K2, sz_b2, R2⟩⟩)
theorem d8_0 : dk B25 0 (.aload_n 0) 1 := by decide +kernel
theorem d8_1 : dk B25 1 (.invokespecial 1) 3 := by decide +kernel
theorem d8_4 : dk B25 4 (.aload_n 1) 1 := by decide +kernel
theorem d8_5 : dk B25 5 (.invokevirtual 552) 3 := by decide +kernel
theorem d8_8 : dk B25 8 (.astore_n 3) 1 := by decide +kernel
theorem d8_9 : dk B25 9 (.aload_n 1) 1 := by decide +kernel
theorem d8_10 : dk B25 10 (.invokevirtual 549) 3 := by decide +kernel
theorem d8_13 : dk B25 13 (.istore 4) 2 := by decide +kernel
theorem d8_15 : dk B25 15 (.aload_n 1) 1 := by decide +kernel
theorem d8_16 : dk B25 16 (.invokevirtual 1047) 3 := by decide +kernel
theorem d8_19 : dk B25 19 (.ifCond .eq 22) 3 := by decide +kernel
theorem d8_22 : dk B25 22 (.aload_n 0) 1 := by decide +kernel
theorem d8_23 : dk B25 23 (.iconst 0) 1 := by decide +kernel
theorem d8_24 : dk B25 24 (.putfield 15) 3 := by decide +kernel
theorem d8_27 : dk B25 27 (.aload_n 0) 1 := by decide +kernel
theorem d8_28 : dk B25 28 (.aload_n 3) 1 := by decide +kernel
theorem d8_29 : dk B25 29 (.iconst 0) 1 := by decide +kernel
theorem d8_30 : dk B25 30 (.iload 4) 2 := by decide +kernel
theorem d8_32 : dk B25 32 (.invokestatic 54) 3 := by decide +kernel
theorem d8_35 : dk B25 35 (.putfield 9) 3 := by decide +kernel
theorem d8_38 : dk B25 38 (.goto 59) 3 := by decide +kernel
theorem d8_41 : dk B25 41 (.getstatic 38) 3 := by decide +kernel
theorem d8_44 : dk B25 44 (.ifCond .eq 35) 3 := by decide +kernel
theorem d8_47 : dk B25 47 (.aload_n 1) 1 := by decide +kernel
theorem d8_48 : dk B25 48 (.getfield 1048) 3 := by decide +kernel
theorem d8_51 : dk B25 51 (.ifCond .eq 28) 3 := by decide +kernel
theorem d8_54 : dk B25 54 (.aload_n 0) 1 := by decide +kernel
theorem d8_55 : dk B25 55 (.aload_n 3) 1 := by decide +kernel
theorem d8_56 : dk B25 56 (.iconst 0) 1 := by decide +kernel
theorem d8_57 : dk B25 57 (.iload 4) 2 := by decide +kernel
theorem d8_59 : dk B25 59 (.invokestatic 1051) 3 := by decide +kernel
theorem d8_62 : dk B25 62 (.putfield 9) 3 := by decide +kernel
theorem d8_65 : dk B25 65 (.aload_n 0) 1 := by decide +kernel
theorem d8_66 : dk B25 66 (.aload_n 0) 1 := by decide +kernel
theorem d8_67 : dk B25 67 (.getfield 9) 3 := by decide +kernel
theorem d8_70 : dk B25 70 (.iload 4) 2 := by decide +kernel
theorem d8_72 : dk B25 72 (.invokestatic 47) 3 := by decide +kernel
theorem d8_75 : dk B25 75 (.putfield 15) 3 := by decide +kernel
theorem d8_78 : dk B25 78 (.return_) 1 := by decide +kernel
theorem d8_79 : dk B25 79 (.aload_n 0) 1 := by decide +kernel
theorem d8_80 : dk B25 80 (.iconst 1) 1 := by decide +kernel
theorem d8_81 : dk B25 81 (.putfield 15) 3 := by decide +kernel
theorem d8_84 : dk B25 84 (.aload_n 0) 1 := by decide +kernel
theorem d8_85 : dk B25 85 (.aload_n 3) 1 := by decide +kernel
theorem d8_86 : dk B25 86 (.iconst 0) 1 := by decide +kernel
theorem d8_87 : dk B25 87 (.iload 4) 2 := by decide +kernel
theorem d8_89 : dk B25 89 (.iconst 1) 1 := by decide +kernel
theorem d8_90 : dk B25 90 (.ishl) 1 := by decide +kernel
theorem d8_91 : dk B25 91 (.invokestatic 54) 3 := by decide +kernel
theorem d8_94 : dk B25 94 (.putfield 9) 3 := by decide +kernel
theorem d8_97 : dk B25 97 (.return_) 1 := by decide +kernel
theorem pn_8 : plainName "java/lang/String" = true := by first | (simp [plainName, overriddenIn]; done) | decide +kernel
theorem own_pd17 : parseMethodDescriptor "()[B" = some ⟨[], some (.array .byte)⟩ := by decide +kernel
theorem own_pd18 : parseMethodDescriptor "([BII)[B" = some ⟨[(.array .byte), .int, .int], some (.array .byte)⟩ := by decide +kernel
theorem ef_strInitA_0_0 (m : MethodId) (x0 : Addr) (x1 : Addr) : entryFrame m #[(.ref x0), (.ref x1), .null] 5 = mkF m 0 #[.val (.ref x0), .val (.ref x1), .val .null, .unset, .unset] [] := by first | (simp [entryFrame, mkF, argsToLocals, Value.category]; done) | rfl
def Q_strInitA_0_0 (Z : State) (aS : Addr) (a1 : Addr) (tA : Addr) (kA : ClassId) (zCS : Int32) (h0 : Heap) (n0 : Nat) (v : Option Value) (h : Heap) (L : List Loc) : Prop := ∃ tN : Addr, v = none ∧ Fr n0 L ∧ Keep h0 h [aS] ∧ h0.size ≤ tN ∧ ek21 Z h aS ∧ fk15 Z h aS (.int 0) ∧ fk16 Z h aS (.ref tN) ∧ Arv Z h tN kA .byte (0 : Int32) [] (.int 0)
theorem rm_strInitA_0_0 (l : Launch) (Z : State) (a0 : Array Value) (hw : HW a0 Z) (ws : List Jvm.Cond) (aS : Addr) (a1 : Addr) (tA : Addr) (kA : ClassId) (zCS : Int32) (h0 : Heap) (n0 : Nat) (Z0 : n0 ≤ h0.size) (O0 : Old Z n0 h0) (E_0 : ek21 Z h0 aS) (g_0 : n0 ≤ aS) (F0v : fk16 Z h0 aS .null) (F0c : fk15 Z h0 aS (.int 0)) (ne01 : aS ≠ a1) (ne0A : aS ≠ tA) (E_1 : ek20 Z h0 a1) (Fv : fk11 Z h0 a1 (.ref tA)) (Fc : fk12 Z h0 a1 (.int 0)) (Fn : fk13 Z h0 a1 (.int 0)) (Fm : fk14 Z h0 a1 (.int 0)) (R_A : Arv Z h0 tA kA .byte (0 : Int32) [] (.int 0)) (E_A : ek19 Z h0 tA) (S_CS : sk0 Z Z.heap (.int zCS)) (P_CS : ¬ zCS = 0) :
    M25 l ws (rmk 2 1 0 29) Z #[(.ref aS), (.ref a1), .null] h0 (Q_strInitA_0_0 Z aS a1 tA kA zCS h0 n0) := by
  refine own_go "java/lang/String" rfl (plainFor_of_name pn_8) (fun m => ef_strInitA_0_0 m aS a1) (fun p e s m below meth c s₁ hx hby hml hown hnm hlk hret hZ X0 e0 => ?_)
  have N0 := Fr.nil n0
  have K0 := Keep.refl h0 [aS]
  show gs s₁ m 0 #[vr aS, vr a1, .val .null, .unset, .unset] []
  refine oaloadN X0 hx hby d8_0 rfl rfl ?_
  obtain ⟨T1, X1, e1, st1⟩ := initO X0 hx hZ hown (own_w hw 51 rfl) (own_w hw 29 rfl) (own_w hw 30 rfl) e0 (g := (mkF m 1 #[vr aS, vr a1, .val .null, .unset, .unset] [(.ref aS)])) rfl (by rw [hml]; rfl) rfl (hb hby d8_1) (by decide) (W := 0) (by show 2 * 0 + _ ≤ _; exact Nat.le_of_eq rfl) (by decide)
  refine own_st st1 ?_
  show gs T1 m 4 #[vr aS, vr a1, .val .null, .unset, .unset] []
  refine oaloadN X1 hx hby d8_4 rfl rfl ?_
  refine oV 0 X1 hx hZ hby hml hown (own_w hw 52 rfl) (own_w hw 53 rfl) (own_w hw 55 rfl) (own_w hw 54 rfl) (rm_getValue l Z a0 hw [] a1 tA h0 n0 Z0  Fv) (own_w hw 56 rfl) (own_w hw 26 rfl) e1 E_1 (by decide) own_pd17 d8_5 rfl rfl rfl (fun T2 L2 v2 X2 hQ2 => ?_)
  obtain ⟨rfl, Nq2, eq2⟩ := hQ2
  have N2 := Fr.app N0 Nq2
  show gs T2 m 8 #[vr aS, vr a1, .val .null, .unset, .unset] [(.ref tA)]
  refine own_st (fun _ kS => XS.astoreN X2.here hx rfl (hb hby d8_8) rfl rfl (l' := #[vr aS, vr a1, .val .null, vr tA, .unset]) rfl kS) ?_
  refine oaloadN X2 hx hby d8_9 rfl rfl ?_
  show gs T2 m 10 #[vr aS, vr a1, .val .null, vr tA, .unset] [(.ref a1)]
  obtain ⟨cq3, kq3, q3a, q3b, q3c⟩ := isOf hZ eq2 E_1
  obtain ⟨_, _, ⟨T3, L3, k3, n3⟩, -, X3, ⟨Lc3, hQ3, l3, y3, z3⟩, st3⟩ := X2.virtualBack hx (y := (⟨"java/lang/AbstractStringBuilder", "length", "()I"⟩ : MethodName)) (z := (⟨"java/lang/StringBuilder", "length", "()I"⟩ : MethodName)) hown (mvT hZ (own_w hw 57 rfl)) (mvT hZ (own_w hw 58 rfl)) (own_nf (args := #[]) (mvT hZ (own_w hw 55 rfl)) rfl) (mvT hZ (own_w hw 60 rfl)) (mvT hZ (own_w hw 61 rfl)) (by decide) (backOf (W := 0) (rm_sbLen_0 l Z a0 hw [] a1 h0 n0 Z0  E_1 Fn) hZ (own_w hw 62 rfl) (own_w hw 16 rfl) (by decide) (by decide)) q3a q3c (g := (mkF m 10 #[vr aS, vr a1, .val .null, vr tA, .unset] [(.ref a1)])) rfl (by rw [hml]; rfl) (Steps.refl _) (argsL := []) (rest := []) (lenOf own_pd16 rfl) rfl (by show 2 * 0 + _ ≤ _; exact Nat.le_of_eq rfl) (hb hby d8_10) (fun _ _ => ⟨rfl, eq2, (by decide : 0 + 0 ≤ _), (by decide : 0 + 0 ≤ _)⟩)
  dsimp only [Pt.U, Pt.locs, Pt.cells, Pt.slots] at X3 l3 y3 z3 st3 hQ3
  subst l3 y3 z3
  obtain ⟨rfl, Nq3, eq3⟩ := hQ3
  have N3 := Fr.app N2 Nq3
  refine own_tr st3 ?_
  show gs T3 m 13 #[vr aS, vr a1, .val .null, vr tA, .unset] [(.int 0)]
  refine own_st (fun _ kS => XS.istore X3.here hx rfl (hb hby d8_13) rfl (l' := #[vr aS, vr a1, .val .null, vr tA, vi 0]) rfl kS) ?_
  refine oaloadN X3 hx hby d8_15 rfl rfl ?_
  refine oV 0 X3 hx hZ hby hml hown (own_w hw 68 rfl) (own_w hw 69 rfl) (own_w hw 71 rfl) (own_w hw 70 rfl) (rm_asbLat0 l Z a0 hw [] a1 zCS h0 n0 Z0 O0 S_CS P_CS Fc) (own_w hw 72 rfl) (own_w hw 26 rfl) eq3 E_1 (by decide) own_pd11 d8_16 rfl rfl rfl (fun T4 L4 v4 X4 hQ4 => ?_)
  obtain ⟨rfl, Nq4, eq4⟩ := hQ4
  have N4 := Fr.app N3 Nq4
  show gs T4 m 19 #[vr aS, vr a1, .val .null, vr tA, vi 0] [(.int 1)]
  refine own_st (fun _ kS => XS.ifNo X4.here hx rfl (hb hby d8_19) rfl ((if0 _ _).trans (feq (by decide : ¬ ((1 : Int32) = (0 : Int32)))).1) kS) ?_
  show gs T4 m 22 #[vr aS, vr a1, .val .null, vr tA, vi 0] []
  refine oaloadN X4 hx hby d8_22 rfl rfl ?_
  refine oiconst X4 hx hby d8_23 ?_
  show gs T4 m 24 #[vr aS, vr a1, .val .null, vr tA, vi 0] [(.int 0), (.ref aS)]
  obtain ⟨T5, h5, X5, e5, W5, st5⟩ := putFN X4 hx hZ hown (own_w hw 73 rfl) Via.refl eq4 F0c E_0 (Or.inr ⟨(own_w hw 74 rfl), rfl, hnm⟩) (own_w hw 43 rfl) (ty := .byte) (v' := (.int 0)) (by decide) rfl (by decide) (g := (mkF m 24 #[vr aS, vr a1, .val .null, vr tA, vi 0] [(.int 0), (.ref aS)])) rfl rfl (hb hby d8_24)
  refine own_st st5 ?_
  have N5 := Fr.snoc X5 N4 g_0
  have K5 := K0.wr W5 (Or.inl (List.mem_of_getElem? (i := 0) rfl))
  have O5 := O0.wr W5 g_0
  have Fw5 := Fld.same W5 F0c
  show gs T5 m 27 #[vr aS, vr a1, .val .null, vr tA, vi 0] []
  refine oaloadN X5 hx hby d8_27 rfl rfl ?_
  refine oaloadN X5 hx hby d8_28 rfl rfl ?_
  refine oiconst X5 hx hby d8_29 ?_
  refine oiload X5 hx hby d8_30 rfl ?_
  refine oS 1 X5 hx hZ hby hml hown (own_w hw 75 rfl) (own_w hw 76 rfl) (own_w hw 77 rfl) (own_w hw 78 rfl) (rm_copy_0 l Z a0 hw [] tA kA h5 n0 (Nat.le_trans Z0 (Keep.of_wr W5).1)  (R_A.other W5 (Ne.symm ne0A)) (Exa.wr W5 E_A)) e5 (by decide) own_pd18 d8_32 rfl rfl rfl (fun T6 L6 v6 X6 hQ6 => ?_)
  obtain ⟨tN_6, rfl, Nq6, Kc6, P6_0, P6_1⟩ := hQ6
  have N6 := Fr.app N5 Nq6
  have ne_aS_tN_6 : aS ≠ tN_6 := Nat.ne_of_lt (Nat.lt_of_lt_of_le (Exa.wr W5 E_0).lt P6_0)
  have ne_a1_tN_6 : a1 ≠ tN_6 := Nat.ne_of_lt (Nat.lt_of_lt_of_le (Exa.wr W5 E_1).lt P6_0)
  have ne_tA_tN_6 : tA ≠ tN_6 := Nat.ne_of_lt (Nat.lt_of_lt_of_le (R_A.other W5 (Ne.symm ne0A)).lt P6_0)
  have ge_tN_6 : n0 ≤ tN_6 := Nat.le_trans (Nat.le_trans Z0 (Keep.of_wr W5).1) P6_0
  have sz_tN_6 : h0.size ≤ tN_6 := Nat.le_trans K5.1 P6_0
  have K6 := K5.trans Kc6 all0
  have O6 := O5.keep Kc6 all0
  show gs T6 m 35 #[vr aS, vr a1, .val .null, vr tA, vi 0] [(.ref tN_6), (.ref aS)]
  obtain ⟨T7, h7, X7, e7, W7, st7⟩ := putF X6 hx hZ hown (host := "") (Or.inl (own_w hw 88 rfl)) Via.refl rfl ((Fld.other W5 F0v (Or.inr (slot_ne (Or.inr (own_w hw 89 rfl)) (Or.inr (own_w hw 74 rfl)) (by decide) (t := (.array .byte)) (t' := .byte) (by decide) (by decide)))).keep Kc6 nin0) ((Exa.wr W5 E_0).keep Kc6) (Or.inr ⟨(own_w hw 89 rfl), rfl, hnm⟩) (own_w hw 43 rfl) (ty := (.array .byte)) (by decide) rfl rfl (g := (mkF m 35 #[vr aS, vr a1, .val .null, vr tA, vi 0] [(.ref tN_6), (.ref aS)])) rfl rfl (hb hby d8_35)
  refine own_st st7 ?_
  have N7 := Fr.snoc X7 N6 g_0
  have K7 := K6.wr W7 (Or.inl (List.mem_of_getElem? (i := 0) rfl))
  have O7 := O6.wr W7 g_0
  have Fw7 := Fld.same W7 ((Fld.other W5 F0v (Or.inr (slot_ne (Or.inr (own_w hw 89 rfl)) (Or.inr (own_w hw 74 rfl)) (by decide) (t := (.array .byte)) (t' := .byte) (by decide) (by decide)))).keep Kc6 nin0)
  show gs T7 m 38 #[vr aS, vr a1, .val .null, vr tA, vi 0] []
  refine own_st (fun _ kS => XS.goto X7.here hx rfl (pc0 := 38) (pc' := 97) rfl (hb hby d8_38) (by decide) (by decide) kS) ?_
  show gs T7 m 97 #[vr aS, vr a1, .val .null, vr tA, vi 0] []
  exact own_retV X7 hx hlk hret (hb hby d8_97) (by decide) (by decide) (by rw [e7]; exact ⟨tN_6, ⟨rfl, N7, K7, sz_tN_6, (Exa.wr W7 ((Exa.wr W5 E_0).keep Kc6)), (Fld.other W7 (Fw5.keep Kc6 nin0) (Or.inr (slot_ne (Or.inr (own_w hw 74 rfl)) (Or.inr (own_w hw 89 rfl)) (by decide) (t := .byte) (t' := (.array .byte)) (by decide) (by decide)))), Fw7, (P6_1.other W7 (Ne.symm ne_aS_tN_6))⟩⟩)
theorem d7_0 : dk B26 0 (.aload_n 0) 1 := by decide +kernel
theorem d7_1 : dk B26 1 (.aload_n 1) 1 := by decide +kernel
theorem d7_2 : dk B26 2 (.aconst_null) 1 := by decide +kernel
theorem d7_3 : dk B26 3 (.invokespecial 489) 3 := by decide +kernel
theorem d7_6 : dk B26 6 (.return_) 1 := by decide +kernel
theorem pn_7 : plainName "java/lang/String" = true := by first | (simp [plainName, overriddenIn]; done) | decide +kernel
theorem own_pd19 : parseMethodDescriptor "(Ljava/lang/AbstractStringBuilder;Ljava/lang/Void;)V" = some ⟨[(.object "java/lang/AbstractStringBuilder"), (.object "java/lang/Void")], none⟩ := by decide +kernel
theorem ef_strInitB_0_0 (m : MethodId) (x0 : Addr) (x1 : Addr) : entryFrame m #[(.ref x0), (.ref x1)] 2 = mkF m 0 #[.val (.ref x0), .val (.ref x1)] [] := by first | (simp [entryFrame, mkF, argsToLocals, Value.category]; done) | rfl
def Q_strInitB_0_0 (Z : State) (aS : Addr) (a1 : Addr) (tA : Addr) (kA : ClassId) (zCS : Int32) (h0 : Heap) (n0 : Nat) (v : Option Value) (h : Heap) (L : List Loc) : Prop := ∃ tN : Addr, v = none ∧ Fr n0 L ∧ Keep h0 h [aS] ∧ h0.size ≤ tN ∧ ek21 Z h aS ∧ fk15 Z h aS (.int 0) ∧ fk16 Z h aS (.ref tN) ∧ Arv Z h tN kA .byte (0 : Int32) [] (.int 0)
theorem rm_strInitB_0_0 (l : Launch) (Z : State) (a0 : Array Value) (hw : HW a0 Z) (ws : List Jvm.Cond) (aS : Addr) (a1 : Addr) (tA : Addr) (kA : ClassId) (zCS : Int32) (h0 : Heap) (n0 : Nat) (Z0 : n0 ≤ h0.size) (O0 : Old Z n0 h0) (E_0 : ek21 Z h0 aS) (g_0 : n0 ≤ aS) (F0v : fk16 Z h0 aS .null) (F0c : fk15 Z h0 aS (.int 0)) (ne01 : aS ≠ a1) (ne0A : aS ≠ tA) (E_1 : ek20 Z h0 a1) (Fv : fk11 Z h0 a1 (.ref tA)) (Fc : fk12 Z h0 a1 (.int 0)) (Fn : fk13 Z h0 a1 (.int 0)) (Fm : fk14 Z h0 a1 (.int 0)) (R_A : Arv Z h0 tA kA .byte (0 : Int32) [] (.int 0)) (E_A : ek19 Z h0 tA) (S_CS : sk0 Z Z.heap (.int zCS)) (P_CS : ¬ zCS = 0) :
    M26 l ws (rmk 3 1 0 45) Z #[(.ref aS), (.ref a1)] h0 (Q_strInitB_0_0 Z aS a1 tA kA zCS h0 n0) := by
  refine own_go "java/lang/String" rfl (plainFor_of_name pn_7) (fun m => ef_strInitB_0_0 m aS a1) (fun p e s m below meth c s₁ hx hby hml hown hnm hlk hret hZ X0 e0 => ?_)
  have N0 := Fr.nil n0
  have K0 := Keep.refl h0 [aS]
  show gs s₁ m 0 #[vr aS, vr a1] []
  refine oaloadN X0 hx hby d7_0 rfl rfl ?_
  refine oaloadN X0 hx hby d7_1 rfl rfl ?_
  refine own_st (fun _ kS => XS.aconstNull X0.here hx rfl (hb hby d7_2) kS) ?_
  show gs s₁ m 3 #[vr aS, vr a1] [.null, (.ref a1), (.ref aS)]
  refine oN 0 X0 hx hZ hby hml hown (own_w hw 48 rfl) (own_w hw 49 rfl) (own_w hw 32 rfl) (own_w hw 50 rfl) (rm_strInitA_0_0 l Z a0 hw [] aS a1 tA kA zCS h0 n0 Z0 O0 E_0 g_0 F0v F0c ne01 ne0A E_1 Fv Fc Fn Fm R_A E_A S_CS P_CS) e0 rfl (by decide) own_pd19 d7_3 rfl rfl rfl (fun T1 L1 v1 X1 hQ1 => ?_)
  obtain ⟨tN_1, rfl, Nq1, Kc1, P1_0, P1_1, P1_2, P1_3, P1_4⟩ := hQ1
  have N1 := Fr.app N0 Nq1
  have ne_aS_tN_1 : aS ≠ tN_1 := Nat.ne_of_lt (Nat.lt_of_lt_of_le E_0.lt P1_0)
  have ne_a1_tN_1 : a1 ≠ tN_1 := Nat.ne_of_lt (Nat.lt_of_lt_of_le E_1.lt P1_0)
  have ne_tA_tN_1 : tA ≠ tN_1 := Nat.ne_of_lt (Nat.lt_of_lt_of_le R_A.lt P1_0)
  have ge_tN_1 : n0 ≤ tN_1 := Nat.le_trans Z0 P1_0
  have sz_tN_1 : h0.size ≤ tN_1 := Nat.le_trans K0.1 P1_0
  have K1 := K0.trans Kc1 (allS (Or.inl (List.mem_of_getElem? (i := 0) rfl)) all0)
  have O1 := O0.keep Kc1 (allS g_0 all0)
  show gs T1 m 6 #[vr aS, vr a1] []
  exact own_retV X1 hx hlk hret (hb hby d7_6) (by decide) (by decide) (show Q_strInitB_0_0 Z aS a1 tA kA zCS h0 n0 _ _ _ from ⟨tN_1, ⟨rfl, N1, K1, sz_tN_1, P1_1, P1_2, P1_3, P1_4⟩⟩)
theorem d6_0 : dk B27 0 (.new 18) 3 := by decide +kernel
theorem d6_3 : dk B27 3 (.dup) 1 := by decide +kernel
theorem d6_4 : dk B27 4 (.aload_n 0) 1 := by decide +kernel
theorem d6_5 : dk B27 5 (.invokespecial 137) 3 := by decide +kernel
theorem d6_8 : dk B27 8 (.areturn) 1 := by decide +kernel
theorem pn_6 : plainName "java/lang/StringBuilder" = true := by first | (simp [plainName, overriddenIn]; done) | decide +kernel
theorem own_pd20 : parseMethodDescriptor "(Ljava/lang/StringBuilder;)V" = some ⟨[(.object "java/lang/StringBuilder")], none⟩ := by decide +kernel
theorem ef_toStr_0_0 (m : MethodId) (x0 : Addr) : entryFrame m #[(.ref x0)] 1 = mkF m 0 #[.val (.ref x0)] [] := by first | (simp [entryFrame, mkF, argsToLocals, Value.category]; done) | rfl
def Q_toStr_0_0 (Z : State) (a1 : Addr) (tA : Addr) (kA : ClassId) (zCS : Int32) (h0 : Heap) (n0 : Nat) (v : Option Value) (h : Heap) (L : List Loc) : Prop := ∃ bS : Addr, ∃ tN : Addr, v = some (.ref bS) ∧ Fr n0 L ∧ Keep h0 h [] ∧ h0.size ≤ bS ∧ h0.size ≤ tN ∧ bS ≠ tN ∧ ek21 Z h bS ∧ fk15 Z h bS (.int 0) ∧ fk16 Z h bS (.ref tN) ∧ Arv Z h tN kA .byte (0 : Int32) [] (.int 0)
theorem rm_toStr_0_0 (l : Launch) (Z : State) (a0 : Array Value) (hw : HW a0 Z) (ws : List Jvm.Cond) (a1 : Addr) (tA : Addr) (kA : ClassId) (zCS : Int32) (h0 : Heap) (n0 : Nat) (Z0 : n0 ≤ h0.size) (O0 : Old Z n0 h0) (E_1 : ek20 Z h0 a1) (Fv : fk11 Z h0 a1 (.ref tA)) (Fc : fk12 Z h0 a1 (.int 0)) (Fn : fk13 Z h0 a1 (.int 0)) (Fm : fk14 Z h0 a1 (.int 0)) (R_A : Arv Z h0 tA kA .byte (0 : Int32) [] (.int 0)) (E_A : ek19 Z h0 tA) (S_CS : sk0 Z Z.heap (.int zCS)) (P_CS : ¬ zCS = 0) :
    M27 l ws (rmk 4 2 4 59) Z #[(.ref a1)] h0 (Q_toStr_0_0 Z a1 tA kA zCS h0 n0) := by
  refine own_go "java/lang/StringBuilder" rfl (plainFor_of_name pn_6) (fun m => ef_toStr_0_0 m a1) (fun p e s m below meth c s₁ hx hby hml hown hnm hlk hret hZ X0 e0 => ?_)
  have N0 := Fr.nil n0
  have K0 := Keep.refl h0 []
  show gs s₁ m 0 #[vr a1] []
  obtain ⟨T1, h1, X1, e1, E1, A1, D1, -, st1⟩ := newO X0 hx hZ hown (own_w hw 42 rfl) (own_w hw 43 rfl) (own_w hw 32 rfl) e0 (g := (mkF m 0 #[vr a1] [])) rfl (hb hby d6_0) (by decide) (by decide)
  obtain ⟨b1, g1⟩ : ∃ z, z = h0.size := ⟨_, rfl⟩
  have ne_a1_b1 : a1 ≠ b1 := Nat.ne_of_lt (Nat.lt_of_lt_of_eq E_1.lt g1.symm)
  have ne_tA_b1 : tA ≠ b1 := Nat.ne_of_lt (Nat.lt_of_lt_of_eq R_A.lt g1.symm)
  have ge_b1 : n0 ≤ b1 := Nat.le_trans Z0 (Nat.le_of_eq g1.symm)
  have sz_b1 : h0.size ≤ b1 := Nat.le_trans K0.1 (Nat.le_of_eq g1.symm)
  rw [← g1] at A1 D1 st1
  have K1 := K0.ext E1
  have O1 := O0.ext E1
  have F1_coder : fk15 Z h1 b1 (.int 0) := D1 (Or.inr (own_w hw 74 rfl)) (ty := .byte) (by decide)
  have F1_value : fk16 Z h1 b1 .null := D1 (Or.inr (own_w hw 89 rfl)) (ty := (.array .byte)) (by decide)
  refine own_st st1 ?_
  show gs T1 m 3 #[vr a1] [(.ref b1)]
  refine own_st (fun _ kS => XS.dup X1.here hx rfl (hb hby d6_3) rfl rfl kS) ?_
  refine oaloadN X1 hx hby d6_4 rfl rfl ?_
  refine oN 1 X1 hx hZ hby hml hown (own_w hw 44 rfl) (own_w hw 45 rfl) (own_w hw 32 rfl) (own_w hw 47 rfl) (rm_strInitB_0_0 l Z a0 hw [] b1 a1 tA kA zCS h1 n0 (Nat.le_trans Z0 E1.1) O1 A1 ge_b1 F1_value F1_coder (Ne.symm ne_a1_b1) (Ne.symm ne_tA_b1) (Exa.ext E1 E_1) (Fld.ext E1 Fv) (Fld.ext E1 Fc) (Fld.ext E1 Fn) (Fld.ext E1 Fm) (Arv.ext R_A E1) (Exa.ext E1 E_A) S_CS P_CS) e1 rfl (by decide) own_pd20 d6_5 rfl rfl rfl (fun T2 L2 v2 X2 hQ2 => ?_)
  obtain ⟨tN_2, rfl, Nq2, Kc2, P2_0, P2_1, P2_2, P2_3, P2_4⟩ := hQ2
  have N2 := Fr.app N0 Nq2
  have ne_a1_tN_2 : a1 ≠ tN_2 := Nat.ne_of_lt (Nat.lt_of_lt_of_le (Exa.ext E1 E_1).lt P2_0)
  have ne_tA_tN_2 : tA ≠ tN_2 := Nat.ne_of_lt (Nat.lt_of_lt_of_le (Arv.ext R_A E1).lt P2_0)
  have ne_b1_tN_2 : b1 ≠ tN_2 := Nat.ne_of_lt (Nat.lt_of_lt_of_le A1.lt P2_0)
  have ge_tN_2 : n0 ≤ tN_2 := Nat.le_trans (Nat.le_trans Z0 E1.1) P2_0
  have sz_tN_2 : h0.size ≤ tN_2 := Nat.le_trans K1.1 P2_0
  have K2 := K1.trans Kc2 (allS (Or.inr sz_b1) all0)
  have O2 := O1.keep Kc2 (allS ge_b1 all0)
  show gs T2 m 8 #[vr a1] [(.ref b1)]
  exact own_retA X2 hx hlk hret rfl rfl (hb hby d6_8) (by decide) (by decide) (show Q_toStr_0_0 Z a1 tA kA zCS h0 n0 _ _ _ from ⟨b1, tN_2, ⟨rfl, N2, K2, sz_b1, sz_tN_2, ne_b1_tN_2, P2_1, P2_2, P2_3, P2_4⟩⟩)
theorem ef_asbLen_1 (m : MethodId) (x0 : Addr) : entryFrame m #[(.ref x0)] 1 = mkF m 0 #[.val (.ref x0)] [] := by first | (simp [entryFrame, mkF, argsToLocals, Value.category]; done) | rfl
def Q_asbLen_1 (Z : State) (a1 : Addr) (h0 : Heap) (n0 : Nat) (v : Option Value) (h : Heap) (L : List Loc) : Prop := v = some (.int 1) ∧ Fr n0 L ∧ h = h0
theorem rm_asbLen_1 (l : Launch) (Z : State) (a0 : Array Value) (hw : HW a0 Z) (ws : List Jvm.Cond) (a1 : Addr) (h0 : Heap) (n0 : Nat) (Z0 : n0 ≤ h0.size) (Fn : fk13 Z h0 a1 (.int 1)) :
    M22 l ws (rmk 0 0 0 0) Z #[(.ref a1)] h0 (Q_asbLen_1 Z a1 h0 n0) := by
  refine own_go "java/lang/AbstractStringBuilder" rfl (plainFor_of_name pn_11) (fun m => ef_asbLen_1 m a1) (fun p e s m below meth c s₁ hx hby hml hown hnm hlk hret hZ X0 e0 => ?_)
  have N0 := Fr.nil n0
  show gs s₁ m 0 #[vr a1] []
  refine oaloadN X0 hx hby d11_0 rfl rfl ?_
  obtain ⟨T1, X1, e1, st1⟩ := getF X0 hx hZ hown (host := "") (Or.inl (own_w hw 66 rfl)) Via.refl e0 Fn (g := (mkF m 1 #[vr a1] [(.ref a1)])) rfl rfl (hb hby d11_1)
  refine own_st st1 ?_
  show gs T1 m 4 #[vr a1] [(.int 1)]
  exact own_retI X1 hx hlk hret (hb hby d11_4) (by decide) (by decide) (by rw [e1]; exact ⟨rfl, N0, rfl⟩)
theorem ef_sbLen_1 (m : MethodId) (x0 : Addr) : entryFrame m #[(.ref x0)] 1 = mkF m 0 #[.val (.ref x0)] [] := by first | (simp [entryFrame, mkF, argsToLocals, Value.category]; done) | rfl
def Q_sbLen_1 (Z : State) (a1 : Addr) (h0 : Heap) (n0 : Nat) (v : Option Value) (h : Heap) (L : List Loc) : Prop := v = some (.int 1) ∧ Fr n0 L ∧ h = h0
theorem rm_sbLen_1 (l : Launch) (Z : State) (a0 : Array Value) (hw : HW a0 Z) (ws : List Jvm.Cond) (a1 : Addr) (h0 : Heap) (n0 : Nat) (Z0 : n0 ≤ h0.size) (E_1 : ek20 Z h0 a1) (Fn : fk13 Z h0 a1 (.int 1)) :
    M23 l ws (rmk 1 0 0 12) Z #[(.ref a1)] h0 (Q_sbLen_1 Z a1 h0 n0) := by
  refine own_go "java/lang/StringBuilder" rfl (plainFor_of_name pn_10) (fun m => ef_sbLen_1 m a1) (fun p e s m below meth c s₁ hx hby hml hown hnm hlk hret hZ X0 e0 => ?_)
  have N0 := Fr.nil n0
  show gs s₁ m 0 #[vr a1] []
  refine oaloadN X0 hx hby d10_0 rfl rfl ?_
  show gs s₁ m 1 #[vr a1] [(.ref a1)]
  obtain ⟨_, _, ⟨T1, L1, k1, n1⟩, -, X1, ⟨Lc1, hQ1, l1, y1, z1⟩, st1⟩ := superBack X0 hx hZ (y := (⟨"java/lang/AbstractStringBuilder", "length", "()I"⟩ : MethodName)) hown (own_w hw 63 rfl) (own_same (own_w hw 55 rfl) rfl (own_w hw 59 rfl) (by decide)) (own_w hw 59 rfl) (own_w hw 64 rfl) (by decide) (backOf (W := 0) (rm_asbLen_1 l Z a0 hw [] a1 h0 n0 Z0  Fn) hZ (own_w hw 65 rfl) (own_w hw 26 rfl) (by decide) (by decide)) e0 (Ins.self E_1) (g := (mkF m 1 #[vr a1] [(.ref a1)])) rfl (by rw [hml]; rfl) (own_w hw 65 rfl) (argsL := []) (rest := []) (lenOf own_pd16 rfl) rfl (by show 2 * 0 + _ ≤ _; exact Nat.le_of_eq rfl) (hb hby d10_1) (fun _ _ => ⟨rfl, e0, (by decide : 0 + 0 ≤ _), (by decide : 0 + 0 ≤ _)⟩)
  dsimp only [Pt.U, Pt.locs, Pt.cells, Pt.slots] at X1 l1 y1 z1 st1 hQ1
  subst l1 y1 z1
  obtain ⟨rfl, Nq1, eq1⟩ := hQ1
  have N1 := Fr.app N0 Nq1
  refine own_tr st1 ?_
  show gs T1 m 4 #[vr a1] [(.int 1)]
  exact own_retI X1 hx hlk hret (hb hby d10_4) (by decide) (by decide) (by rw [eq1]; exact ⟨rfl, N1, rfl⟩)
theorem ef_copy_1 (m : MethodId) (x0 : Addr) : entryFrame m #[(.ref x0), (.int 0), (.int 1)] 3 = mkF m 0 #[.val (.ref x0), .val (.int 0), .val (.int 1)] [] := by first | (simp [entryFrame, mkF, argsToLocals, Value.category]; done) | rfl
def Q_copy_1 (Z : State) (tA : Addr) (kA : ClassId) (y0 : Int32) (h0 : Heap) (n0 : Nat) (v : Option Value) (h : Heap) (L : List Loc) : Prop := ∃ tN : Addr, v = some (.ref tN) ∧ Fr n0 L ∧ Keep h0 h [] ∧ h0.size ≤ tN ∧ Arv Z h tN kA .byte (1 : Int32) [(.int y0)] (.int 0)
theorem rm_copy_1 (l : Launch) (Z : State) (a0 : Array Value) (hw : HW a0 Z) (ws : List Jvm.Cond) (tA : Addr) (kA : ClassId) (y0 : Int32) (h0 : Heap) (n0 : Nat) (Z0 : n0 ≤ h0.size) (R_A : Arv Z h0 tA kA .byte (1 : Int32) [(.int y0)] (.int 0)) (E_A : ek19 Z h0 tA) :
    M24 l ws (rmk 1 1 1 14) Z #[(.ref tA), (.int 0), (.int 1)] h0 (Q_copy_1 Z tA kA y0 h0 n0) := by
  refine own_go "java/util/Arrays" rfl (plainFor_of_name pn_13) (fun m => ef_copy_1 m tA) (fun p e s m below meth c s₁ hx hby hml hown hnm hlk hret hZ X0 e0 => ?_)
  have N0 := Fr.nil n0
  have K0 := Keep.refl h0 []
  show gs s₁ m 0 #[vr tA, vi 0, vi 1] []
  refine oiloadN X0 hx hby d13_0 rfl ?_
  refine own_st (fun _ kS => XS.ifNo X0.here hx rfl (hb hby d13_1) rfl ((if0 _ _).trans (teq (by decide : (0 : Int32) = (0 : Int32))).2) kS) ?_
  show gs s₁ m 4 #[vr tA, vi 0, vi 1] []
  refine oiloadN X0 hx hby d13_4 rfl ?_
  refine oaloadN X0 hx hby d13_5 rfl rfl ?_
  show gs s₁ m 6 #[vr tA, vi 0, vi 1] [(.ref tA), (.int 1)]
  obtain ⟨cl1, Ar1, qa1, qs1, qn1, qh1, qg1⟩ := id R_A
  refine own_st (fun _ kS => X0.arraylength hx (by rw [e0]; exact Ar1.1) (State.isArrayOf_alike hZ.alike Ar1.2.1) (g := (mkF m 6 #[vr tA, vi 0, vi 1] [(.ref tA), (.int 1)])) rfl rfl (hb hby d13_6) _ kS) ?_
  rw [len_of qs1 qn1]
  show gs s₁ m 7 #[vr tA, vi 0, vi 1] [(.int 1), (.int 1)]
  refine own_st (fun _ kS => XS.icmpYes X0.here hx rfl (pc0 := 7) (pc' := 17) rfl (hb hby d13_7) rfl (teq (by decide : (1 : Int32) = (1 : Int32))).1 (by decide) (by decide) kS) ?_
  show gs s₁ m 17 #[vr tA, vi 0, vi 1] []
  refine oaloadN X0 hx hby d13_17 rfl rfl ?_
  show gs s₁ m 18 #[vr tA, vi 0, vi 1] [(.ref tA)]
  obtain ⟨T2, h2, X2, e2, E2, A2, B2, st2⟩ := cloneH X0 hx hZ hown (own_w hw 79 rfl) (own_w hw 80 rfl) (own_w hw 84 rfl) (own_w hw 82 rfl) (own_w hw 83 rfl) (own_w hw 85 rfl) e0 (Arv.arh R_A) E_A (g := (mkF m 18 #[vr tA, vi 0, vi 1] [(.ref tA)])) rfl (by rw [hml]; rfl) rfl (hb hby d13_18) (by decide) (W := 0) (cap := 1) (by show 2 * 0 + _ ≤ _; exact Nat.le_of_eq rfl) (by decide) (by decide) (by decide) (by decide)
  obtain ⟨b2, g2⟩ : ∃ z, z = h0.size := ⟨_, rfl⟩
  have ne_tA_b2 : tA ≠ b2 := Nat.ne_of_lt (Nat.lt_of_lt_of_eq R_A.lt g2.symm)
  have ge_b2 : n0 ≤ b2 := Nat.le_trans Z0 (Nat.le_of_eq g2.symm)
  have sz_b2 : h0.size ≤ b2 := Nat.le_trans K0.1 (Nat.le_of_eq g2.symm)
  rw [← g2] at A2 B2 st2
  have K2 := K0.ext E2
  have R2 : Arv Z h2 b2 kA .byte (1 : Int32) [(.int y0)] (.int 0) := A2
  refine own_st st2 ?_
  show gs T2 m 21 #[vr tA, vi 0, vi 1] [(.ref b2)]
  obtain ⟨T3, X3, e3, st3⟩ := castY X2 hx hZ hown (own_w hw 86 rfl) e2 (Ins.self B2) (g := (mkF m 21 #[vr tA, vi 0, vi 1] [(.ref b2)])) rfl rfl (hb hby d13_21)
  refine own_st st3 ?_
  show gs T3 m 24 #[vr tA, vi 0, vi 1] [(.ref b2)]
  exact own_retA X3 hx hlk hret rfl rfl (hb hby d13_24) (by decide) (by decide) (by rw [e3]; exact ⟨b2, ⟨rfl, N0, K2, sz_b2, R2⟩⟩)
theorem ef_strInitA_1_0 (m : MethodId) (x0 : Addr) (x1 : Addr) : entryFrame m #[(.ref x0), (.ref x1), .null] 5 = mkF m 0 #[.val (.ref x0), .val (.ref x1), .val .null, .unset, .unset] [] := by first | (simp [entryFrame, mkF, argsToLocals, Value.category]; done) | rfl
def Q_strInitA_1_0 (Z : State) (aS : Addr) (a1 : Addr) (tA : Addr) (kA : ClassId) (y0 : Int32) (zCS : Int32) (h0 : Heap) (n0 : Nat) (v : Option Value) (h : Heap) (L : List Loc) : Prop := ∃ tN : Addr, v = none ∧ Fr n0 L ∧ Keep h0 h [aS] ∧ h0.size ≤ tN ∧ ek21 Z h aS ∧ fk15 Z h aS (.int 0) ∧ fk16 Z h aS (.ref tN) ∧ Arv Z h tN kA .byte (1 : Int32) [(.int y0)] (.int 0)
theorem rm_strInitA_1_0 (l : Launch) (Z : State) (a0 : Array Value) (hw : HW a0 Z) (ws : List Jvm.Cond) (aS : Addr) (a1 : Addr) (tA : Addr) (kA : ClassId) (y0 : Int32) (zCS : Int32) (h0 : Heap) (n0 : Nat) (Z0 : n0 ≤ h0.size) (O0 : Old Z n0 h0) (E_0 : ek21 Z h0 aS) (g_0 : n0 ≤ aS) (F0v : fk16 Z h0 aS .null) (F0c : fk15 Z h0 aS (.int 0)) (ne01 : aS ≠ a1) (ne0A : aS ≠ tA) (E_1 : ek20 Z h0 a1) (Fv : fk11 Z h0 a1 (.ref tA)) (Fc : fk12 Z h0 a1 (.int 0)) (Fn : fk13 Z h0 a1 (.int 1)) (Fm : fk14 Z h0 a1 (.int 0)) (R_A : Arv Z h0 tA kA .byte (1 : Int32) [(.int y0)] (.int 0)) (E_A : ek19 Z h0 tA) (S_CS : sk0 Z Z.heap (.int zCS)) (P_CS : ¬ zCS = 0) :
    M25 l ws (rmk 2 1 1 29) Z #[(.ref aS), (.ref a1), .null] h0 (Q_strInitA_1_0 Z aS a1 tA kA y0 zCS h0 n0) := by
  refine own_go "java/lang/String" rfl (plainFor_of_name pn_8) (fun m => ef_strInitA_1_0 m aS a1) (fun p e s m below meth c s₁ hx hby hml hown hnm hlk hret hZ X0 e0 => ?_)
  have N0 := Fr.nil n0
  have K0 := Keep.refl h0 [aS]
  show gs s₁ m 0 #[vr aS, vr a1, .val .null, .unset, .unset] []
  refine oaloadN X0 hx hby d8_0 rfl rfl ?_
  obtain ⟨T1, X1, e1, st1⟩ := initO X0 hx hZ hown (own_w hw 51 rfl) (own_w hw 29 rfl) (own_w hw 30 rfl) e0 (g := (mkF m 1 #[vr aS, vr a1, .val .null, .unset, .unset] [(.ref aS)])) rfl (by rw [hml]; rfl) rfl (hb hby d8_1) (by decide) (W := 0) (by show 2 * 0 + _ ≤ _; exact Nat.le_of_eq rfl) (by decide)
  refine own_st st1 ?_
  show gs T1 m 4 #[vr aS, vr a1, .val .null, .unset, .unset] []
  refine oaloadN X1 hx hby d8_4 rfl rfl ?_
  refine oV 0 X1 hx hZ hby hml hown (own_w hw 52 rfl) (own_w hw 53 rfl) (own_w hw 55 rfl) (own_w hw 54 rfl) (rm_getValue l Z a0 hw [] a1 tA h0 n0 Z0  Fv) (own_w hw 56 rfl) (own_w hw 26 rfl) e1 E_1 (by decide) own_pd17 d8_5 rfl rfl rfl (fun T2 L2 v2 X2 hQ2 => ?_)
  obtain ⟨rfl, Nq2, eq2⟩ := hQ2
  have N2 := Fr.app N0 Nq2
  show gs T2 m 8 #[vr aS, vr a1, .val .null, .unset, .unset] [(.ref tA)]
  refine own_st (fun _ kS => XS.astoreN X2.here hx rfl (hb hby d8_8) rfl rfl (l' := #[vr aS, vr a1, .val .null, vr tA, .unset]) rfl kS) ?_
  refine oaloadN X2 hx hby d8_9 rfl rfl ?_
  show gs T2 m 10 #[vr aS, vr a1, .val .null, vr tA, .unset] [(.ref a1)]
  obtain ⟨cq3, kq3, q3a, q3b, q3c⟩ := isOf hZ eq2 E_1
  obtain ⟨_, _, ⟨T3, L3, k3, n3⟩, -, X3, ⟨Lc3, hQ3, l3, y3, z3⟩, st3⟩ := X2.virtualBack hx (y := (⟨"java/lang/AbstractStringBuilder", "length", "()I"⟩ : MethodName)) (z := (⟨"java/lang/StringBuilder", "length", "()I"⟩ : MethodName)) hown (mvT hZ (own_w hw 57 rfl)) (mvT hZ (own_w hw 58 rfl)) (own_nf (args := #[]) (mvT hZ (own_w hw 55 rfl)) rfl) (mvT hZ (own_w hw 60 rfl)) (mvT hZ (own_w hw 61 rfl)) (by decide) (backOf (W := 0) (rm_sbLen_1 l Z a0 hw [] a1 h0 n0 Z0  E_1 Fn) hZ (own_w hw 62 rfl) (own_w hw 16 rfl) (by decide) (by decide)) q3a q3c (g := (mkF m 10 #[vr aS, vr a1, .val .null, vr tA, .unset] [(.ref a1)])) rfl (by rw [hml]; rfl) (Steps.refl _) (argsL := []) (rest := []) (lenOf own_pd16 rfl) rfl (by show 2 * 0 + _ ≤ _; exact Nat.le_of_eq rfl) (hb hby d8_10) (fun _ _ => ⟨rfl, eq2, (by decide : 0 + 0 ≤ _), (by decide : 0 + 0 ≤ _)⟩)
  dsimp only [Pt.U, Pt.locs, Pt.cells, Pt.slots] at X3 l3 y3 z3 st3 hQ3
  subst l3 y3 z3
  obtain ⟨rfl, Nq3, eq3⟩ := hQ3
  have N3 := Fr.app N2 Nq3
  refine own_tr st3 ?_
  show gs T3 m 13 #[vr aS, vr a1, .val .null, vr tA, .unset] [(.int 1)]
  refine own_st (fun _ kS => XS.istore X3.here hx rfl (hb hby d8_13) rfl (l' := #[vr aS, vr a1, .val .null, vr tA, vi 1]) rfl kS) ?_
  refine oaloadN X3 hx hby d8_15 rfl rfl ?_
  refine oV 0 X3 hx hZ hby hml hown (own_w hw 68 rfl) (own_w hw 69 rfl) (own_w hw 71 rfl) (own_w hw 70 rfl) (rm_asbLat0 l Z a0 hw [] a1 zCS h0 n0 Z0 O0 S_CS P_CS Fc) (own_w hw 72 rfl) (own_w hw 26 rfl) eq3 E_1 (by decide) own_pd11 d8_16 rfl rfl rfl (fun T4 L4 v4 X4 hQ4 => ?_)
  obtain ⟨rfl, Nq4, eq4⟩ := hQ4
  have N4 := Fr.app N3 Nq4
  show gs T4 m 19 #[vr aS, vr a1, .val .null, vr tA, vi 1] [(.int 1)]
  refine own_st (fun _ kS => XS.ifNo X4.here hx rfl (hb hby d8_19) rfl ((if0 _ _).trans (feq (by decide : ¬ ((1 : Int32) = (0 : Int32)))).1) kS) ?_
  show gs T4 m 22 #[vr aS, vr a1, .val .null, vr tA, vi 1] []
  refine oaloadN X4 hx hby d8_22 rfl rfl ?_
  refine oiconst X4 hx hby d8_23 ?_
  show gs T4 m 24 #[vr aS, vr a1, .val .null, vr tA, vi 1] [(.int 0), (.ref aS)]
  obtain ⟨T5, h5, X5, e5, W5, st5⟩ := putFN X4 hx hZ hown (own_w hw 73 rfl) Via.refl eq4 F0c E_0 (Or.inr ⟨(own_w hw 74 rfl), rfl, hnm⟩) (own_w hw 43 rfl) (ty := .byte) (v' := (.int 0)) (by decide) rfl (by decide) (g := (mkF m 24 #[vr aS, vr a1, .val .null, vr tA, vi 1] [(.int 0), (.ref aS)])) rfl rfl (hb hby d8_24)
  refine own_st st5 ?_
  have N5 := Fr.snoc X5 N4 g_0
  have K5 := K0.wr W5 (Or.inl (List.mem_of_getElem? (i := 0) rfl))
  have O5 := O0.wr W5 g_0
  have Fw5 := Fld.same W5 F0c
  show gs T5 m 27 #[vr aS, vr a1, .val .null, vr tA, vi 1] []
  refine oaloadN X5 hx hby d8_27 rfl rfl ?_
  refine oaloadN X5 hx hby d8_28 rfl rfl ?_
  refine oiconst X5 hx hby d8_29 ?_
  refine oiload X5 hx hby d8_30 rfl ?_
  refine oS 1 X5 hx hZ hby hml hown (own_w hw 75 rfl) (own_w hw 76 rfl) (own_w hw 77 rfl) (own_w hw 78 rfl) (rm_copy_1 l Z a0 hw [] tA kA y0 h5 n0 (Nat.le_trans Z0 (Keep.of_wr W5).1)  (R_A.other W5 (Ne.symm ne0A)) (Exa.wr W5 E_A)) e5 (by decide) own_pd18 d8_32 rfl rfl rfl (fun T6 L6 v6 X6 hQ6 => ?_)
  obtain ⟨tN_6, rfl, Nq6, Kc6, P6_0, P6_1⟩ := hQ6
  have N6 := Fr.app N5 Nq6
  have ne_aS_tN_6 : aS ≠ tN_6 := Nat.ne_of_lt (Nat.lt_of_lt_of_le (Exa.wr W5 E_0).lt P6_0)
  have ne_a1_tN_6 : a1 ≠ tN_6 := Nat.ne_of_lt (Nat.lt_of_lt_of_le (Exa.wr W5 E_1).lt P6_0)
  have ne_tA_tN_6 : tA ≠ tN_6 := Nat.ne_of_lt (Nat.lt_of_lt_of_le (R_A.other W5 (Ne.symm ne0A)).lt P6_0)
  have ge_tN_6 : n0 ≤ tN_6 := Nat.le_trans (Nat.le_trans Z0 (Keep.of_wr W5).1) P6_0
  have sz_tN_6 : h0.size ≤ tN_6 := Nat.le_trans K5.1 P6_0
  have K6 := K5.trans Kc6 all0
  have O6 := O5.keep Kc6 all0
  show gs T6 m 35 #[vr aS, vr a1, .val .null, vr tA, vi 1] [(.ref tN_6), (.ref aS)]
  obtain ⟨T7, h7, X7, e7, W7, st7⟩ := putF X6 hx hZ hown (host := "") (Or.inl (own_w hw 88 rfl)) Via.refl rfl ((Fld.other W5 F0v (Or.inr (slot_ne (Or.inr (own_w hw 89 rfl)) (Or.inr (own_w hw 74 rfl)) (by decide) (t := (.array .byte)) (t' := .byte) (by decide) (by decide)))).keep Kc6 nin0) ((Exa.wr W5 E_0).keep Kc6) (Or.inr ⟨(own_w hw 89 rfl), rfl, hnm⟩) (own_w hw 43 rfl) (ty := (.array .byte)) (by decide) rfl rfl (g := (mkF m 35 #[vr aS, vr a1, .val .null, vr tA, vi 1] [(.ref tN_6), (.ref aS)])) rfl rfl (hb hby d8_35)
  refine own_st st7 ?_
  have N7 := Fr.snoc X7 N6 g_0
  have K7 := K6.wr W7 (Or.inl (List.mem_of_getElem? (i := 0) rfl))
  have O7 := O6.wr W7 g_0
  have Fw7 := Fld.same W7 ((Fld.other W5 F0v (Or.inr (slot_ne (Or.inr (own_w hw 89 rfl)) (Or.inr (own_w hw 74 rfl)) (by decide) (t := (.array .byte)) (t' := .byte) (by decide) (by decide)))).keep Kc6 nin0)
  show gs T7 m 38 #[vr aS, vr a1, .val .null, vr tA, vi 1] []
  refine own_st (fun _ kS => XS.goto X7.here hx rfl (pc0 := 38) (pc' := 97) rfl (hb hby d8_38) (by decide) (by decide) kS) ?_
  show gs T7 m 97 #[vr aS, vr a1, .val .null, vr tA, vi 1] []
  exact own_retV X7 hx hlk hret (hb hby d8_97) (by decide) (by decide) (by rw [e7]; exact ⟨tN_6, ⟨rfl, N7, K7, sz_tN_6, (Exa.wr W7 ((Exa.wr W5 E_0).keep Kc6)), (Fld.other W7 (Fw5.keep Kc6 nin0) (Or.inr (slot_ne (Or.inr (own_w hw 74 rfl)) (Or.inr (own_w hw 89 rfl)) (by decide) (t := .byte) (t' := (.array .byte)) (by decide) (by decide)))), Fw7, (P6_1.other W7 (Ne.symm ne_aS_tN_6))⟩⟩)
theorem ef_strInitB_1_0 (m : MethodId) (x0 : Addr) (x1 : Addr) : entryFrame m #[(.ref x0), (.ref x1)] 2 = mkF m 0 #[.val (.ref x0), .val (.ref x1)] [] := by first | (simp [entryFrame, mkF, argsToLocals, Value.category]; done) | rfl
def Q_strInitB_1_0 (Z : State) (aS : Addr) (a1 : Addr) (tA : Addr) (kA : ClassId) (y0 : Int32) (zCS : Int32) (h0 : Heap) (n0 : Nat) (v : Option Value) (h : Heap) (L : List Loc) : Prop := ∃ tN : Addr, v = none ∧ Fr n0 L ∧ Keep h0 h [aS] ∧ h0.size ≤ tN ∧ ek21 Z h aS ∧ fk15 Z h aS (.int 0) ∧ fk16 Z h aS (.ref tN) ∧ Arv Z h tN kA .byte (1 : Int32) [(.int y0)] (.int 0)
theorem rm_strInitB_1_0 (l : Launch) (Z : State) (a0 : Array Value) (hw : HW a0 Z) (ws : List Jvm.Cond) (aS : Addr) (a1 : Addr) (tA : Addr) (kA : ClassId) (y0 : Int32) (zCS : Int32) (h0 : Heap) (n0 : Nat) (Z0 : n0 ≤ h0.size) (O0 : Old Z n0 h0) (E_0 : ek21 Z h0 aS) (g_0 : n0 ≤ aS) (F0v : fk16 Z h0 aS .null) (F0c : fk15 Z h0 aS (.int 0)) (ne01 : aS ≠ a1) (ne0A : aS ≠ tA) (E_1 : ek20 Z h0 a1) (Fv : fk11 Z h0 a1 (.ref tA)) (Fc : fk12 Z h0 a1 (.int 0)) (Fn : fk13 Z h0 a1 (.int 1)) (Fm : fk14 Z h0 a1 (.int 0)) (R_A : Arv Z h0 tA kA .byte (1 : Int32) [(.int y0)] (.int 0)) (E_A : ek19 Z h0 tA) (S_CS : sk0 Z Z.heap (.int zCS)) (P_CS : ¬ zCS = 0) :
    M26 l ws (rmk 3 1 1 45) Z #[(.ref aS), (.ref a1)] h0 (Q_strInitB_1_0 Z aS a1 tA kA y0 zCS h0 n0) := by
  refine own_go "java/lang/String" rfl (plainFor_of_name pn_7) (fun m => ef_strInitB_1_0 m aS a1) (fun p e s m below meth c s₁ hx hby hml hown hnm hlk hret hZ X0 e0 => ?_)
  have N0 := Fr.nil n0
  have K0 := Keep.refl h0 [aS]
  show gs s₁ m 0 #[vr aS, vr a1] []
  refine oaloadN X0 hx hby d7_0 rfl rfl ?_
  refine oaloadN X0 hx hby d7_1 rfl rfl ?_
  refine own_st (fun _ kS => XS.aconstNull X0.here hx rfl (hb hby d7_2) kS) ?_
  show gs s₁ m 3 #[vr aS, vr a1] [.null, (.ref a1), (.ref aS)]
  refine oN 0 X0 hx hZ hby hml hown (own_w hw 48 rfl) (own_w hw 49 rfl) (own_w hw 32 rfl) (own_w hw 50 rfl) (rm_strInitA_1_0 l Z a0 hw [] aS a1 tA kA y0 zCS h0 n0 Z0 O0 E_0 g_0 F0v F0c ne01 ne0A E_1 Fv Fc Fn Fm R_A E_A S_CS P_CS) e0 rfl (by decide) own_pd19 d7_3 rfl rfl rfl (fun T1 L1 v1 X1 hQ1 => ?_)
  obtain ⟨tN_1, rfl, Nq1, Kc1, P1_0, P1_1, P1_2, P1_3, P1_4⟩ := hQ1
  have N1 := Fr.app N0 Nq1
  have ne_aS_tN_1 : aS ≠ tN_1 := Nat.ne_of_lt (Nat.lt_of_lt_of_le E_0.lt P1_0)
  have ne_a1_tN_1 : a1 ≠ tN_1 := Nat.ne_of_lt (Nat.lt_of_lt_of_le E_1.lt P1_0)
  have ne_tA_tN_1 : tA ≠ tN_1 := Nat.ne_of_lt (Nat.lt_of_lt_of_le R_A.lt P1_0)
  have ge_tN_1 : n0 ≤ tN_1 := Nat.le_trans Z0 P1_0
  have sz_tN_1 : h0.size ≤ tN_1 := Nat.le_trans K0.1 P1_0
  have K1 := K0.trans Kc1 (allS (Or.inl (List.mem_of_getElem? (i := 0) rfl)) all0)
  have O1 := O0.keep Kc1 (allS g_0 all0)
  show gs T1 m 6 #[vr aS, vr a1] []
  exact own_retV X1 hx hlk hret (hb hby d7_6) (by decide) (by decide) (show Q_strInitB_1_0 Z aS a1 tA kA y0 zCS h0 n0 _ _ _ from ⟨tN_1, ⟨rfl, N1, K1, sz_tN_1, P1_1, P1_2, P1_3, P1_4⟩⟩)
theorem ef_toStr_1_0 (m : MethodId) (x0 : Addr) : entryFrame m #[(.ref x0)] 1 = mkF m 0 #[.val (.ref x0)] [] := by first | (simp [entryFrame, mkF, argsToLocals, Value.category]; done) | rfl
def Q_toStr_1_0 (Z : State) (a1 : Addr) (tA : Addr) (kA : ClassId) (y0 : Int32) (zCS : Int32) (h0 : Heap) (n0 : Nat) (v : Option Value) (h : Heap) (L : List Loc) : Prop := ∃ bS : Addr, ∃ tN : Addr, v = some (.ref bS) ∧ Fr n0 L ∧ Keep h0 h [] ∧ h0.size ≤ bS ∧ h0.size ≤ tN ∧ bS ≠ tN ∧ ek21 Z h bS ∧ fk15 Z h bS (.int 0) ∧ fk16 Z h bS (.ref tN) ∧ Arv Z h tN kA .byte (1 : Int32) [(.int y0)] (.int 0)
theorem rm_toStr_1_0 (l : Launch) (Z : State) (a0 : Array Value) (hw : HW a0 Z) (ws : List Jvm.Cond) (a1 : Addr) (tA : Addr) (kA : ClassId) (y0 : Int32) (zCS : Int32) (h0 : Heap) (n0 : Nat) (Z0 : n0 ≤ h0.size) (O0 : Old Z n0 h0) (E_1 : ek20 Z h0 a1) (Fv : fk11 Z h0 a1 (.ref tA)) (Fc : fk12 Z h0 a1 (.int 0)) (Fn : fk13 Z h0 a1 (.int 1)) (Fm : fk14 Z h0 a1 (.int 0)) (R_A : Arv Z h0 tA kA .byte (1 : Int32) [(.int y0)] (.int 0)) (E_A : ek19 Z h0 tA) (S_CS : sk0 Z Z.heap (.int zCS)) (P_CS : ¬ zCS = 0) :
    M27 l ws (rmk 4 2 5 59) Z #[(.ref a1)] h0 (Q_toStr_1_0 Z a1 tA kA y0 zCS h0 n0) := by
  refine own_go "java/lang/StringBuilder" rfl (plainFor_of_name pn_6) (fun m => ef_toStr_1_0 m a1) (fun p e s m below meth c s₁ hx hby hml hown hnm hlk hret hZ X0 e0 => ?_)
  have N0 := Fr.nil n0
  have K0 := Keep.refl h0 []
  show gs s₁ m 0 #[vr a1] []
  obtain ⟨T1, h1, X1, e1, E1, A1, D1, -, st1⟩ := newO X0 hx hZ hown (own_w hw 42 rfl) (own_w hw 43 rfl) (own_w hw 32 rfl) e0 (g := (mkF m 0 #[vr a1] [])) rfl (hb hby d6_0) (by decide) (by decide)
  obtain ⟨b1, g1⟩ : ∃ z, z = h0.size := ⟨_, rfl⟩
  have ne_a1_b1 : a1 ≠ b1 := Nat.ne_of_lt (Nat.lt_of_lt_of_eq E_1.lt g1.symm)
  have ne_tA_b1 : tA ≠ b1 := Nat.ne_of_lt (Nat.lt_of_lt_of_eq R_A.lt g1.symm)
  have ge_b1 : n0 ≤ b1 := Nat.le_trans Z0 (Nat.le_of_eq g1.symm)
  have sz_b1 : h0.size ≤ b1 := Nat.le_trans K0.1 (Nat.le_of_eq g1.symm)
  rw [← g1] at A1 D1 st1
  have K1 := K0.ext E1
  have O1 := O0.ext E1
  have F1_coder : fk15 Z h1 b1 (.int 0) := D1 (Or.inr (own_w hw 74 rfl)) (ty := .byte) (by decide)
  have F1_value : fk16 Z h1 b1 .null := D1 (Or.inr (own_w hw 89 rfl)) (ty := (.array .byte)) (by decide)
  refine own_st st1 ?_
  show gs T1 m 3 #[vr a1] [(.ref b1)]
  refine own_st (fun _ kS => XS.dup X1.here hx rfl (hb hby d6_3) rfl rfl kS) ?_
  refine oaloadN X1 hx hby d6_4 rfl rfl ?_
  refine oN 1 X1 hx hZ hby hml hown (own_w hw 44 rfl) (own_w hw 45 rfl) (own_w hw 32 rfl) (own_w hw 47 rfl) (rm_strInitB_1_0 l Z a0 hw [] b1 a1 tA kA y0 zCS h1 n0 (Nat.le_trans Z0 E1.1) O1 A1 ge_b1 F1_value F1_coder (Ne.symm ne_a1_b1) (Ne.symm ne_tA_b1) (Exa.ext E1 E_1) (Fld.ext E1 Fv) (Fld.ext E1 Fc) (Fld.ext E1 Fn) (Fld.ext E1 Fm) (Arv.ext R_A E1) (Exa.ext E1 E_A) S_CS P_CS) e1 rfl (by decide) own_pd20 d6_5 rfl rfl rfl (fun T2 L2 v2 X2 hQ2 => ?_)
  obtain ⟨tN_2, rfl, Nq2, Kc2, P2_0, P2_1, P2_2, P2_3, P2_4⟩ := hQ2
  have N2 := Fr.app N0 Nq2
  have ne_a1_tN_2 : a1 ≠ tN_2 := Nat.ne_of_lt (Nat.lt_of_lt_of_le (Exa.ext E1 E_1).lt P2_0)
  have ne_tA_tN_2 : tA ≠ tN_2 := Nat.ne_of_lt (Nat.lt_of_lt_of_le (Arv.ext R_A E1).lt P2_0)
  have ne_b1_tN_2 : b1 ≠ tN_2 := Nat.ne_of_lt (Nat.lt_of_lt_of_le A1.lt P2_0)
  have ge_tN_2 : n0 ≤ tN_2 := Nat.le_trans (Nat.le_trans Z0 E1.1) P2_0
  have sz_tN_2 : h0.size ≤ tN_2 := Nat.le_trans K1.1 P2_0
  have K2 := K1.trans Kc2 (allS (Or.inr sz_b1) all0)
  have O2 := O1.keep Kc2 (allS ge_b1 all0)
  show gs T2 m 8 #[vr a1] [(.ref b1)]
  exact own_retA X2 hx hlk hret rfl rfl (hb hby d6_8) (by decide) (by decide) (show Q_toStr_1_0 Z a1 tA kA y0 zCS h0 n0 _ _ _ from ⟨b1, tN_2, ⟨rfl, N2, K2, sz_b1, sz_tN_2, ne_b1_tN_2, P2_1, P2_2, P2_3, P2_4⟩⟩)
theorem ef_copy_2 (m : MethodId) (x0 : Addr) : entryFrame m #[(.ref x0), (.int 0), (.int 2)] 3 = mkF m 0 #[.val (.ref x0), .val (.int 0), .val (.int 2)] [] := by first | (simp [entryFrame, mkF, argsToLocals, Value.category]; done) | rfl
def Q_copy_2 (Z : State) (tA : Addr) (kA : ClassId) (y0 : Int32) (y1 : Int32) (h0 : Heap) (n0 : Nat) (v : Option Value) (h : Heap) (L : List Loc) : Prop := ∃ tN : Addr, v = some (.ref tN) ∧ Fr n0 L ∧ Keep h0 h [] ∧ h0.size ≤ tN ∧ Arv Z h tN kA .byte (2 : Int32) [(.int y0), (.int y1)] (.int 0)
theorem rm_copy_2 (l : Launch) (Z : State) (a0 : Array Value) (hw : HW a0 Z) (ws : List Jvm.Cond) (tA : Addr) (kA : ClassId) (y0 : Int32) (y1 : Int32) (h0 : Heap) (n0 : Nat) (Z0 : n0 ≤ h0.size) (R_A : Arv Z h0 tA kA .byte (2 : Int32) [(.int y0), (.int y1)] (.int 0)) (E_A : ek19 Z h0 tA) :
    M24 l ws (rmk 1 1 2 14) Z #[(.ref tA), (.int 0), (.int 2)] h0 (Q_copy_2 Z tA kA y0 y1 h0 n0) := by
  refine own_go "java/util/Arrays" rfl (plainFor_of_name pn_13) (fun m => ef_copy_2 m tA) (fun p e s m below meth c s₁ hx hby hml hown hnm hlk hret hZ X0 e0 => ?_)
  have N0 := Fr.nil n0
  have K0 := Keep.refl h0 []
  show gs s₁ m 0 #[vr tA, vi 0, vi 2] []
  refine oiloadN X0 hx hby d13_0 rfl ?_
  refine own_st (fun _ kS => XS.ifNo X0.here hx rfl (hb hby d13_1) rfl ((if0 _ _).trans (teq (by decide : (0 : Int32) = (0 : Int32))).2) kS) ?_
  show gs s₁ m 4 #[vr tA, vi 0, vi 2] []
  refine oiloadN X0 hx hby d13_4 rfl ?_
  refine oaloadN X0 hx hby d13_5 rfl rfl ?_
  show gs s₁ m 6 #[vr tA, vi 0, vi 2] [(.ref tA), (.int 2)]
  obtain ⟨cl1, Ar1, qa1, qs1, qn1, qh1, qg1⟩ := id R_A
  refine own_st (fun _ kS => X0.arraylength hx (by rw [e0]; exact Ar1.1) (State.isArrayOf_alike hZ.alike Ar1.2.1) (g := (mkF m 6 #[vr tA, vi 0, vi 2] [(.ref tA), (.int 2)])) rfl rfl (hb hby d13_6) _ kS) ?_
  rw [len_of qs1 qn1]
  show gs s₁ m 7 #[vr tA, vi 0, vi 2] [(.int 2), (.int 2)]
  refine own_st (fun _ kS => XS.icmpYes X0.here hx rfl (pc0 := 7) (pc' := 17) rfl (hb hby d13_7) rfl (teq (by decide : (2 : Int32) = (2 : Int32))).1 (by decide) (by decide) kS) ?_
  show gs s₁ m 17 #[vr tA, vi 0, vi 2] []
  refine oaloadN X0 hx hby d13_17 rfl rfl ?_
  show gs s₁ m 18 #[vr tA, vi 0, vi 2] [(.ref tA)]
  obtain ⟨T2, h2, X2, e2, E2, A2, B2, st2⟩ := cloneH X0 hx hZ hown (own_w hw 79 rfl) (own_w hw 80 rfl) (own_w hw 84 rfl) (own_w hw 82 rfl) (own_w hw 83 rfl) (own_w hw 85 rfl) e0 (Arv.arh R_A) E_A (g := (mkF m 18 #[vr tA, vi 0, vi 2] [(.ref tA)])) rfl (by rw [hml]; rfl) rfl (hb hby d13_18) (by decide) (W := 0) (cap := 2) (by show 2 * 0 + _ ≤ _; exact Nat.le_of_eq rfl) (by decide) (by decide) (by decide) (by decide)
  obtain ⟨b2, g2⟩ : ∃ z, z = h0.size := ⟨_, rfl⟩
  have ne_tA_b2 : tA ≠ b2 := Nat.ne_of_lt (Nat.lt_of_lt_of_eq R_A.lt g2.symm)
  have ge_b2 : n0 ≤ b2 := Nat.le_trans Z0 (Nat.le_of_eq g2.symm)
  have sz_b2 : h0.size ≤ b2 := Nat.le_trans K0.1 (Nat.le_of_eq g2.symm)
  rw [← g2] at A2 B2 st2
  have K2 := K0.ext E2
  have R2 : Arv Z h2 b2 kA .byte (2 : Int32) [(.int y0), (.int y1)] (.int 0) := A2
  refine own_st st2 ?_
  show gs T2 m 21 #[vr tA, vi 0, vi 2] [(.ref b2)]
  obtain ⟨T3, X3, e3, st3⟩ := castY X2 hx hZ hown (own_w hw 86 rfl) e2 (Ins.self B2) (g := (mkF m 21 #[vr tA, vi 0, vi 2] [(.ref b2)])) rfl rfl (hb hby d13_21)
  refine own_st st3 ?_
  show gs T3 m 24 #[vr tA, vi 0, vi 2] [(.ref b2)]
  exact own_retA X3 hx hlk hret rfl rfl (hb hby d13_24) (by decide) (by decide) (by rw [e3]; exact ⟨b2, ⟨rfl, N0, K2, sz_b2, R2⟩⟩)
theorem ef_strInitA_1_1 (m : MethodId) (x0 : Addr) (x1 : Addr) : entryFrame m #[(.ref x0), (.ref x1), .null] 5 = mkF m 0 #[.val (.ref x0), .val (.ref x1), .val .null, .unset, .unset] [] := by first | (simp [entryFrame, mkF, argsToLocals, Value.category]; done) | rfl
def Q_strInitA_1_1 (Z : State) (aS : Addr) (a1 : Addr) (tA : Addr) (kA : ClassId) (y0 : Int32) (y1 : Int32) (zCS : Int32) (h0 : Heap) (n0 : Nat) (v : Option Value) (h : Heap) (L : List Loc) : Prop := ∃ tN : Addr, v = none ∧ Fr n0 L ∧ Keep h0 h [aS] ∧ h0.size ≤ tN ∧ ek21 Z h aS ∧ fk15 Z h aS (.int 1) ∧ fk16 Z h aS (.ref tN) ∧ Arv Z h tN kA .byte (2 : Int32) [(.int y0), (.int y1)] (.int 0)
theorem rm_strInitA_1_1 (l : Launch) (Z : State) (a0 : Array Value) (hw : HW a0 Z) (ws : List Jvm.Cond) (aS : Addr) (a1 : Addr) (tA : Addr) (kA : ClassId) (y0 : Int32) (y1 : Int32) (zCS : Int32) (h0 : Heap) (n0 : Nat) (Z0 : n0 ≤ h0.size) (O0 : Old Z n0 h0) (E_0 : ek21 Z h0 aS) (g_0 : n0 ≤ aS) (F0v : fk16 Z h0 aS .null) (F0c : fk15 Z h0 aS (.int 0)) (ne01 : aS ≠ a1) (ne0A : aS ≠ tA) (E_1 : ek20 Z h0 a1) (Fv : fk11 Z h0 a1 (.ref tA)) (Fc : fk12 Z h0 a1 (.int 1)) (Fn : fk13 Z h0 a1 (.int 1)) (Fm : fk14 Z h0 a1 (.int 0)) (R_A : Arv Z h0 tA kA .byte (2 : Int32) [(.int y0), (.int y1)] (.int 0)) (E_A : ek19 Z h0 tA) (S_CS : sk0 Z Z.heap (.int zCS)) (P_CS : ¬ zCS = 0) :
    M25 l ws (rmk 2 1 2 29) Z #[(.ref aS), (.ref a1), .null] h0 (Q_strInitA_1_1 Z aS a1 tA kA y0 y1 zCS h0 n0) := by
  refine own_go "java/lang/String" rfl (plainFor_of_name pn_8) (fun m => ef_strInitA_1_1 m aS a1) (fun p e s m below meth c s₁ hx hby hml hown hnm hlk hret hZ X0 e0 => ?_)
  have N0 := Fr.nil n0
  have K0 := Keep.refl h0 [aS]
  show gs s₁ m 0 #[vr aS, vr a1, .val .null, .unset, .unset] []
  refine oaloadN X0 hx hby d8_0 rfl rfl ?_
  obtain ⟨T1, X1, e1, st1⟩ := initO X0 hx hZ hown (own_w hw 51 rfl) (own_w hw 29 rfl) (own_w hw 30 rfl) e0 (g := (mkF m 1 #[vr aS, vr a1, .val .null, .unset, .unset] [(.ref aS)])) rfl (by rw [hml]; rfl) rfl (hb hby d8_1) (by decide) (W := 0) (by show 2 * 0 + _ ≤ _; exact Nat.le_of_eq rfl) (by decide)
  refine own_st st1 ?_
  show gs T1 m 4 #[vr aS, vr a1, .val .null, .unset, .unset] []
  refine oaloadN X1 hx hby d8_4 rfl rfl ?_
  refine oV 0 X1 hx hZ hby hml hown (own_w hw 52 rfl) (own_w hw 53 rfl) (own_w hw 55 rfl) (own_w hw 54 rfl) (rm_getValue l Z a0 hw [] a1 tA h0 n0 Z0  Fv) (own_w hw 56 rfl) (own_w hw 26 rfl) e1 E_1 (by decide) own_pd17 d8_5 rfl rfl rfl (fun T2 L2 v2 X2 hQ2 => ?_)
  obtain ⟨rfl, Nq2, eq2⟩ := hQ2
  have N2 := Fr.app N0 Nq2
  show gs T2 m 8 #[vr aS, vr a1, .val .null, .unset, .unset] [(.ref tA)]
  refine own_st (fun _ kS => XS.astoreN X2.here hx rfl (hb hby d8_8) rfl rfl (l' := #[vr aS, vr a1, .val .null, vr tA, .unset]) rfl kS) ?_
  refine oaloadN X2 hx hby d8_9 rfl rfl ?_
  show gs T2 m 10 #[vr aS, vr a1, .val .null, vr tA, .unset] [(.ref a1)]
  obtain ⟨cq3, kq3, q3a, q3b, q3c⟩ := isOf hZ eq2 E_1
  obtain ⟨_, _, ⟨T3, L3, k3, n3⟩, -, X3, ⟨Lc3, hQ3, l3, y3, z3⟩, st3⟩ := X2.virtualBack hx (y := (⟨"java/lang/AbstractStringBuilder", "length", "()I"⟩ : MethodName)) (z := (⟨"java/lang/StringBuilder", "length", "()I"⟩ : MethodName)) hown (mvT hZ (own_w hw 57 rfl)) (mvT hZ (own_w hw 58 rfl)) (own_nf (args := #[]) (mvT hZ (own_w hw 55 rfl)) rfl) (mvT hZ (own_w hw 60 rfl)) (mvT hZ (own_w hw 61 rfl)) (by decide) (backOf (W := 0) (rm_sbLen_1 l Z a0 hw [] a1 h0 n0 Z0  E_1 Fn) hZ (own_w hw 62 rfl) (own_w hw 16 rfl) (by decide) (by decide)) q3a q3c (g := (mkF m 10 #[vr aS, vr a1, .val .null, vr tA, .unset] [(.ref a1)])) rfl (by rw [hml]; rfl) (Steps.refl _) (argsL := []) (rest := []) (lenOf own_pd16 rfl) rfl (by show 2 * 0 + _ ≤ _; exact Nat.le_of_eq rfl) (hb hby d8_10) (fun _ _ => ⟨rfl, eq2, (by decide : 0 + 0 ≤ _), (by decide : 0 + 0 ≤ _)⟩)
  dsimp only [Pt.U, Pt.locs, Pt.cells, Pt.slots] at X3 l3 y3 z3 st3 hQ3
  subst l3 y3 z3
  obtain ⟨rfl, Nq3, eq3⟩ := hQ3
  have N3 := Fr.app N2 Nq3
  refine own_tr st3 ?_
  show gs T3 m 13 #[vr aS, vr a1, .val .null, vr tA, .unset] [(.int 1)]
  refine own_st (fun _ kS => XS.istore X3.here hx rfl (hb hby d8_13) rfl (l' := #[vr aS, vr a1, .val .null, vr tA, vi 1]) rfl kS) ?_
  refine oaloadN X3 hx hby d8_15 rfl rfl ?_
  refine oV 0 X3 hx hZ hby hml hown (own_w hw 68 rfl) (own_w hw 69 rfl) (own_w hw 71 rfl) (own_w hw 70 rfl) (rm_asbLat1 l Z a0 hw [] a1 zCS h0 n0 Z0 O0 S_CS P_CS Fc) (own_w hw 72 rfl) (own_w hw 26 rfl) eq3 E_1 (by decide) own_pd11 d8_16 rfl rfl rfl (fun T4 L4 v4 X4 hQ4 => ?_)
  obtain ⟨rfl, Nq4, eq4⟩ := hQ4
  have N4 := Fr.app N3 Nq4
  show gs T4 m 19 #[vr aS, vr a1, .val .null, vr tA, vi 1] [(.int 0)]
  refine own_st (fun _ kS => XS.ifYes X4.here hx rfl (pc0 := 19) (pc' := 41) rfl (hb hby d8_19) rfl ((if0 _ _).trans (teq (by decide : (0 : Int32) = (0 : Int32))).1) (by decide) (by decide) kS) ?_
  show gs T4 m 41 #[vr aS, vr a1, .val .null, vr tA, vi 1] []
  obtain ⟨T5, X5, e5, st5⟩ := getS2 X4 hx hZ hown (host := "") (Or.inl (own_w hw 100 rfl)) Via.refl eq4 (Sta.ext O0.2 S_CS) (g := (mkF m 41 #[vr aS, vr a1, .val .null, vr tA, vi 1] [])) rfl (hb hby d8_41)
  refine own_st st5 ?_
  show gs T5 m 44 #[vr aS, vr a1, .val .null, vr tA, vi 1] [(.int zCS)]
  refine own_st (fun _ kS => XS.ifNo X5.here hx rfl (hb hby d8_44) rfl ((if0 _ _).trans (feq (P_CS : ¬ (zCS = (0 : Int32)))).1) kS) ?_
  show gs T5 m 47 #[vr aS, vr a1, .val .null, vr tA, vi 1] []
  refine oaloadN X5 hx hby d8_47 rfl rfl ?_
  obtain ⟨T6, X6, e6, st6⟩ := getF X5 hx hZ hown (host := "") (Or.inl (own_w hw 203 rfl)) Via.refl e5 Fm (g := (mkF m 48 #[vr aS, vr a1, .val .null, vr tA, vi 1] [(.ref a1)])) rfl rfl (hb hby d8_48)
  refine own_st st6 ?_
  show gs T6 m 51 #[vr aS, vr a1, .val .null, vr tA, vi 1] [(.int 0)]
  refine own_st (fun _ kS => XS.ifYes X6.here hx rfl (pc0 := 51) (pc' := 79) rfl (hb hby d8_51) rfl ((if0 _ _).trans (teq (by decide : (0 : Int32) = (0 : Int32))).1) (by decide) (by decide) kS) ?_
  show gs T6 m 79 #[vr aS, vr a1, .val .null, vr tA, vi 1] []
  refine oaloadN X6 hx hby d8_79 rfl rfl ?_
  refine oiconst X6 hx hby d8_80 ?_
  show gs T6 m 81 #[vr aS, vr a1, .val .null, vr tA, vi 1] [(.int 1), (.ref aS)]
  obtain ⟨T7, h7, X7, e7, W7, st7⟩ := putFN X6 hx hZ hown (own_w hw 73 rfl) Via.refl e6 F0c E_0 (Or.inr ⟨(own_w hw 74 rfl), rfl, hnm⟩) (own_w hw 43 rfl) (ty := .byte) (v' := (.int 1)) (by decide) rfl (by decide) (g := (mkF m 81 #[vr aS, vr a1, .val .null, vr tA, vi 1] [(.int 1), (.ref aS)])) rfl rfl (hb hby d8_81)
  refine own_st st7 ?_
  have N7 := Fr.snoc X7 N4 g_0
  have K7 := K0.wr W7 (Or.inl (List.mem_of_getElem? (i := 0) rfl))
  have O7 := O0.wr W7 g_0
  have Fw7 := Fld.same W7 F0c
  show gs T7 m 84 #[vr aS, vr a1, .val .null, vr tA, vi 1] []
  refine oaloadN X7 hx hby d8_84 rfl rfl ?_
  refine oaloadN X7 hx hby d8_85 rfl rfl ?_
  refine oiconst X7 hx hby d8_86 ?_
  refine oiload X7 hx hby d8_87 rfl ?_
  refine oiconst X7 hx hby d8_89 ?_
  refine own_st (fun _ kS => XT.ishl X7.here hx rfl (hb hby d8_90) rfl kS) ?_
  show gs T7 m 91 #[vr aS, vr a1, .val .null, vr tA, vi 1] [(.int 2), (.int 0), (.ref tA), (.ref aS)]
  refine oS 1 X7 hx hZ hby hml hown (own_w hw 75 rfl) (own_w hw 76 rfl) (own_w hw 77 rfl) (own_w hw 78 rfl) (rm_copy_2 l Z a0 hw [] tA kA y0 y1 h7 n0 (Nat.le_trans Z0 (Keep.of_wr W7).1)  (R_A.other W7 (Ne.symm ne0A)) (Exa.wr W7 E_A)) e7 (by decide) own_pd18 d8_91 rfl rfl rfl (fun T8 L8 v8 X8 hQ8 => ?_)
  obtain ⟨tN_8, rfl, Nq8, Kc8, P8_0, P8_1⟩ := hQ8
  have N8 := Fr.app N7 Nq8
  have ne_aS_tN_8 : aS ≠ tN_8 := Nat.ne_of_lt (Nat.lt_of_lt_of_le (Exa.wr W7 E_0).lt P8_0)
  have ne_a1_tN_8 : a1 ≠ tN_8 := Nat.ne_of_lt (Nat.lt_of_lt_of_le (Exa.wr W7 E_1).lt P8_0)
  have ne_tA_tN_8 : tA ≠ tN_8 := Nat.ne_of_lt (Nat.lt_of_lt_of_le (R_A.other W7 (Ne.symm ne0A)).lt P8_0)
  have ge_tN_8 : n0 ≤ tN_8 := Nat.le_trans (Nat.le_trans Z0 (Keep.of_wr W7).1) P8_0
  have sz_tN_8 : h0.size ≤ tN_8 := Nat.le_trans K7.1 P8_0
  have K8 := K7.trans Kc8 all0
  have O8 := O7.keep Kc8 all0
  show gs T8 m 94 #[vr aS, vr a1, .val .null, vr tA, vi 1] [(.ref tN_8), (.ref aS)]
  obtain ⟨T9, h9, X9, e9, W9, st9⟩ := putF X8 hx hZ hown (host := "") (Or.inl (own_w hw 88 rfl)) Via.refl rfl ((Fld.other W7 F0v (Or.inr (slot_ne (Or.inr (own_w hw 89 rfl)) (Or.inr (own_w hw 74 rfl)) (by decide) (t := (.array .byte)) (t' := .byte) (by decide) (by decide)))).keep Kc8 nin0) ((Exa.wr W7 E_0).keep Kc8) (Or.inr ⟨(own_w hw 89 rfl), rfl, hnm⟩) (own_w hw 43 rfl) (ty := (.array .byte)) (by decide) rfl rfl (g := (mkF m 94 #[vr aS, vr a1, .val .null, vr tA, vi 1] [(.ref tN_8), (.ref aS)])) rfl rfl (hb hby d8_94)
  refine own_st st9 ?_
  have N9 := Fr.snoc X9 N8 g_0
  have K9 := K8.wr W9 (Or.inl (List.mem_of_getElem? (i := 0) rfl))
  have O9 := O8.wr W9 g_0
  have Fw9 := Fld.same W9 ((Fld.other W7 F0v (Or.inr (slot_ne (Or.inr (own_w hw 89 rfl)) (Or.inr (own_w hw 74 rfl)) (by decide) (t := (.array .byte)) (t' := .byte) (by decide) (by decide)))).keep Kc8 nin0)
  show gs T9 m 97 #[vr aS, vr a1, .val .null, vr tA, vi 1] []
  exact own_retV X9 hx hlk hret (hb hby d8_97) (by decide) (by decide) (by rw [e9]; exact ⟨tN_8, ⟨rfl, N9, K9, sz_tN_8, (Exa.wr W9 ((Exa.wr W7 E_0).keep Kc8)), (Fld.other W9 (Fw7.keep Kc8 nin0) (Or.inr (slot_ne (Or.inr (own_w hw 74 rfl)) (Or.inr (own_w hw 89 rfl)) (by decide) (t := .byte) (t' := (.array .byte)) (by decide) (by decide)))), Fw9, (P8_1.other W9 (Ne.symm ne_aS_tN_8))⟩⟩)
theorem ef_strInitB_1_1 (m : MethodId) (x0 : Addr) (x1 : Addr) : entryFrame m #[(.ref x0), (.ref x1)] 2 = mkF m 0 #[.val (.ref x0), .val (.ref x1)] [] := by first | (simp [entryFrame, mkF, argsToLocals, Value.category]; done) | rfl
def Q_strInitB_1_1 (Z : State) (aS : Addr) (a1 : Addr) (tA : Addr) (kA : ClassId) (y0 : Int32) (y1 : Int32) (zCS : Int32) (h0 : Heap) (n0 : Nat) (v : Option Value) (h : Heap) (L : List Loc) : Prop := ∃ tN : Addr, v = none ∧ Fr n0 L ∧ Keep h0 h [aS] ∧ h0.size ≤ tN ∧ ek21 Z h aS ∧ fk15 Z h aS (.int 1) ∧ fk16 Z h aS (.ref tN) ∧ Arv Z h tN kA .byte (2 : Int32) [(.int y0), (.int y1)] (.int 0)
theorem rm_strInitB_1_1 (l : Launch) (Z : State) (a0 : Array Value) (hw : HW a0 Z) (ws : List Jvm.Cond) (aS : Addr) (a1 : Addr) (tA : Addr) (kA : ClassId) (y0 : Int32) (y1 : Int32) (zCS : Int32) (h0 : Heap) (n0 : Nat) (Z0 : n0 ≤ h0.size) (O0 : Old Z n0 h0) (E_0 : ek21 Z h0 aS) (g_0 : n0 ≤ aS) (F0v : fk16 Z h0 aS .null) (F0c : fk15 Z h0 aS (.int 0)) (ne01 : aS ≠ a1) (ne0A : aS ≠ tA) (E_1 : ek20 Z h0 a1) (Fv : fk11 Z h0 a1 (.ref tA)) (Fc : fk12 Z h0 a1 (.int 1)) (Fn : fk13 Z h0 a1 (.int 1)) (Fm : fk14 Z h0 a1 (.int 0)) (R_A : Arv Z h0 tA kA .byte (2 : Int32) [(.int y0), (.int y1)] (.int 0)) (E_A : ek19 Z h0 tA) (S_CS : sk0 Z Z.heap (.int zCS)) (P_CS : ¬ zCS = 0) :
    M26 l ws (rmk 3 1 2 45) Z #[(.ref aS), (.ref a1)] h0 (Q_strInitB_1_1 Z aS a1 tA kA y0 y1 zCS h0 n0) := by
  refine own_go "java/lang/String" rfl (plainFor_of_name pn_7) (fun m => ef_strInitB_1_1 m aS a1) (fun p e s m below meth c s₁ hx hby hml hown hnm hlk hret hZ X0 e0 => ?_)
  have N0 := Fr.nil n0
  have K0 := Keep.refl h0 [aS]
  show gs s₁ m 0 #[vr aS, vr a1] []
  refine oaloadN X0 hx hby d7_0 rfl rfl ?_
  refine oaloadN X0 hx hby d7_1 rfl rfl ?_
  refine own_st (fun _ kS => XS.aconstNull X0.here hx rfl (hb hby d7_2) kS) ?_
  show gs s₁ m 3 #[vr aS, vr a1] [.null, (.ref a1), (.ref aS)]
  refine oN 0 X0 hx hZ hby hml hown (own_w hw 48 rfl) (own_w hw 49 rfl) (own_w hw 32 rfl) (own_w hw 50 rfl) (rm_strInitA_1_1 l Z a0 hw [] aS a1 tA kA y0 y1 zCS h0 n0 Z0 O0 E_0 g_0 F0v F0c ne01 ne0A E_1 Fv Fc Fn Fm R_A E_A S_CS P_CS) e0 rfl (by decide) own_pd19 d7_3 rfl rfl rfl (fun T1 L1 v1 X1 hQ1 => ?_)
  obtain ⟨tN_1, rfl, Nq1, Kc1, P1_0, P1_1, P1_2, P1_3, P1_4⟩ := hQ1
  have N1 := Fr.app N0 Nq1
  have ne_aS_tN_1 : aS ≠ tN_1 := Nat.ne_of_lt (Nat.lt_of_lt_of_le E_0.lt P1_0)
  have ne_a1_tN_1 : a1 ≠ tN_1 := Nat.ne_of_lt (Nat.lt_of_lt_of_le E_1.lt P1_0)
  have ne_tA_tN_1 : tA ≠ tN_1 := Nat.ne_of_lt (Nat.lt_of_lt_of_le R_A.lt P1_0)
  have ge_tN_1 : n0 ≤ tN_1 := Nat.le_trans Z0 P1_0
  have sz_tN_1 : h0.size ≤ tN_1 := Nat.le_trans K0.1 P1_0
  have K1 := K0.trans Kc1 (allS (Or.inl (List.mem_of_getElem? (i := 0) rfl)) all0)
  have O1 := O0.keep Kc1 (allS g_0 all0)
  show gs T1 m 6 #[vr aS, vr a1] []
  exact own_retV X1 hx hlk hret (hb hby d7_6) (by decide) (by decide) (show Q_strInitB_1_1 Z aS a1 tA kA y0 y1 zCS h0 n0 _ _ _ from ⟨tN_1, ⟨rfl, N1, K1, sz_tN_1, P1_1, P1_2, P1_3, P1_4⟩⟩)
theorem ef_toStr_1_1 (m : MethodId) (x0 : Addr) : entryFrame m #[(.ref x0)] 1 = mkF m 0 #[.val (.ref x0)] [] := by first | (simp [entryFrame, mkF, argsToLocals, Value.category]; done) | rfl
def Q_toStr_1_1 (Z : State) (a1 : Addr) (tA : Addr) (kA : ClassId) (y0 : Int32) (y1 : Int32) (zCS : Int32) (h0 : Heap) (n0 : Nat) (v : Option Value) (h : Heap) (L : List Loc) : Prop := ∃ bS : Addr, ∃ tN : Addr, v = some (.ref bS) ∧ Fr n0 L ∧ Keep h0 h [] ∧ h0.size ≤ bS ∧ h0.size ≤ tN ∧ bS ≠ tN ∧ ek21 Z h bS ∧ fk15 Z h bS (.int 1) ∧ fk16 Z h bS (.ref tN) ∧ Arv Z h tN kA .byte (2 : Int32) [(.int y0), (.int y1)] (.int 0)
theorem rm_toStr_1_1 (l : Launch) (Z : State) (a0 : Array Value) (hw : HW a0 Z) (ws : List Jvm.Cond) (a1 : Addr) (tA : Addr) (kA : ClassId) (y0 : Int32) (y1 : Int32) (zCS : Int32) (h0 : Heap) (n0 : Nat) (Z0 : n0 ≤ h0.size) (O0 : Old Z n0 h0) (E_1 : ek20 Z h0 a1) (Fv : fk11 Z h0 a1 (.ref tA)) (Fc : fk12 Z h0 a1 (.int 1)) (Fn : fk13 Z h0 a1 (.int 1)) (Fm : fk14 Z h0 a1 (.int 0)) (R_A : Arv Z h0 tA kA .byte (2 : Int32) [(.int y0), (.int y1)] (.int 0)) (E_A : ek19 Z h0 tA) (S_CS : sk0 Z Z.heap (.int zCS)) (P_CS : ¬ zCS = 0) :
    M27 l ws (rmk 4 2 6 59) Z #[(.ref a1)] h0 (Q_toStr_1_1 Z a1 tA kA y0 y1 zCS h0 n0) := by
  refine own_go "java/lang/StringBuilder" rfl (plainFor_of_name pn_6) (fun m => ef_toStr_1_1 m a1) (fun p e s m below meth c s₁ hx hby hml hown hnm hlk hret hZ X0 e0 => ?_)
  have N0 := Fr.nil n0
  have K0 := Keep.refl h0 []
  show gs s₁ m 0 #[vr a1] []
  obtain ⟨T1, h1, X1, e1, E1, A1, D1, -, st1⟩ := newO X0 hx hZ hown (own_w hw 42 rfl) (own_w hw 43 rfl) (own_w hw 32 rfl) e0 (g := (mkF m 0 #[vr a1] [])) rfl (hb hby d6_0) (by decide) (by decide)
  obtain ⟨b1, g1⟩ : ∃ z, z = h0.size := ⟨_, rfl⟩
  have ne_a1_b1 : a1 ≠ b1 := Nat.ne_of_lt (Nat.lt_of_lt_of_eq E_1.lt g1.symm)
  have ne_tA_b1 : tA ≠ b1 := Nat.ne_of_lt (Nat.lt_of_lt_of_eq R_A.lt g1.symm)
  have ge_b1 : n0 ≤ b1 := Nat.le_trans Z0 (Nat.le_of_eq g1.symm)
  have sz_b1 : h0.size ≤ b1 := Nat.le_trans K0.1 (Nat.le_of_eq g1.symm)
  rw [← g1] at A1 D1 st1
  have K1 := K0.ext E1
  have O1 := O0.ext E1
  have F1_coder : fk15 Z h1 b1 (.int 0) := D1 (Or.inr (own_w hw 74 rfl)) (ty := .byte) (by decide)
  have F1_value : fk16 Z h1 b1 .null := D1 (Or.inr (own_w hw 89 rfl)) (ty := (.array .byte)) (by decide)
  refine own_st st1 ?_
  show gs T1 m 3 #[vr a1] [(.ref b1)]
  refine own_st (fun _ kS => XS.dup X1.here hx rfl (hb hby d6_3) rfl rfl kS) ?_
  refine oaloadN X1 hx hby d6_4 rfl rfl ?_
  refine oN 1 X1 hx hZ hby hml hown (own_w hw 44 rfl) (own_w hw 45 rfl) (own_w hw 32 rfl) (own_w hw 47 rfl) (rm_strInitB_1_1 l Z a0 hw [] b1 a1 tA kA y0 y1 zCS h1 n0 (Nat.le_trans Z0 E1.1) O1 A1 ge_b1 F1_value F1_coder (Ne.symm ne_a1_b1) (Ne.symm ne_tA_b1) (Exa.ext E1 E_1) (Fld.ext E1 Fv) (Fld.ext E1 Fc) (Fld.ext E1 Fn) (Fld.ext E1 Fm) (Arv.ext R_A E1) (Exa.ext E1 E_A) S_CS P_CS) e1 rfl (by decide) own_pd20 d6_5 rfl rfl rfl (fun T2 L2 v2 X2 hQ2 => ?_)
  obtain ⟨tN_2, rfl, Nq2, Kc2, P2_0, P2_1, P2_2, P2_3, P2_4⟩ := hQ2
  have N2 := Fr.app N0 Nq2
  have ne_a1_tN_2 : a1 ≠ tN_2 := Nat.ne_of_lt (Nat.lt_of_lt_of_le (Exa.ext E1 E_1).lt P2_0)
  have ne_tA_tN_2 : tA ≠ tN_2 := Nat.ne_of_lt (Nat.lt_of_lt_of_le (Arv.ext R_A E1).lt P2_0)
  have ne_b1_tN_2 : b1 ≠ tN_2 := Nat.ne_of_lt (Nat.lt_of_lt_of_le A1.lt P2_0)
  have ge_tN_2 : n0 ≤ tN_2 := Nat.le_trans (Nat.le_trans Z0 E1.1) P2_0
  have sz_tN_2 : h0.size ≤ tN_2 := Nat.le_trans K1.1 P2_0
  have K2 := K1.trans Kc2 (allS (Or.inr sz_b1) all0)
  have O2 := O1.keep Kc2 (allS ge_b1 all0)
  show gs T2 m 8 #[vr a1] [(.ref b1)]
  exact own_retA X2 hx hlk hret rfl rfl (hb hby d6_8) (by decide) (by decide) (show Q_toStr_1_1 Z a1 tA kA y0 y1 zCS h0 n0 _ _ _ from ⟨b1, tN_2, ⟨rfl, N2, K2, sz_b1, sz_tN_2, ne_b1_tN_2, P2_1, P2_2, P2_3, P2_4⟩⟩)
theorem ef_asbLen_2 (m : MethodId) (x0 : Addr) : entryFrame m #[(.ref x0)] 1 = mkF m 0 #[.val (.ref x0)] [] := by first | (simp [entryFrame, mkF, argsToLocals, Value.category]; done) | rfl
def Q_asbLen_2 (Z : State) (a1 : Addr) (h0 : Heap) (n0 : Nat) (v : Option Value) (h : Heap) (L : List Loc) : Prop := v = some (.int 2) ∧ Fr n0 L ∧ h = h0
theorem rm_asbLen_2 (l : Launch) (Z : State) (a0 : Array Value) (hw : HW a0 Z) (ws : List Jvm.Cond) (a1 : Addr) (h0 : Heap) (n0 : Nat) (Z0 : n0 ≤ h0.size) (Fn : fk13 Z h0 a1 (.int 2)) :
    M22 l ws (rmk 0 0 0 0) Z #[(.ref a1)] h0 (Q_asbLen_2 Z a1 h0 n0) := by
  refine own_go "java/lang/AbstractStringBuilder" rfl (plainFor_of_name pn_11) (fun m => ef_asbLen_2 m a1) (fun p e s m below meth c s₁ hx hby hml hown hnm hlk hret hZ X0 e0 => ?_)
  have N0 := Fr.nil n0
  show gs s₁ m 0 #[vr a1] []
  refine oaloadN X0 hx hby d11_0 rfl rfl ?_
  obtain ⟨T1, X1, e1, st1⟩ := getF X0 hx hZ hown (host := "") (Or.inl (own_w hw 66 rfl)) Via.refl e0 Fn (g := (mkF m 1 #[vr a1] [(.ref a1)])) rfl rfl (hb hby d11_1)
  refine own_st st1 ?_
  show gs T1 m 4 #[vr a1] [(.int 2)]
  exact own_retI X1 hx hlk hret (hb hby d11_4) (by decide) (by decide) (by rw [e1]; exact ⟨rfl, N0, rfl⟩)
theorem ef_sbLen_2 (m : MethodId) (x0 : Addr) : entryFrame m #[(.ref x0)] 1 = mkF m 0 #[.val (.ref x0)] [] := by first | (simp [entryFrame, mkF, argsToLocals, Value.category]; done) | rfl
def Q_sbLen_2 (Z : State) (a1 : Addr) (h0 : Heap) (n0 : Nat) (v : Option Value) (h : Heap) (L : List Loc) : Prop := v = some (.int 2) ∧ Fr n0 L ∧ h = h0
theorem rm_sbLen_2 (l : Launch) (Z : State) (a0 : Array Value) (hw : HW a0 Z) (ws : List Jvm.Cond) (a1 : Addr) (h0 : Heap) (n0 : Nat) (Z0 : n0 ≤ h0.size) (E_1 : ek20 Z h0 a1) (Fn : fk13 Z h0 a1 (.int 2)) :
    M23 l ws (rmk 1 0 0 12) Z #[(.ref a1)] h0 (Q_sbLen_2 Z a1 h0 n0) := by
  refine own_go "java/lang/StringBuilder" rfl (plainFor_of_name pn_10) (fun m => ef_sbLen_2 m a1) (fun p e s m below meth c s₁ hx hby hml hown hnm hlk hret hZ X0 e0 => ?_)
  have N0 := Fr.nil n0
  show gs s₁ m 0 #[vr a1] []
  refine oaloadN X0 hx hby d10_0 rfl rfl ?_
  show gs s₁ m 1 #[vr a1] [(.ref a1)]
  obtain ⟨_, _, ⟨T1, L1, k1, n1⟩, -, X1, ⟨Lc1, hQ1, l1, y1, z1⟩, st1⟩ := superBack X0 hx hZ (y := (⟨"java/lang/AbstractStringBuilder", "length", "()I"⟩ : MethodName)) hown (own_w hw 63 rfl) (own_same (own_w hw 55 rfl) rfl (own_w hw 59 rfl) (by decide)) (own_w hw 59 rfl) (own_w hw 64 rfl) (by decide) (backOf (W := 0) (rm_asbLen_2 l Z a0 hw [] a1 h0 n0 Z0  Fn) hZ (own_w hw 65 rfl) (own_w hw 26 rfl) (by decide) (by decide)) e0 (Ins.self E_1) (g := (mkF m 1 #[vr a1] [(.ref a1)])) rfl (by rw [hml]; rfl) (own_w hw 65 rfl) (argsL := []) (rest := []) (lenOf own_pd16 rfl) rfl (by show 2 * 0 + _ ≤ _; exact Nat.le_of_eq rfl) (hb hby d10_1) (fun _ _ => ⟨rfl, e0, (by decide : 0 + 0 ≤ _), (by decide : 0 + 0 ≤ _)⟩)
  dsimp only [Pt.U, Pt.locs, Pt.cells, Pt.slots] at X1 l1 y1 z1 st1 hQ1
  subst l1 y1 z1
  obtain ⟨rfl, Nq1, eq1⟩ := hQ1
  have N1 := Fr.app N0 Nq1
  refine own_tr st1 ?_
  show gs T1 m 4 #[vr a1] [(.int 2)]
  exact own_retI X1 hx hlk hret (hb hby d10_4) (by decide) (by decide) (by rw [eq1]; exact ⟨rfl, N1, rfl⟩)
theorem ef_strInitA_2_0 (m : MethodId) (x0 : Addr) (x1 : Addr) : entryFrame m #[(.ref x0), (.ref x1), .null] 5 = mkF m 0 #[.val (.ref x0), .val (.ref x1), .val .null, .unset, .unset] [] := by first | (simp [entryFrame, mkF, argsToLocals, Value.category]; done) | rfl
def Q_strInitA_2_0 (Z : State) (aS : Addr) (a1 : Addr) (tA : Addr) (kA : ClassId) (y0 : Int32) (y1 : Int32) (zCS : Int32) (h0 : Heap) (n0 : Nat) (v : Option Value) (h : Heap) (L : List Loc) : Prop := ∃ tN : Addr, v = none ∧ Fr n0 L ∧ Keep h0 h [aS] ∧ h0.size ≤ tN ∧ ek21 Z h aS ∧ fk15 Z h aS (.int 0) ∧ fk16 Z h aS (.ref tN) ∧ Arv Z h tN kA .byte (2 : Int32) [(.int y0), (.int y1)] (.int 0)
theorem rm_strInitA_2_0 (l : Launch) (Z : State) (a0 : Array Value) (hw : HW a0 Z) (ws : List Jvm.Cond) (aS : Addr) (a1 : Addr) (tA : Addr) (kA : ClassId) (y0 : Int32) (y1 : Int32) (zCS : Int32) (h0 : Heap) (n0 : Nat) (Z0 : n0 ≤ h0.size) (O0 : Old Z n0 h0) (E_0 : ek21 Z h0 aS) (g_0 : n0 ≤ aS) (F0v : fk16 Z h0 aS .null) (F0c : fk15 Z h0 aS (.int 0)) (ne01 : aS ≠ a1) (ne0A : aS ≠ tA) (E_1 : ek20 Z h0 a1) (Fv : fk11 Z h0 a1 (.ref tA)) (Fc : fk12 Z h0 a1 (.int 0)) (Fn : fk13 Z h0 a1 (.int 2)) (Fm : fk14 Z h0 a1 (.int 0)) (R_A : Arv Z h0 tA kA .byte (2 : Int32) [(.int y0), (.int y1)] (.int 0)) (E_A : ek19 Z h0 tA) (S_CS : sk0 Z Z.heap (.int zCS)) (P_CS : ¬ zCS = 0) :
    M25 l ws (rmk 2 1 2 29) Z #[(.ref aS), (.ref a1), .null] h0 (Q_strInitA_2_0 Z aS a1 tA kA y0 y1 zCS h0 n0) := by
  refine own_go "java/lang/String" rfl (plainFor_of_name pn_8) (fun m => ef_strInitA_2_0 m aS a1) (fun p e s m below meth c s₁ hx hby hml hown hnm hlk hret hZ X0 e0 => ?_)
  have N0 := Fr.nil n0
  have K0 := Keep.refl h0 [aS]
  show gs s₁ m 0 #[vr aS, vr a1, .val .null, .unset, .unset] []
  refine oaloadN X0 hx hby d8_0 rfl rfl ?_
  obtain ⟨T1, X1, e1, st1⟩ := initO X0 hx hZ hown (own_w hw 51 rfl) (own_w hw 29 rfl) (own_w hw 30 rfl) e0 (g := (mkF m 1 #[vr aS, vr a1, .val .null, .unset, .unset] [(.ref aS)])) rfl (by rw [hml]; rfl) rfl (hb hby d8_1) (by decide) (W := 0) (by show 2 * 0 + _ ≤ _; exact Nat.le_of_eq rfl) (by decide)
  refine own_st st1 ?_
  show gs T1 m 4 #[vr aS, vr a1, .val .null, .unset, .unset] []
  refine oaloadN X1 hx hby d8_4 rfl rfl ?_
  refine oV 0 X1 hx hZ hby hml hown (own_w hw 52 rfl) (own_w hw 53 rfl) (own_w hw 55 rfl) (own_w hw 54 rfl) (rm_getValue l Z a0 hw [] a1 tA h0 n0 Z0  Fv) (own_w hw 56 rfl) (own_w hw 26 rfl) e1 E_1 (by decide) own_pd17 d8_5 rfl rfl rfl (fun T2 L2 v2 X2 hQ2 => ?_)
  obtain ⟨rfl, Nq2, eq2⟩ := hQ2
  have N2 := Fr.app N0 Nq2
  show gs T2 m 8 #[vr aS, vr a1, .val .null, .unset, .unset] [(.ref tA)]
  refine own_st (fun _ kS => XS.astoreN X2.here hx rfl (hb hby d8_8) rfl rfl (l' := #[vr aS, vr a1, .val .null, vr tA, .unset]) rfl kS) ?_
  refine oaloadN X2 hx hby d8_9 rfl rfl ?_
  show gs T2 m 10 #[vr aS, vr a1, .val .null, vr tA, .unset] [(.ref a1)]
  obtain ⟨cq3, kq3, q3a, q3b, q3c⟩ := isOf hZ eq2 E_1
  obtain ⟨_, _, ⟨T3, L3, k3, n3⟩, -, X3, ⟨Lc3, hQ3, l3, y3, z3⟩, st3⟩ := X2.virtualBack hx (y := (⟨"java/lang/AbstractStringBuilder", "length", "()I"⟩ : MethodName)) (z := (⟨"java/lang/StringBuilder", "length", "()I"⟩ : MethodName)) hown (mvT hZ (own_w hw 57 rfl)) (mvT hZ (own_w hw 58 rfl)) (own_nf (args := #[]) (mvT hZ (own_w hw 55 rfl)) rfl) (mvT hZ (own_w hw 60 rfl)) (mvT hZ (own_w hw 61 rfl)) (by decide) (backOf (W := 0) (rm_sbLen_2 l Z a0 hw [] a1 h0 n0 Z0  E_1 Fn) hZ (own_w hw 62 rfl) (own_w hw 16 rfl) (by decide) (by decide)) q3a q3c (g := (mkF m 10 #[vr aS, vr a1, .val .null, vr tA, .unset] [(.ref a1)])) rfl (by rw [hml]; rfl) (Steps.refl _) (argsL := []) (rest := []) (lenOf own_pd16 rfl) rfl (by show 2 * 0 + _ ≤ _; exact Nat.le_of_eq rfl) (hb hby d8_10) (fun _ _ => ⟨rfl, eq2, (by decide : 0 + 0 ≤ _), (by decide : 0 + 0 ≤ _)⟩)
  dsimp only [Pt.U, Pt.locs, Pt.cells, Pt.slots] at X3 l3 y3 z3 st3 hQ3
  subst l3 y3 z3
  obtain ⟨rfl, Nq3, eq3⟩ := hQ3
  have N3 := Fr.app N2 Nq3
  refine own_tr st3 ?_
  show gs T3 m 13 #[vr aS, vr a1, .val .null, vr tA, .unset] [(.int 2)]
  refine own_st (fun _ kS => XS.istore X3.here hx rfl (hb hby d8_13) rfl (l' := #[vr aS, vr a1, .val .null, vr tA, vi 2]) rfl kS) ?_
  refine oaloadN X3 hx hby d8_15 rfl rfl ?_
  refine oV 0 X3 hx hZ hby hml hown (own_w hw 68 rfl) (own_w hw 69 rfl) (own_w hw 71 rfl) (own_w hw 70 rfl) (rm_asbLat0 l Z a0 hw [] a1 zCS h0 n0 Z0 O0 S_CS P_CS Fc) (own_w hw 72 rfl) (own_w hw 26 rfl) eq3 E_1 (by decide) own_pd11 d8_16 rfl rfl rfl (fun T4 L4 v4 X4 hQ4 => ?_)
  obtain ⟨rfl, Nq4, eq4⟩ := hQ4
  have N4 := Fr.app N3 Nq4
  show gs T4 m 19 #[vr aS, vr a1, .val .null, vr tA, vi 2] [(.int 1)]
  refine own_st (fun _ kS => XS.ifNo X4.here hx rfl (hb hby d8_19) rfl ((if0 _ _).trans (feq (by decide : ¬ ((1 : Int32) = (0 : Int32)))).1) kS) ?_
  show gs T4 m 22 #[vr aS, vr a1, .val .null, vr tA, vi 2] []
  refine oaloadN X4 hx hby d8_22 rfl rfl ?_
  refine oiconst X4 hx hby d8_23 ?_
  show gs T4 m 24 #[vr aS, vr a1, .val .null, vr tA, vi 2] [(.int 0), (.ref aS)]
  obtain ⟨T5, h5, X5, e5, W5, st5⟩ := putFN X4 hx hZ hown (own_w hw 73 rfl) Via.refl eq4 F0c E_0 (Or.inr ⟨(own_w hw 74 rfl), rfl, hnm⟩) (own_w hw 43 rfl) (ty := .byte) (v' := (.int 0)) (by decide) rfl (by decide) (g := (mkF m 24 #[vr aS, vr a1, .val .null, vr tA, vi 2] [(.int 0), (.ref aS)])) rfl rfl (hb hby d8_24)
  refine own_st st5 ?_
  have N5 := Fr.snoc X5 N4 g_0
  have K5 := K0.wr W5 (Or.inl (List.mem_of_getElem? (i := 0) rfl))
  have O5 := O0.wr W5 g_0
  have Fw5 := Fld.same W5 F0c
  show gs T5 m 27 #[vr aS, vr a1, .val .null, vr tA, vi 2] []
  refine oaloadN X5 hx hby d8_27 rfl rfl ?_
  refine oaloadN X5 hx hby d8_28 rfl rfl ?_
  refine oiconst X5 hx hby d8_29 ?_
  refine oiload X5 hx hby d8_30 rfl ?_
  refine oS 1 X5 hx hZ hby hml hown (own_w hw 75 rfl) (own_w hw 76 rfl) (own_w hw 77 rfl) (own_w hw 78 rfl) (rm_copy_2 l Z a0 hw [] tA kA y0 y1 h5 n0 (Nat.le_trans Z0 (Keep.of_wr W5).1)  (R_A.other W5 (Ne.symm ne0A)) (Exa.wr W5 E_A)) e5 (by decide) own_pd18 d8_32 rfl rfl rfl (fun T6 L6 v6 X6 hQ6 => ?_)
  obtain ⟨tN_6, rfl, Nq6, Kc6, P6_0, P6_1⟩ := hQ6
  have N6 := Fr.app N5 Nq6
  have ne_aS_tN_6 : aS ≠ tN_6 := Nat.ne_of_lt (Nat.lt_of_lt_of_le (Exa.wr W5 E_0).lt P6_0)
  have ne_a1_tN_6 : a1 ≠ tN_6 := Nat.ne_of_lt (Nat.lt_of_lt_of_le (Exa.wr W5 E_1).lt P6_0)
  have ne_tA_tN_6 : tA ≠ tN_6 := Nat.ne_of_lt (Nat.lt_of_lt_of_le (R_A.other W5 (Ne.symm ne0A)).lt P6_0)
  have ge_tN_6 : n0 ≤ tN_6 := Nat.le_trans (Nat.le_trans Z0 (Keep.of_wr W5).1) P6_0
  have sz_tN_6 : h0.size ≤ tN_6 := Nat.le_trans K5.1 P6_0
  have K6 := K5.trans Kc6 all0
  have O6 := O5.keep Kc6 all0
  show gs T6 m 35 #[vr aS, vr a1, .val .null, vr tA, vi 2] [(.ref tN_6), (.ref aS)]
  obtain ⟨T7, h7, X7, e7, W7, st7⟩ := putF X6 hx hZ hown (host := "") (Or.inl (own_w hw 88 rfl)) Via.refl rfl ((Fld.other W5 F0v (Or.inr (slot_ne (Or.inr (own_w hw 89 rfl)) (Or.inr (own_w hw 74 rfl)) (by decide) (t := (.array .byte)) (t' := .byte) (by decide) (by decide)))).keep Kc6 nin0) ((Exa.wr W5 E_0).keep Kc6) (Or.inr ⟨(own_w hw 89 rfl), rfl, hnm⟩) (own_w hw 43 rfl) (ty := (.array .byte)) (by decide) rfl rfl (g := (mkF m 35 #[vr aS, vr a1, .val .null, vr tA, vi 2] [(.ref tN_6), (.ref aS)])) rfl rfl (hb hby d8_35)
  refine own_st st7 ?_
  have N7 := Fr.snoc X7 N6 g_0
  have K7 := K6.wr W7 (Or.inl (List.mem_of_getElem? (i := 0) rfl))
  have O7 := O6.wr W7 g_0
  have Fw7 := Fld.same W7 ((Fld.other W5 F0v (Or.inr (slot_ne (Or.inr (own_w hw 89 rfl)) (Or.inr (own_w hw 74 rfl)) (by decide) (t := (.array .byte)) (t' := .byte) (by decide) (by decide)))).keep Kc6 nin0)
  show gs T7 m 38 #[vr aS, vr a1, .val .null, vr tA, vi 2] []
  refine own_st (fun _ kS => XS.goto X7.here hx rfl (pc0 := 38) (pc' := 97) rfl (hb hby d8_38) (by decide) (by decide) kS) ?_
  show gs T7 m 97 #[vr aS, vr a1, .val .null, vr tA, vi 2] []
  exact own_retV X7 hx hlk hret (hb hby d8_97) (by decide) (by decide) (by rw [e7]; exact ⟨tN_6, ⟨rfl, N7, K7, sz_tN_6, (Exa.wr W7 ((Exa.wr W5 E_0).keep Kc6)), (Fld.other W7 (Fw5.keep Kc6 nin0) (Or.inr (slot_ne (Or.inr (own_w hw 74 rfl)) (Or.inr (own_w hw 89 rfl)) (by decide) (t := .byte) (t' := (.array .byte)) (by decide) (by decide)))), Fw7, (P6_1.other W7 (Ne.symm ne_aS_tN_6))⟩⟩)
theorem ef_strInitB_2_0 (m : MethodId) (x0 : Addr) (x1 : Addr) : entryFrame m #[(.ref x0), (.ref x1)] 2 = mkF m 0 #[.val (.ref x0), .val (.ref x1)] [] := by first | (simp [entryFrame, mkF, argsToLocals, Value.category]; done) | rfl
def Q_strInitB_2_0 (Z : State) (aS : Addr) (a1 : Addr) (tA : Addr) (kA : ClassId) (y0 : Int32) (y1 : Int32) (zCS : Int32) (h0 : Heap) (n0 : Nat) (v : Option Value) (h : Heap) (L : List Loc) : Prop := ∃ tN : Addr, v = none ∧ Fr n0 L ∧ Keep h0 h [aS] ∧ h0.size ≤ tN ∧ ek21 Z h aS ∧ fk15 Z h aS (.int 0) ∧ fk16 Z h aS (.ref tN) ∧ Arv Z h tN kA .byte (2 : Int32) [(.int y0), (.int y1)] (.int 0)
theorem rm_strInitB_2_0 (l : Launch) (Z : State) (a0 : Array Value) (hw : HW a0 Z) (ws : List Jvm.Cond) (aS : Addr) (a1 : Addr) (tA : Addr) (kA : ClassId) (y0 : Int32) (y1 : Int32) (zCS : Int32) (h0 : Heap) (n0 : Nat) (Z0 : n0 ≤ h0.size) (O0 : Old Z n0 h0) (E_0 : ek21 Z h0 aS) (g_0 : n0 ≤ aS) (F0v : fk16 Z h0 aS .null) (F0c : fk15 Z h0 aS (.int 0)) (ne01 : aS ≠ a1) (ne0A : aS ≠ tA) (E_1 : ek20 Z h0 a1) (Fv : fk11 Z h0 a1 (.ref tA)) (Fc : fk12 Z h0 a1 (.int 0)) (Fn : fk13 Z h0 a1 (.int 2)) (Fm : fk14 Z h0 a1 (.int 0)) (R_A : Arv Z h0 tA kA .byte (2 : Int32) [(.int y0), (.int y1)] (.int 0)) (E_A : ek19 Z h0 tA) (S_CS : sk0 Z Z.heap (.int zCS)) (P_CS : ¬ zCS = 0) :
    M26 l ws (rmk 3 1 2 45) Z #[(.ref aS), (.ref a1)] h0 (Q_strInitB_2_0 Z aS a1 tA kA y0 y1 zCS h0 n0) := by
  refine own_go "java/lang/String" rfl (plainFor_of_name pn_7) (fun m => ef_strInitB_2_0 m aS a1) (fun p e s m below meth c s₁ hx hby hml hown hnm hlk hret hZ X0 e0 => ?_)
  have N0 := Fr.nil n0
  have K0 := Keep.refl h0 [aS]
  show gs s₁ m 0 #[vr aS, vr a1] []
  refine oaloadN X0 hx hby d7_0 rfl rfl ?_
  refine oaloadN X0 hx hby d7_1 rfl rfl ?_
  refine own_st (fun _ kS => XS.aconstNull X0.here hx rfl (hb hby d7_2) kS) ?_
  show gs s₁ m 3 #[vr aS, vr a1] [.null, (.ref a1), (.ref aS)]
  refine oN 0 X0 hx hZ hby hml hown (own_w hw 48 rfl) (own_w hw 49 rfl) (own_w hw 32 rfl) (own_w hw 50 rfl) (rm_strInitA_2_0 l Z a0 hw [] aS a1 tA kA y0 y1 zCS h0 n0 Z0 O0 E_0 g_0 F0v F0c ne01 ne0A E_1 Fv Fc Fn Fm R_A E_A S_CS P_CS) e0 rfl (by decide) own_pd19 d7_3 rfl rfl rfl (fun T1 L1 v1 X1 hQ1 => ?_)
  obtain ⟨tN_1, rfl, Nq1, Kc1, P1_0, P1_1, P1_2, P1_3, P1_4⟩ := hQ1
  have N1 := Fr.app N0 Nq1
  have ne_aS_tN_1 : aS ≠ tN_1 := Nat.ne_of_lt (Nat.lt_of_lt_of_le E_0.lt P1_0)
  have ne_a1_tN_1 : a1 ≠ tN_1 := Nat.ne_of_lt (Nat.lt_of_lt_of_le E_1.lt P1_0)
  have ne_tA_tN_1 : tA ≠ tN_1 := Nat.ne_of_lt (Nat.lt_of_lt_of_le R_A.lt P1_0)
  have ge_tN_1 : n0 ≤ tN_1 := Nat.le_trans Z0 P1_0
  have sz_tN_1 : h0.size ≤ tN_1 := Nat.le_trans K0.1 P1_0
  have K1 := K0.trans Kc1 (allS (Or.inl (List.mem_of_getElem? (i := 0) rfl)) all0)
  have O1 := O0.keep Kc1 (allS g_0 all0)
  show gs T1 m 6 #[vr aS, vr a1] []
  exact own_retV X1 hx hlk hret (hb hby d7_6) (by decide) (by decide) (show Q_strInitB_2_0 Z aS a1 tA kA y0 y1 zCS h0 n0 _ _ _ from ⟨tN_1, ⟨rfl, N1, K1, sz_tN_1, P1_1, P1_2, P1_3, P1_4⟩⟩)
theorem ef_toStr_2_0 (m : MethodId) (x0 : Addr) : entryFrame m #[(.ref x0)] 1 = mkF m 0 #[.val (.ref x0)] [] := by first | (simp [entryFrame, mkF, argsToLocals, Value.category]; done) | rfl
def Q_toStr_2_0 (Z : State) (a1 : Addr) (tA : Addr) (kA : ClassId) (y0 : Int32) (y1 : Int32) (zCS : Int32) (h0 : Heap) (n0 : Nat) (v : Option Value) (h : Heap) (L : List Loc) : Prop := ∃ bS : Addr, ∃ tN : Addr, v = some (.ref bS) ∧ Fr n0 L ∧ Keep h0 h [] ∧ h0.size ≤ bS ∧ h0.size ≤ tN ∧ bS ≠ tN ∧ ek21 Z h bS ∧ fk15 Z h bS (.int 0) ∧ fk16 Z h bS (.ref tN) ∧ Arv Z h tN kA .byte (2 : Int32) [(.int y0), (.int y1)] (.int 0)
theorem rm_toStr_2_0 (l : Launch) (Z : State) (a0 : Array Value) (hw : HW a0 Z) (ws : List Jvm.Cond) (a1 : Addr) (tA : Addr) (kA : ClassId) (y0 : Int32) (y1 : Int32) (zCS : Int32) (h0 : Heap) (n0 : Nat) (Z0 : n0 ≤ h0.size) (O0 : Old Z n0 h0) (E_1 : ek20 Z h0 a1) (Fv : fk11 Z h0 a1 (.ref tA)) (Fc : fk12 Z h0 a1 (.int 0)) (Fn : fk13 Z h0 a1 (.int 2)) (Fm : fk14 Z h0 a1 (.int 0)) (R_A : Arv Z h0 tA kA .byte (2 : Int32) [(.int y0), (.int y1)] (.int 0)) (E_A : ek19 Z h0 tA) (S_CS : sk0 Z Z.heap (.int zCS)) (P_CS : ¬ zCS = 0) :
    M27 l ws (rmk 4 2 6 59) Z #[(.ref a1)] h0 (Q_toStr_2_0 Z a1 tA kA y0 y1 zCS h0 n0) := by
  refine own_go "java/lang/StringBuilder" rfl (plainFor_of_name pn_6) (fun m => ef_toStr_2_0 m a1) (fun p e s m below meth c s₁ hx hby hml hown hnm hlk hret hZ X0 e0 => ?_)
  have N0 := Fr.nil n0
  have K0 := Keep.refl h0 []
  show gs s₁ m 0 #[vr a1] []
  obtain ⟨T1, h1, X1, e1, E1, A1, D1, -, st1⟩ := newO X0 hx hZ hown (own_w hw 42 rfl) (own_w hw 43 rfl) (own_w hw 32 rfl) e0 (g := (mkF m 0 #[vr a1] [])) rfl (hb hby d6_0) (by decide) (by decide)
  obtain ⟨b1, g1⟩ : ∃ z, z = h0.size := ⟨_, rfl⟩
  have ne_a1_b1 : a1 ≠ b1 := Nat.ne_of_lt (Nat.lt_of_lt_of_eq E_1.lt g1.symm)
  have ne_tA_b1 : tA ≠ b1 := Nat.ne_of_lt (Nat.lt_of_lt_of_eq R_A.lt g1.symm)
  have ge_b1 : n0 ≤ b1 := Nat.le_trans Z0 (Nat.le_of_eq g1.symm)
  have sz_b1 : h0.size ≤ b1 := Nat.le_trans K0.1 (Nat.le_of_eq g1.symm)
  rw [← g1] at A1 D1 st1
  have K1 := K0.ext E1
  have O1 := O0.ext E1
  have F1_coder : fk15 Z h1 b1 (.int 0) := D1 (Or.inr (own_w hw 74 rfl)) (ty := .byte) (by decide)
  have F1_value : fk16 Z h1 b1 .null := D1 (Or.inr (own_w hw 89 rfl)) (ty := (.array .byte)) (by decide)
  refine own_st st1 ?_
  show gs T1 m 3 #[vr a1] [(.ref b1)]
  refine own_st (fun _ kS => XS.dup X1.here hx rfl (hb hby d6_3) rfl rfl kS) ?_
  refine oaloadN X1 hx hby d6_4 rfl rfl ?_
  refine oN 1 X1 hx hZ hby hml hown (own_w hw 44 rfl) (own_w hw 45 rfl) (own_w hw 32 rfl) (own_w hw 47 rfl) (rm_strInitB_2_0 l Z a0 hw [] b1 a1 tA kA y0 y1 zCS h1 n0 (Nat.le_trans Z0 E1.1) O1 A1 ge_b1 F1_value F1_coder (Ne.symm ne_a1_b1) (Ne.symm ne_tA_b1) (Exa.ext E1 E_1) (Fld.ext E1 Fv) (Fld.ext E1 Fc) (Fld.ext E1 Fn) (Fld.ext E1 Fm) (Arv.ext R_A E1) (Exa.ext E1 E_A) S_CS P_CS) e1 rfl (by decide) own_pd20 d6_5 rfl rfl rfl (fun T2 L2 v2 X2 hQ2 => ?_)
  obtain ⟨tN_2, rfl, Nq2, Kc2, P2_0, P2_1, P2_2, P2_3, P2_4⟩ := hQ2
  have N2 := Fr.app N0 Nq2
  have ne_a1_tN_2 : a1 ≠ tN_2 := Nat.ne_of_lt (Nat.lt_of_lt_of_le (Exa.ext E1 E_1).lt P2_0)
  have ne_tA_tN_2 : tA ≠ tN_2 := Nat.ne_of_lt (Nat.lt_of_lt_of_le (Arv.ext R_A E1).lt P2_0)
  have ne_b1_tN_2 : b1 ≠ tN_2 := Nat.ne_of_lt (Nat.lt_of_lt_of_le A1.lt P2_0)
  have ge_tN_2 : n0 ≤ tN_2 := Nat.le_trans (Nat.le_trans Z0 E1.1) P2_0
  have sz_tN_2 : h0.size ≤ tN_2 := Nat.le_trans K1.1 P2_0
  have K2 := K1.trans Kc2 (allS (Or.inr sz_b1) all0)
  have O2 := O1.keep Kc2 (allS ge_b1 all0)
  show gs T2 m 8 #[vr a1] [(.ref b1)]
  exact own_retA X2 hx hlk hret rfl rfl (hb hby d6_8) (by decide) (by decide) (show Q_toStr_2_0 Z a1 tA kA y0 y1 zCS h0 n0 _ _ _ from ⟨b1, tN_2, ⟨rfl, N2, K2, sz_b1, sz_tN_2, ne_b1_tN_2, P2_1, P2_2, P2_3, P2_4⟩⟩)
theorem ef_copy_4 (m : MethodId) (x0 : Addr) : entryFrame m #[(.ref x0), (.int 0), (.int 4)] 3 = mkF m 0 #[.val (.ref x0), .val (.int 0), .val (.int 4)] [] := by first | (simp [entryFrame, mkF, argsToLocals, Value.category]; done) | rfl
def Q_copy_4 (Z : State) (tA : Addr) (kA : ClassId) (y0 : Int32) (y1 : Int32) (y2 : Int32) (y3 : Int32) (h0 : Heap) (n0 : Nat) (v : Option Value) (h : Heap) (L : List Loc) : Prop := ∃ tN : Addr, v = some (.ref tN) ∧ Fr n0 L ∧ Keep h0 h [] ∧ h0.size ≤ tN ∧ Arv Z h tN kA .byte (4 : Int32) [(.int y0), (.int y1), (.int y2), (.int y3)] (.int 0)
theorem rm_copy_4 (l : Launch) (Z : State) (a0 : Array Value) (hw : HW a0 Z) (ws : List Jvm.Cond) (tA : Addr) (kA : ClassId) (y0 : Int32) (y1 : Int32) (y2 : Int32) (y3 : Int32) (h0 : Heap) (n0 : Nat) (Z0 : n0 ≤ h0.size) (R_A : Arv Z h0 tA kA .byte (4 : Int32) [(.int y0), (.int y1), (.int y2), (.int y3)] (.int 0)) (E_A : ek19 Z h0 tA) :
    M24 l ws (rmk 1 1 4 14) Z #[(.ref tA), (.int 0), (.int 4)] h0 (Q_copy_4 Z tA kA y0 y1 y2 y3 h0 n0) := by
  refine own_go "java/util/Arrays" rfl (plainFor_of_name pn_13) (fun m => ef_copy_4 m tA) (fun p e s m below meth c s₁ hx hby hml hown hnm hlk hret hZ X0 e0 => ?_)
  have N0 := Fr.nil n0
  have K0 := Keep.refl h0 []
  show gs s₁ m 0 #[vr tA, vi 0, vi 4] []
  refine oiloadN X0 hx hby d13_0 rfl ?_
  refine own_st (fun _ kS => XS.ifNo X0.here hx rfl (hb hby d13_1) rfl ((if0 _ _).trans (teq (by decide : (0 : Int32) = (0 : Int32))).2) kS) ?_
  show gs s₁ m 4 #[vr tA, vi 0, vi 4] []
  refine oiloadN X0 hx hby d13_4 rfl ?_
  refine oaloadN X0 hx hby d13_5 rfl rfl ?_
  show gs s₁ m 6 #[vr tA, vi 0, vi 4] [(.ref tA), (.int 4)]
  obtain ⟨cl1, Ar1, qa1, qs1, qn1, qh1, qg1⟩ := id R_A
  refine own_st (fun _ kS => X0.arraylength hx (by rw [e0]; exact Ar1.1) (State.isArrayOf_alike hZ.alike Ar1.2.1) (g := (mkF m 6 #[vr tA, vi 0, vi 4] [(.ref tA), (.int 4)])) rfl rfl (hb hby d13_6) _ kS) ?_
  rw [len_of qs1 qn1]
  show gs s₁ m 7 #[vr tA, vi 0, vi 4] [(.int 4), (.int 4)]
  refine own_st (fun _ kS => XS.icmpYes X0.here hx rfl (pc0 := 7) (pc' := 17) rfl (hb hby d13_7) rfl (teq (by decide : (4 : Int32) = (4 : Int32))).1 (by decide) (by decide) kS) ?_
  show gs s₁ m 17 #[vr tA, vi 0, vi 4] []
  refine oaloadN X0 hx hby d13_17 rfl rfl ?_
  show gs s₁ m 18 #[vr tA, vi 0, vi 4] [(.ref tA)]
  obtain ⟨T2, h2, X2, e2, E2, A2, B2, st2⟩ := cloneH X0 hx hZ hown (own_w hw 79 rfl) (own_w hw 80 rfl) (own_w hw 84 rfl) (own_w hw 82 rfl) (own_w hw 83 rfl) (own_w hw 85 rfl) e0 (Arv.arh R_A) E_A (g := (mkF m 18 #[vr tA, vi 0, vi 4] [(.ref tA)])) rfl (by rw [hml]; rfl) rfl (hb hby d13_18) (by decide) (W := 0) (cap := 4) (by show 2 * 0 + _ ≤ _; exact Nat.le_of_eq rfl) (by decide) (by decide) (by decide) (by decide)
  obtain ⟨b2, g2⟩ : ∃ z, z = h0.size := ⟨_, rfl⟩
  have ne_tA_b2 : tA ≠ b2 := Nat.ne_of_lt (Nat.lt_of_lt_of_eq R_A.lt g2.symm)
  have ge_b2 : n0 ≤ b2 := Nat.le_trans Z0 (Nat.le_of_eq g2.symm)
  have sz_b2 : h0.size ≤ b2 := Nat.le_trans K0.1 (Nat.le_of_eq g2.symm)
  rw [← g2] at A2 B2 st2
  have K2 := K0.ext E2
  have R2 : Arv Z h2 b2 kA .byte (4 : Int32) [(.int y0), (.int y1), (.int y2), (.int y3)] (.int 0) := A2
  refine own_st st2 ?_
  show gs T2 m 21 #[vr tA, vi 0, vi 4] [(.ref b2)]
  obtain ⟨T3, X3, e3, st3⟩ := castY X2 hx hZ hown (own_w hw 86 rfl) e2 (Ins.self B2) (g := (mkF m 21 #[vr tA, vi 0, vi 4] [(.ref b2)])) rfl rfl (hb hby d13_21)
  refine own_st st3 ?_
  show gs T3 m 24 #[vr tA, vi 0, vi 4] [(.ref b2)]
  exact own_retA X3 hx hlk hret rfl rfl (hb hby d13_24) (by decide) (by decide) (by rw [e3]; exact ⟨b2, ⟨rfl, N0, K2, sz_b2, R2⟩⟩)
theorem ef_strInitA_2_1 (m : MethodId) (x0 : Addr) (x1 : Addr) : entryFrame m #[(.ref x0), (.ref x1), .null] 5 = mkF m 0 #[.val (.ref x0), .val (.ref x1), .val .null, .unset, .unset] [] := by first | (simp [entryFrame, mkF, argsToLocals, Value.category]; done) | rfl
def Q_strInitA_2_1 (Z : State) (aS : Addr) (a1 : Addr) (tA : Addr) (kA : ClassId) (y0 : Int32) (y1 : Int32) (y2 : Int32) (y3 : Int32) (zCS : Int32) (h0 : Heap) (n0 : Nat) (v : Option Value) (h : Heap) (L : List Loc) : Prop := ∃ tN : Addr, v = none ∧ Fr n0 L ∧ Keep h0 h [aS] ∧ h0.size ≤ tN ∧ ek21 Z h aS ∧ fk15 Z h aS (.int 1) ∧ fk16 Z h aS (.ref tN) ∧ Arv Z h tN kA .byte (4 : Int32) [(.int y0), (.int y1), (.int y2), (.int y3)] (.int 0)
theorem rm_strInitA_2_1 (l : Launch) (Z : State) (a0 : Array Value) (hw : HW a0 Z) (ws : List Jvm.Cond) (aS : Addr) (a1 : Addr) (tA : Addr) (kA : ClassId) (y0 : Int32) (y1 : Int32) (y2 : Int32) (y3 : Int32) (zCS : Int32) (h0 : Heap) (n0 : Nat) (Z0 : n0 ≤ h0.size) (O0 : Old Z n0 h0) (E_0 : ek21 Z h0 aS) (g_0 : n0 ≤ aS) (F0v : fk16 Z h0 aS .null) (F0c : fk15 Z h0 aS (.int 0)) (ne01 : aS ≠ a1) (ne0A : aS ≠ tA) (E_1 : ek20 Z h0 a1) (Fv : fk11 Z h0 a1 (.ref tA)) (Fc : fk12 Z h0 a1 (.int 1)) (Fn : fk13 Z h0 a1 (.int 2)) (Fm : fk14 Z h0 a1 (.int 0)) (R_A : Arv Z h0 tA kA .byte (4 : Int32) [(.int y0), (.int y1), (.int y2), (.int y3)] (.int 0)) (E_A : ek19 Z h0 tA) (S_CS : sk0 Z Z.heap (.int zCS)) (P_CS : ¬ zCS = 0) :
    M25 l ws (rmk 2 1 4 29) Z #[(.ref aS), (.ref a1), .null] h0 (Q_strInitA_2_1 Z aS a1 tA kA y0 y1 y2 y3 zCS h0 n0) := by
  refine own_go "java/lang/String" rfl (plainFor_of_name pn_8) (fun m => ef_strInitA_2_1 m aS a1) (fun p e s m below meth c s₁ hx hby hml hown hnm hlk hret hZ X0 e0 => ?_)
  have N0 := Fr.nil n0
  have K0 := Keep.refl h0 [aS]
  show gs s₁ m 0 #[vr aS, vr a1, .val .null, .unset, .unset] []
  refine oaloadN X0 hx hby d8_0 rfl rfl ?_
  obtain ⟨T1, X1, e1, st1⟩ := initO X0 hx hZ hown (own_w hw 51 rfl) (own_w hw 29 rfl) (own_w hw 30 rfl) e0 (g := (mkF m 1 #[vr aS, vr a1, .val .null, .unset, .unset] [(.ref aS)])) rfl (by rw [hml]; rfl) rfl (hb hby d8_1) (by decide) (W := 0) (by show 2 * 0 + _ ≤ _; exact Nat.le_of_eq rfl) (by decide)
  refine own_st st1 ?_
  show gs T1 m 4 #[vr aS, vr a1, .val .null, .unset, .unset] []
  refine oaloadN X1 hx hby d8_4 rfl rfl ?_
  refine oV 0 X1 hx hZ hby hml hown (own_w hw 52 rfl) (own_w hw 53 rfl) (own_w hw 55 rfl) (own_w hw 54 rfl) (rm_getValue l Z a0 hw [] a1 tA h0 n0 Z0  Fv) (own_w hw 56 rfl) (own_w hw 26 rfl) e1 E_1 (by decide) own_pd17 d8_5 rfl rfl rfl (fun T2 L2 v2 X2 hQ2 => ?_)
  obtain ⟨rfl, Nq2, eq2⟩ := hQ2
  have N2 := Fr.app N0 Nq2
  show gs T2 m 8 #[vr aS, vr a1, .val .null, .unset, .unset] [(.ref tA)]
  refine own_st (fun _ kS => XS.astoreN X2.here hx rfl (hb hby d8_8) rfl rfl (l' := #[vr aS, vr a1, .val .null, vr tA, .unset]) rfl kS) ?_
  refine oaloadN X2 hx hby d8_9 rfl rfl ?_
  show gs T2 m 10 #[vr aS, vr a1, .val .null, vr tA, .unset] [(.ref a1)]
  obtain ⟨cq3, kq3, q3a, q3b, q3c⟩ := isOf hZ eq2 E_1
  obtain ⟨_, _, ⟨T3, L3, k3, n3⟩, -, X3, ⟨Lc3, hQ3, l3, y3, z3⟩, st3⟩ := X2.virtualBack hx (y := (⟨"java/lang/AbstractStringBuilder", "length", "()I"⟩ : MethodName)) (z := (⟨"java/lang/StringBuilder", "length", "()I"⟩ : MethodName)) hown (mvT hZ (own_w hw 57 rfl)) (mvT hZ (own_w hw 58 rfl)) (own_nf (args := #[]) (mvT hZ (own_w hw 55 rfl)) rfl) (mvT hZ (own_w hw 60 rfl)) (mvT hZ (own_w hw 61 rfl)) (by decide) (backOf (W := 0) (rm_sbLen_2 l Z a0 hw [] a1 h0 n0 Z0  E_1 Fn) hZ (own_w hw 62 rfl) (own_w hw 16 rfl) (by decide) (by decide)) q3a q3c (g := (mkF m 10 #[vr aS, vr a1, .val .null, vr tA, .unset] [(.ref a1)])) rfl (by rw [hml]; rfl) (Steps.refl _) (argsL := []) (rest := []) (lenOf own_pd16 rfl) rfl (by show 2 * 0 + _ ≤ _; exact Nat.le_of_eq rfl) (hb hby d8_10) (fun _ _ => ⟨rfl, eq2, (by decide : 0 + 0 ≤ _), (by decide : 0 + 0 ≤ _)⟩)
  dsimp only [Pt.U, Pt.locs, Pt.cells, Pt.slots] at X3 l3 y3 z3 st3 hQ3
  subst l3 y3 z3
  obtain ⟨rfl, Nq3, eq3⟩ := hQ3
  have N3 := Fr.app N2 Nq3
  refine own_tr st3 ?_
  show gs T3 m 13 #[vr aS, vr a1, .val .null, vr tA, .unset] [(.int 2)]
  refine own_st (fun _ kS => XS.istore X3.here hx rfl (hb hby d8_13) rfl (l' := #[vr aS, vr a1, .val .null, vr tA, vi 2]) rfl kS) ?_
  refine oaloadN X3 hx hby d8_15 rfl rfl ?_
  refine oV 0 X3 hx hZ hby hml hown (own_w hw 68 rfl) (own_w hw 69 rfl) (own_w hw 71 rfl) (own_w hw 70 rfl) (rm_asbLat1 l Z a0 hw [] a1 zCS h0 n0 Z0 O0 S_CS P_CS Fc) (own_w hw 72 rfl) (own_w hw 26 rfl) eq3 E_1 (by decide) own_pd11 d8_16 rfl rfl rfl (fun T4 L4 v4 X4 hQ4 => ?_)
  obtain ⟨rfl, Nq4, eq4⟩ := hQ4
  have N4 := Fr.app N3 Nq4
  show gs T4 m 19 #[vr aS, vr a1, .val .null, vr tA, vi 2] [(.int 0)]
  refine own_st (fun _ kS => XS.ifYes X4.here hx rfl (pc0 := 19) (pc' := 41) rfl (hb hby d8_19) rfl ((if0 _ _).trans (teq (by decide : (0 : Int32) = (0 : Int32))).1) (by decide) (by decide) kS) ?_
  show gs T4 m 41 #[vr aS, vr a1, .val .null, vr tA, vi 2] []
  obtain ⟨T5, X5, e5, st5⟩ := getS2 X4 hx hZ hown (host := "") (Or.inl (own_w hw 100 rfl)) Via.refl eq4 (Sta.ext O0.2 S_CS) (g := (mkF m 41 #[vr aS, vr a1, .val .null, vr tA, vi 2] [])) rfl (hb hby d8_41)
  refine own_st st5 ?_
  show gs T5 m 44 #[vr aS, vr a1, .val .null, vr tA, vi 2] [(.int zCS)]
  refine own_st (fun _ kS => XS.ifNo X5.here hx rfl (hb hby d8_44) rfl ((if0 _ _).trans (feq (P_CS : ¬ (zCS = (0 : Int32)))).1) kS) ?_
  show gs T5 m 47 #[vr aS, vr a1, .val .null, vr tA, vi 2] []
  refine oaloadN X5 hx hby d8_47 rfl rfl ?_
  obtain ⟨T6, X6, e6, st6⟩ := getF X5 hx hZ hown (host := "") (Or.inl (own_w hw 203 rfl)) Via.refl e5 Fm (g := (mkF m 48 #[vr aS, vr a1, .val .null, vr tA, vi 2] [(.ref a1)])) rfl rfl (hb hby d8_48)
  refine own_st st6 ?_
  show gs T6 m 51 #[vr aS, vr a1, .val .null, vr tA, vi 2] [(.int 0)]
  refine own_st (fun _ kS => XS.ifYes X6.here hx rfl (pc0 := 51) (pc' := 79) rfl (hb hby d8_51) rfl ((if0 _ _).trans (teq (by decide : (0 : Int32) = (0 : Int32))).1) (by decide) (by decide) kS) ?_
  show gs T6 m 79 #[vr aS, vr a1, .val .null, vr tA, vi 2] []
  refine oaloadN X6 hx hby d8_79 rfl rfl ?_
  refine oiconst X6 hx hby d8_80 ?_
  show gs T6 m 81 #[vr aS, vr a1, .val .null, vr tA, vi 2] [(.int 1), (.ref aS)]
  obtain ⟨T7, h7, X7, e7, W7, st7⟩ := putFN X6 hx hZ hown (own_w hw 73 rfl) Via.refl e6 F0c E_0 (Or.inr ⟨(own_w hw 74 rfl), rfl, hnm⟩) (own_w hw 43 rfl) (ty := .byte) (v' := (.int 1)) (by decide) rfl (by decide) (g := (mkF m 81 #[vr aS, vr a1, .val .null, vr tA, vi 2] [(.int 1), (.ref aS)])) rfl rfl (hb hby d8_81)
  refine own_st st7 ?_
  have N7 := Fr.snoc X7 N4 g_0
  have K7 := K0.wr W7 (Or.inl (List.mem_of_getElem? (i := 0) rfl))
  have O7 := O0.wr W7 g_0
  have Fw7 := Fld.same W7 F0c
  show gs T7 m 84 #[vr aS, vr a1, .val .null, vr tA, vi 2] []
  refine oaloadN X7 hx hby d8_84 rfl rfl ?_
  refine oaloadN X7 hx hby d8_85 rfl rfl ?_
  refine oiconst X7 hx hby d8_86 ?_
  refine oiload X7 hx hby d8_87 rfl ?_
  refine oiconst X7 hx hby d8_89 ?_
  refine own_st (fun _ kS => XT.ishl X7.here hx rfl (hb hby d8_90) rfl kS) ?_
  show gs T7 m 91 #[vr aS, vr a1, .val .null, vr tA, vi 2] [(.int 4), (.int 0), (.ref tA), (.ref aS)]
  refine oS 1 X7 hx hZ hby hml hown (own_w hw 75 rfl) (own_w hw 76 rfl) (own_w hw 77 rfl) (own_w hw 78 rfl) (rm_copy_4 l Z a0 hw [] tA kA y0 y1 y2 y3 h7 n0 (Nat.le_trans Z0 (Keep.of_wr W7).1)  (R_A.other W7 (Ne.symm ne0A)) (Exa.wr W7 E_A)) e7 (by decide) own_pd18 d8_91 rfl rfl rfl (fun T8 L8 v8 X8 hQ8 => ?_)
  obtain ⟨tN_8, rfl, Nq8, Kc8, P8_0, P8_1⟩ := hQ8
  have N8 := Fr.app N7 Nq8
  have ne_aS_tN_8 : aS ≠ tN_8 := Nat.ne_of_lt (Nat.lt_of_lt_of_le (Exa.wr W7 E_0).lt P8_0)
  have ne_a1_tN_8 : a1 ≠ tN_8 := Nat.ne_of_lt (Nat.lt_of_lt_of_le (Exa.wr W7 E_1).lt P8_0)
  have ne_tA_tN_8 : tA ≠ tN_8 := Nat.ne_of_lt (Nat.lt_of_lt_of_le (R_A.other W7 (Ne.symm ne0A)).lt P8_0)
  have ge_tN_8 : n0 ≤ tN_8 := Nat.le_trans (Nat.le_trans Z0 (Keep.of_wr W7).1) P8_0
  have sz_tN_8 : h0.size ≤ tN_8 := Nat.le_trans K7.1 P8_0
  have K8 := K7.trans Kc8 all0
  have O8 := O7.keep Kc8 all0
  show gs T8 m 94 #[vr aS, vr a1, .val .null, vr tA, vi 2] [(.ref tN_8), (.ref aS)]
  obtain ⟨T9, h9, X9, e9, W9, st9⟩ := putF X8 hx hZ hown (host := "") (Or.inl (own_w hw 88 rfl)) Via.refl rfl ((Fld.other W7 F0v (Or.inr (slot_ne (Or.inr (own_w hw 89 rfl)) (Or.inr (own_w hw 74 rfl)) (by decide) (t := (.array .byte)) (t' := .byte) (by decide) (by decide)))).keep Kc8 nin0) ((Exa.wr W7 E_0).keep Kc8) (Or.inr ⟨(own_w hw 89 rfl), rfl, hnm⟩) (own_w hw 43 rfl) (ty := (.array .byte)) (by decide) rfl rfl (g := (mkF m 94 #[vr aS, vr a1, .val .null, vr tA, vi 2] [(.ref tN_8), (.ref aS)])) rfl rfl (hb hby d8_94)
  refine own_st st9 ?_
  have N9 := Fr.snoc X9 N8 g_0
  have K9 := K8.wr W9 (Or.inl (List.mem_of_getElem? (i := 0) rfl))
  have O9 := O8.wr W9 g_0
  have Fw9 := Fld.same W9 ((Fld.other W7 F0v (Or.inr (slot_ne (Or.inr (own_w hw 89 rfl)) (Or.inr (own_w hw 74 rfl)) (by decide) (t := (.array .byte)) (t' := .byte) (by decide) (by decide)))).keep Kc8 nin0)
  show gs T9 m 97 #[vr aS, vr a1, .val .null, vr tA, vi 2] []
  exact own_retV X9 hx hlk hret (hb hby d8_97) (by decide) (by decide) (by rw [e9]; exact ⟨tN_8, ⟨rfl, N9, K9, sz_tN_8, (Exa.wr W9 ((Exa.wr W7 E_0).keep Kc8)), (Fld.other W9 (Fw7.keep Kc8 nin0) (Or.inr (slot_ne (Or.inr (own_w hw 74 rfl)) (Or.inr (own_w hw 89 rfl)) (by decide) (t := .byte) (t' := (.array .byte)) (by decide) (by decide)))), Fw9, (P8_1.other W9 (Ne.symm ne_aS_tN_8))⟩⟩)
theorem ef_strInitB_2_1 (m : MethodId) (x0 : Addr) (x1 : Addr) : entryFrame m #[(.ref x0), (.ref x1)] 2 = mkF m 0 #[.val (.ref x0), .val (.ref x1)] [] := by first | (simp [entryFrame, mkF, argsToLocals, Value.category]; done) | rfl
def Q_strInitB_2_1 (Z : State) (aS : Addr) (a1 : Addr) (tA : Addr) (kA : ClassId) (y0 : Int32) (y1 : Int32) (y2 : Int32) (y3 : Int32) (zCS : Int32) (h0 : Heap) (n0 : Nat) (v : Option Value) (h : Heap) (L : List Loc) : Prop := ∃ tN : Addr, v = none ∧ Fr n0 L ∧ Keep h0 h [aS] ∧ h0.size ≤ tN ∧ ek21 Z h aS ∧ fk15 Z h aS (.int 1) ∧ fk16 Z h aS (.ref tN) ∧ Arv Z h tN kA .byte (4 : Int32) [(.int y0), (.int y1), (.int y2), (.int y3)] (.int 0)
theorem rm_strInitB_2_1 (l : Launch) (Z : State) (a0 : Array Value) (hw : HW a0 Z) (ws : List Jvm.Cond) (aS : Addr) (a1 : Addr) (tA : Addr) (kA : ClassId) (y0 : Int32) (y1 : Int32) (y2 : Int32) (y3 : Int32) (zCS : Int32) (h0 : Heap) (n0 : Nat) (Z0 : n0 ≤ h0.size) (O0 : Old Z n0 h0) (E_0 : ek21 Z h0 aS) (g_0 : n0 ≤ aS) (F0v : fk16 Z h0 aS .null) (F0c : fk15 Z h0 aS (.int 0)) (ne01 : aS ≠ a1) (ne0A : aS ≠ tA) (E_1 : ek20 Z h0 a1) (Fv : fk11 Z h0 a1 (.ref tA)) (Fc : fk12 Z h0 a1 (.int 1)) (Fn : fk13 Z h0 a1 (.int 2)) (Fm : fk14 Z h0 a1 (.int 0)) (R_A : Arv Z h0 tA kA .byte (4 : Int32) [(.int y0), (.int y1), (.int y2), (.int y3)] (.int 0)) (E_A : ek19 Z h0 tA) (S_CS : sk0 Z Z.heap (.int zCS)) (P_CS : ¬ zCS = 0) :
    M26 l ws (rmk 3 1 4 45) Z #[(.ref aS), (.ref a1)] h0 (Q_strInitB_2_1 Z aS a1 tA kA y0 y1 y2 y3 zCS h0 n0) := by
  refine own_go "java/lang/String" rfl (plainFor_of_name pn_7) (fun m => ef_strInitB_2_1 m aS a1) (fun p e s m below meth c s₁ hx hby hml hown hnm hlk hret hZ X0 e0 => ?_)
  have N0 := Fr.nil n0
  have K0 := Keep.refl h0 [aS]
  show gs s₁ m 0 #[vr aS, vr a1] []
  refine oaloadN X0 hx hby d7_0 rfl rfl ?_
  refine oaloadN X0 hx hby d7_1 rfl rfl ?_
  refine own_st (fun _ kS => XS.aconstNull X0.here hx rfl (hb hby d7_2) kS) ?_
  show gs s₁ m 3 #[vr aS, vr a1] [.null, (.ref a1), (.ref aS)]
  refine oN 0 X0 hx hZ hby hml hown (own_w hw 48 rfl) (own_w hw 49 rfl) (own_w hw 32 rfl) (own_w hw 50 rfl) (rm_strInitA_2_1 l Z a0 hw [] aS a1 tA kA y0 y1 y2 y3 zCS h0 n0 Z0 O0 E_0 g_0 F0v F0c ne01 ne0A E_1 Fv Fc Fn Fm R_A E_A S_CS P_CS) e0 rfl (by decide) own_pd19 d7_3 rfl rfl rfl (fun T1 L1 v1 X1 hQ1 => ?_)
  obtain ⟨tN_1, rfl, Nq1, Kc1, P1_0, P1_1, P1_2, P1_3, P1_4⟩ := hQ1
  have N1 := Fr.app N0 Nq1
  have ne_aS_tN_1 : aS ≠ tN_1 := Nat.ne_of_lt (Nat.lt_of_lt_of_le E_0.lt P1_0)
  have ne_a1_tN_1 : a1 ≠ tN_1 := Nat.ne_of_lt (Nat.lt_of_lt_of_le E_1.lt P1_0)
  have ne_tA_tN_1 : tA ≠ tN_1 := Nat.ne_of_lt (Nat.lt_of_lt_of_le R_A.lt P1_0)
  have ge_tN_1 : n0 ≤ tN_1 := Nat.le_trans Z0 P1_0
  have sz_tN_1 : h0.size ≤ tN_1 := Nat.le_trans K0.1 P1_0
  have K1 := K0.trans Kc1 (allS (Or.inl (List.mem_of_getElem? (i := 0) rfl)) all0)
  have O1 := O0.keep Kc1 (allS g_0 all0)
  show gs T1 m 6 #[vr aS, vr a1] []
  exact own_retV X1 hx hlk hret (hb hby d7_6) (by decide) (by decide) (show Q_strInitB_2_1 Z aS a1 tA kA y0 y1 y2 y3 zCS h0 n0 _ _ _ from ⟨tN_1, ⟨rfl, N1, K1, sz_tN_1, P1_1, P1_2, P1_3, P1_4⟩⟩)
theorem ef_toStr_2_1 (m : MethodId) (x0 : Addr) : entryFrame m #[(.ref x0)] 1 = mkF m 0 #[.val (.ref x0)] [] := by first | (simp [entryFrame, mkF, argsToLocals, Value.category]; done) | rfl
def Q_toStr_2_1 (Z : State) (a1 : Addr) (tA : Addr) (kA : ClassId) (y0 : Int32) (y1 : Int32) (y2 : Int32) (y3 : Int32) (zCS : Int32) (h0 : Heap) (n0 : Nat) (v : Option Value) (h : Heap) (L : List Loc) : Prop := ∃ bS : Addr, ∃ tN : Addr, v = some (.ref bS) ∧ Fr n0 L ∧ Keep h0 h [] ∧ h0.size ≤ bS ∧ h0.size ≤ tN ∧ bS ≠ tN ∧ ek21 Z h bS ∧ fk15 Z h bS (.int 1) ∧ fk16 Z h bS (.ref tN) ∧ Arv Z h tN kA .byte (4 : Int32) [(.int y0), (.int y1), (.int y2), (.int y3)] (.int 0)
theorem rm_toStr_2_1 (l : Launch) (Z : State) (a0 : Array Value) (hw : HW a0 Z) (ws : List Jvm.Cond) (a1 : Addr) (tA : Addr) (kA : ClassId) (y0 : Int32) (y1 : Int32) (y2 : Int32) (y3 : Int32) (zCS : Int32) (h0 : Heap) (n0 : Nat) (Z0 : n0 ≤ h0.size) (O0 : Old Z n0 h0) (E_1 : ek20 Z h0 a1) (Fv : fk11 Z h0 a1 (.ref tA)) (Fc : fk12 Z h0 a1 (.int 1)) (Fn : fk13 Z h0 a1 (.int 2)) (Fm : fk14 Z h0 a1 (.int 0)) (R_A : Arv Z h0 tA kA .byte (4 : Int32) [(.int y0), (.int y1), (.int y2), (.int y3)] (.int 0)) (E_A : ek19 Z h0 tA) (S_CS : sk0 Z Z.heap (.int zCS)) (P_CS : ¬ zCS = 0) :
    M27 l ws (rmk 4 2 8 59) Z #[(.ref a1)] h0 (Q_toStr_2_1 Z a1 tA kA y0 y1 y2 y3 zCS h0 n0) := by
  refine own_go "java/lang/StringBuilder" rfl (plainFor_of_name pn_6) (fun m => ef_toStr_2_1 m a1) (fun p e s m below meth c s₁ hx hby hml hown hnm hlk hret hZ X0 e0 => ?_)
  have N0 := Fr.nil n0
  have K0 := Keep.refl h0 []
  show gs s₁ m 0 #[vr a1] []
  obtain ⟨T1, h1, X1, e1, E1, A1, D1, -, st1⟩ := newO X0 hx hZ hown (own_w hw 42 rfl) (own_w hw 43 rfl) (own_w hw 32 rfl) e0 (g := (mkF m 0 #[vr a1] [])) rfl (hb hby d6_0) (by decide) (by decide)
  obtain ⟨b1, g1⟩ : ∃ z, z = h0.size := ⟨_, rfl⟩
  have ne_a1_b1 : a1 ≠ b1 := Nat.ne_of_lt (Nat.lt_of_lt_of_eq E_1.lt g1.symm)
  have ne_tA_b1 : tA ≠ b1 := Nat.ne_of_lt (Nat.lt_of_lt_of_eq R_A.lt g1.symm)
  have ge_b1 : n0 ≤ b1 := Nat.le_trans Z0 (Nat.le_of_eq g1.symm)
  have sz_b1 : h0.size ≤ b1 := Nat.le_trans K0.1 (Nat.le_of_eq g1.symm)
  rw [← g1] at A1 D1 st1
  have K1 := K0.ext E1
  have O1 := O0.ext E1
  have F1_coder : fk15 Z h1 b1 (.int 0) := D1 (Or.inr (own_w hw 74 rfl)) (ty := .byte) (by decide)
  have F1_value : fk16 Z h1 b1 .null := D1 (Or.inr (own_w hw 89 rfl)) (ty := (.array .byte)) (by decide)
  refine own_st st1 ?_
  show gs T1 m 3 #[vr a1] [(.ref b1)]
  refine own_st (fun _ kS => XS.dup X1.here hx rfl (hb hby d6_3) rfl rfl kS) ?_
  refine oaloadN X1 hx hby d6_4 rfl rfl ?_
  refine oN 1 X1 hx hZ hby hml hown (own_w hw 44 rfl) (own_w hw 45 rfl) (own_w hw 32 rfl) (own_w hw 47 rfl) (rm_strInitB_2_1 l Z a0 hw [] b1 a1 tA kA y0 y1 y2 y3 zCS h1 n0 (Nat.le_trans Z0 E1.1) O1 A1 ge_b1 F1_value F1_coder (Ne.symm ne_a1_b1) (Ne.symm ne_tA_b1) (Exa.ext E1 E_1) (Fld.ext E1 Fv) (Fld.ext E1 Fc) (Fld.ext E1 Fn) (Fld.ext E1 Fm) (Arv.ext R_A E1) (Exa.ext E1 E_A) S_CS P_CS) e1 rfl (by decide) own_pd20 d6_5 rfl rfl rfl (fun T2 L2 v2 X2 hQ2 => ?_)
  obtain ⟨tN_2, rfl, Nq2, Kc2, P2_0, P2_1, P2_2, P2_3, P2_4⟩ := hQ2
  have N2 := Fr.app N0 Nq2
  have ne_a1_tN_2 : a1 ≠ tN_2 := Nat.ne_of_lt (Nat.lt_of_lt_of_le (Exa.ext E1 E_1).lt P2_0)
  have ne_tA_tN_2 : tA ≠ tN_2 := Nat.ne_of_lt (Nat.lt_of_lt_of_le (Arv.ext R_A E1).lt P2_0)
  have ne_b1_tN_2 : b1 ≠ tN_2 := Nat.ne_of_lt (Nat.lt_of_lt_of_le A1.lt P2_0)
  have ge_tN_2 : n0 ≤ tN_2 := Nat.le_trans (Nat.le_trans Z0 E1.1) P2_0
  have sz_tN_2 : h0.size ≤ tN_2 := Nat.le_trans K1.1 P2_0
  have K2 := K1.trans Kc2 (allS (Or.inr sz_b1) all0)
  have O2 := O1.keep Kc2 (allS ge_b1 all0)
  show gs T2 m 8 #[vr a1] [(.ref b1)]
  exact own_retA X2 hx hlk hret rfl rfl (hb hby d6_8) (by decide) (by decide) (show Q_toStr_2_1 Z a1 tA kA y0 y1 y2 y3 zCS h0 n0 _ _ _ from ⟨b1, tN_2, ⟨rfl, N2, K2, sz_b1, sz_tN_2, ne_b1_tN_2, P2_1, P2_2, P2_3, P2_4⟩⟩)
theorem d16_0 : dk B28 0 (.aload_n 0) 1 := by decide +kernel
theorem d16_1 : dk B28 1 (.getfield 41) 3 := by decide +kernel
theorem d16_4 : dk B28 4 (.iconst 1) 1 := by decide +kernel
theorem d16_5 : dk B28 5 (.if_icmp .ne 14) 3 := by decide +kernel
theorem d16_8 : dk B28 8 (.aload_n 1) 1 := by decide +kernel
theorem d16_9 : dk B28 9 (.iload_n 2) 1 := by decide +kernel
theorem d16_10 : dk B28 10 (.baload) 1 := by decide +kernel
theorem d16_11 : dk B28 11 (.sipush 255) 3 := by decide +kernel
theorem d16_14 : dk B28 14 (.iand) 1 := by decide +kernel
theorem d16_15 : dk B28 15 (.istore_n 3) 1 := by decide +kernel
theorem d16_16 : dk B28 16 (.goto 60) 3 := by decide +kernel
theorem d16_19 : dk B28 19 (.iconst 0) 1 := by decide +kernel
theorem d16_20 : dk B28 20 (.istore_n 3) 1 := by decide +kernel
theorem d16_21 : dk B28 21 (.iconst 0) 1 := by decide +kernel
theorem d16_22 : dk B28 22 (.istore 4) 2 := by decide +kernel
theorem d16_24 : dk B28 24 (.iload 4) 2 := by decide +kernel
theorem d16_26 : dk B28 26 (.aload_n 0) 1 := by decide +kernel
theorem d16_27 : dk B28 27 (.getfield 41) 3 := by decide +kernel
theorem d16_30 : dk B28 30 (.if_icmp .ge 46) 3 := by decide +kernel
theorem d16_33 : dk B28 33 (.iload_n 3) 1 := by decide +kernel
theorem d16_34 : dk B28 34 (.bipush 8) 2 := by decide +kernel
theorem d16_36 : dk B28 36 (.ishl) 1 := by decide +kernel
theorem d16_37 : dk B28 37 (.aload_n 1) 1 := by decide +kernel
theorem d16_38 : dk B28 38 (.aload_n 0) 1 := by decide +kernel
theorem d16_39 : dk B28 39 (.getfield 45) 3 := by decide +kernel
theorem d16_42 : dk B28 42 (.ifCond .eq 17) 3 := by decide +kernel
theorem d16_45 : dk B28 45 (.iload_n 2) 1 := by decide +kernel
theorem d16_46 : dk B28 46 (.aload_n 0) 1 := by decide +kernel
theorem d16_47 : dk B28 47 (.getfield 41) 3 := by decide +kernel
theorem d16_50 : dk B28 50 (.iadd) 1 := by decide +kernel
theorem d16_51 : dk B28 51 (.iconst 1) 1 := by decide +kernel
theorem d16_52 : dk B28 52 (.isub) 1 := by decide +kernel
theorem d16_53 : dk B28 53 (.iload 4) 2 := by decide +kernel
theorem d16_55 : dk B28 55 (.isub) 1 := by decide +kernel
theorem d16_56 : dk B28 56 (.goto 7) 3 := by decide +kernel
theorem d16_59 : dk B28 59 (.iload_n 2) 1 := by decide +kernel
theorem d16_60 : dk B28 60 (.iload 4) 2 := by decide +kernel
theorem d16_62 : dk B28 62 (.iadd) 1 := by decide +kernel
theorem d16_63 : dk B28 63 (.baload) 1 := by decide +kernel
theorem d16_64 : dk B28 64 (.sipush 255) 3 := by decide +kernel
theorem d16_67 : dk B28 67 (.iand) 1 := by decide +kernel
theorem d16_68 : dk B28 68 (.ior) 1 := by decide +kernel
theorem d16_69 : dk B28 69 (.istore_n 3) 1 := by decide +kernel
theorem d16_70 : dk B28 70 (.iinc 4 1) 3 := by decide +kernel
theorem d16_73 : dk B28 73 (.goto (-49)) 3 := by decide +kernel
theorem d16_76 : dk B28 76 (.iload_n 3) 1 := by decide +kernel
theorem d16_77 : dk B28 77 (.ireturn) 1 := by decide +kernel
theorem pn_16 : plainName "com/example/provenir/provenir/TextEncoding" = true := by first | (simp [plainName, overriddenIn]; done) | decide +kernel
theorem ef_unitAt_1_0 (m : MethodId) (x0 : Addr) (x1 : Addr) (x2 : Int32) : entryFrame m #[(.ref x0), (.ref x1), (.int x2)] 5 = mkF m 0 #[.val (.ref x0), .val (.ref x1), .val (.int x2), .unset, .unset] [] := by first | (simp [entryFrame, mkF, argsToLocals, Value.category]; done) | rfl
def Q_unitAt_1_0 (Z : State) (a1 : Addr) (a2 : Addr) (cB : Cell) (at1 : Int32) (h0 : Heap) (n0 : Nat) (v : Option Value) (h : Heap) (L : List Loc) : Prop := v = some (.int (own_un1_0 cB at1)) ∧ Fr n0 L ∧ h = h0
theorem rm_unitAt_1_0 (l : Launch) (Z : State) (a0 : Array Value) (hw : HW a0 Z) (ws : List Jvm.Cond) (a1 : Addr) (a2 : Addr) (cB : Cell) (at1 : Int32) (h0 : Heap) (n0 : Nat) (Z0 : n0 ≤ h0.size) (O0 : Old Z n0 h0) (Fw : fk17 Z Z.heap a1 (.int 1)) (Tb : Tab Z h0 a2 cB .byte (8 : Int32)) (hbn : 0 ≤ at1.toInt ∧ at1.toInt < 8) :
    M28 l ws (rmk 0 0 0 0) Z #[(.ref a1), (.ref a2), (.int at1)] h0 (Q_unitAt_1_0 Z a1 a2 cB at1 h0 n0) := by
  refine own_go "com/example/provenir/provenir/TextEncoding" rfl (plainFor_of_name pn_16) (fun m => ef_unitAt_1_0 m a1 a2 at1) (fun p e s m below meth c s₁ hx hby hml hown hnm hlk hret hZ X0 e0 => ?_)
  have N0 := Fr.nil n0
  show gs s₁ m 0 #[vr a1, vr a2, vi at1, .unset, .unset] []
  refine oaloadN X0 hx hby d16_0 rfl rfl ?_
  obtain ⟨T1, X1, e1, st1⟩ := getF X0 hx hZ hown (host := "") (Or.inl (own_w hw 17 rfl)) Via.refl e0 (Fld.ext O0.2 Fw) (g := (mkF m 1 #[vr a1, vr a2, vi at1, .unset, .unset] [(.ref a1)])) rfl rfl (hb hby d16_1)
  refine own_st st1 ?_
  show gs T1 m 4 #[vr a1, vr a2, vi at1, .unset, .unset] [(.int 1)]
  refine oiconst X1 hx hby d16_4 ?_
  refine own_st (fun _ kS => XS.icmpNo X1.here hx rfl (hb hby d16_5) rfl (teq (by decide : (1 : Int32) = (1 : Int32))).2 kS) ?_
  show gs T1 m 8 #[vr a1, vr a2, vi at1, .unset, .unset] []
  refine oaloadN X1 hx hby d16_8 rfl rfl ?_
  refine oiloadN X1 hx hby d16_9 rfl ?_
  show gs T1 m 10 #[vr a1, vr a2, vi at1, .unset, .unset] [(.int at1), (.ref a2)]
  have ib2 : ¬ (at1 < 0 ∨ cB.slots.size ≤ (at1).toNatClampNeg) := inb_of Tb.2.1 (own_inb0 hbn (by decide))
  refine own_st (fun _ kS => X1.baloadBytes hx (j := at1) (v := (.int (atv cB at1))) (by rw [e1]; exact Tb.1.1) (State.isArrayOf_alike hZ.alike Tb.1.2.1) Tb.1.2.2 ib2 (Tb.2.2.2 _ ib2) (g := (mkF m 10 #[vr a1, vr a2, vi at1, .unset, .unset] [(.int at1), (.ref a2)])) rfl rfl (hb hby d16_10) _ kS) ?_
  show gs T1 m 11 #[vr a1, vr a2, vi at1, .unset, .unset] [(.int (atv cB at1))]
  refine own_st (fun _ kS => XS.sipush X1.here hx rfl (hb hby d16_11) kS) ?_
  refine own_st (fun _ kS => XS.iand X1.here hx rfl (hb hby d16_14) rfl kS) ?_
  refine own_st (fun _ kS => XS.istoreN X1.here hx rfl (hb hby d16_15) rfl (l' := #[vr a1, vr a2, vi at1, vi ((atv cB at1) &&& (255 : Int32)), .unset]) rfl kS) ?_
  refine own_st (fun _ kS => XS.goto X1.here hx rfl (pc0 := 16) (pc' := 76) rfl (hb hby d16_16) (by decide) (by decide) kS) ?_
  refine oiloadN X1 hx hby d16_76 rfl ?_
  exact own_retI X1 hx hlk hret (hb hby d16_77) (by decide) (by decide) (by rw [e1]; exact ⟨rfl, N0, rfl⟩)
theorem d26_0 : dk B29 0 (.iload_n 2) 1 := by decide +kernel
theorem d26_1 : dk B29 1 (.iconst 1) 1 := by decide +kernel
theorem d26_2 : dk B29 2 (.if_icmp .ne 12) 3 := by decide +kernel
theorem d26_5 : dk B29 5 (.aload_n 0) 1 := by decide +kernel
theorem d26_6 : dk B29 6 (.iload_n 1) 1 := by decide +kernel
theorem d26_7 : dk B29 7 (.baload) 1 := by decide +kernel
theorem d26_8 : dk B29 8 (.sipush 255) 3 := by decide +kernel
theorem d26_11 : dk B29 11 (.iand) 1 := by decide +kernel
theorem d26_12 : dk B29 12 (.i2c) 1 := by decide +kernel
theorem d26_13 : dk B29 13 (.ireturn) 1 := by decide +kernel
theorem d26_14 : dk B29 14 (.iload_n 2) 1 := by decide +kernel
theorem d26_15 : dk B29 15 (.iconst 2) 1 := by decide +kernel
theorem d26_16 : dk B29 16 (.if_icmp .ne 63) 3 := by decide +kernel
theorem d26_19 : dk B29 19 (.iload_n 3) 1 := by decide +kernel
theorem d26_20 : dk B29 20 (.ifCond .eq 15) 3 := by decide +kernel
theorem d26_23 : dk B29 23 (.aload_n 0) 1 := by decide +kernel
theorem d26_24 : dk B29 24 (.iload_n 1) 1 := by decide +kernel
theorem d26_25 : dk B29 25 (.iconst 1) 1 := by decide +kernel
theorem d26_26 : dk B29 26 (.iadd) 1 := by decide +kernel
theorem d26_27 : dk B29 27 (.baload) 1 := by decide +kernel
theorem d26_28 : dk B29 28 (.sipush 255) 3 := by decide +kernel
theorem d26_31 : dk B29 31 (.iand) 1 := by decide +kernel
theorem d26_32 : dk B29 32 (.goto 10) 3 := by decide +kernel
theorem d26_35 : dk B29 35 (.aload_n 0) 1 := by decide +kernel
theorem d26_36 : dk B29 36 (.iload_n 1) 1 := by decide +kernel
theorem d26_37 : dk B29 37 (.baload) 1 := by decide +kernel
theorem d26_38 : dk B29 38 (.sipush 255) 3 := by decide +kernel
theorem d26_41 : dk B29 41 (.iand) 1 := by decide +kernel
theorem d26_42 : dk B29 42 (.istore 4) 2 := by decide +kernel
theorem d26_44 : dk B29 44 (.iload_n 3) 1 := by decide +kernel
theorem d26_45 : dk B29 45 (.ifCond .eq 13) 3 := by decide +kernel
theorem d26_48 : dk B29 48 (.aload_n 0) 1 := by decide +kernel
theorem d26_49 : dk B29 49 (.iload_n 1) 1 := by decide +kernel
theorem d26_50 : dk B29 50 (.baload) 1 := by decide +kernel
theorem d26_51 : dk B29 51 (.sipush 255) 3 := by decide +kernel
theorem d26_54 : dk B29 54 (.iand) 1 := by decide +kernel
theorem d26_55 : dk B29 55 (.goto 12) 3 := by decide +kernel
theorem d26_58 : dk B29 58 (.aload_n 0) 1 := by decide +kernel
theorem d26_59 : dk B29 59 (.iload_n 1) 1 := by decide +kernel
theorem d26_60 : dk B29 60 (.iconst 1) 1 := by decide +kernel
theorem d26_61 : dk B29 61 (.iadd) 1 := by decide +kernel
theorem d26_62 : dk B29 62 (.baload) 1 := by decide +kernel
theorem d26_63 : dk B29 63 (.sipush 255) 3 := by decide +kernel
theorem d26_66 : dk B29 66 (.iand) 1 := by decide +kernel
theorem d26_67 : dk B29 67 (.istore 5) 2 := by decide +kernel
theorem d26_69 : dk B29 69 (.iload 4) 2 := by decide +kernel
theorem d26_71 : dk B29 71 (.bipush 8) 2 := by decide +kernel
theorem d26_73 : dk B29 73 (.ishl) 1 := by decide +kernel
theorem d26_74 : dk B29 74 (.iload 5) 2 := by decide +kernel
theorem d26_76 : dk B29 76 (.ior) 1 := by decide +kernel
theorem d26_77 : dk B29 77 (.i2c) 1 := by decide +kernel
theorem d26_78 : dk B29 78 (.ireturn) 1 := by decide +kernel
theorem d26_79 : dk B29 79 (.iload_n 3) 1 := by decide +kernel
theorem d26_80 : dk B29 80 (.ifCond .eq 15) 3 := by decide +kernel
theorem d26_83 : dk B29 83 (.aload_n 0) 1 := by decide +kernel
theorem d26_84 : dk B29 84 (.iload_n 1) 1 := by decide +kernel
theorem d26_85 : dk B29 85 (.iconst 3) 1 := by decide +kernel
theorem d26_86 : dk B29 86 (.iadd) 1 := by decide +kernel
theorem d26_87 : dk B29 87 (.baload) 1 := by decide +kernel
theorem d26_88 : dk B29 88 (.sipush 255) 3 := by decide +kernel
theorem d26_91 : dk B29 91 (.iand) 1 := by decide +kernel
theorem d26_92 : dk B29 92 (.goto 10) 3 := by decide +kernel
theorem d26_95 : dk B29 95 (.aload_n 0) 1 := by decide +kernel
theorem d26_96 : dk B29 96 (.iload_n 1) 1 := by decide +kernel
theorem d26_97 : dk B29 97 (.baload) 1 := by decide +kernel
theorem d26_98 : dk B29 98 (.sipush 255) 3 := by decide +kernel
theorem d26_101 : dk B29 101 (.iand) 1 := by decide +kernel
theorem d26_102 : dk B29 102 (.istore 4) 2 := by decide +kernel
theorem d26_104 : dk B29 104 (.iload_n 3) 1 := by decide +kernel
theorem d26_105 : dk B29 105 (.ifCond .eq 15) 3 := by decide +kernel
theorem d26_108 : dk B29 108 (.aload_n 0) 1 := by decide +kernel
theorem d26_109 : dk B29 109 (.iload_n 1) 1 := by decide +kernel
theorem d26_110 : dk B29 110 (.iconst 2) 1 := by decide +kernel
theorem d26_111 : dk B29 111 (.iadd) 1 := by decide +kernel
theorem d26_112 : dk B29 112 (.baload) 1 := by decide +kernel
theorem d26_113 : dk B29 113 (.sipush 255) 3 := by decide +kernel
theorem d26_116 : dk B29 116 (.iand) 1 := by decide +kernel
theorem d26_117 : dk B29 117 (.goto 12) 3 := by decide +kernel
theorem d26_120 : dk B29 120 (.aload_n 0) 1 := by decide +kernel
theorem d26_121 : dk B29 121 (.iload_n 1) 1 := by decide +kernel
theorem d26_122 : dk B29 122 (.iconst 1) 1 := by decide +kernel
theorem d26_123 : dk B29 123 (.iadd) 1 := by decide +kernel
theorem d26_124 : dk B29 124 (.baload) 1 := by decide +kernel
theorem d26_125 : dk B29 125 (.sipush 255) 3 := by decide +kernel
theorem d26_128 : dk B29 128 (.iand) 1 := by decide +kernel
theorem d26_129 : dk B29 129 (.istore 5) 2 := by decide +kernel
theorem d26_131 : dk B29 131 (.iload_n 3) 1 := by decide +kernel
theorem d26_132 : dk B29 132 (.ifCond .eq 15) 3 := by decide +kernel
theorem d26_135 : dk B29 135 (.aload_n 0) 1 := by decide +kernel
theorem d26_136 : dk B29 136 (.iload_n 1) 1 := by decide +kernel
theorem d26_137 : dk B29 137 (.iconst 1) 1 := by decide +kernel
theorem d26_138 : dk B29 138 (.iadd) 1 := by decide +kernel
theorem d26_139 : dk B29 139 (.baload) 1 := by decide +kernel
theorem d26_140 : dk B29 140 (.sipush 255) 3 := by decide +kernel
theorem d26_143 : dk B29 143 (.iand) 1 := by decide +kernel
theorem d26_144 : dk B29 144 (.goto 12) 3 := by decide +kernel
theorem d26_147 : dk B29 147 (.aload_n 0) 1 := by decide +kernel
theorem d26_148 : dk B29 148 (.iload_n 1) 1 := by decide +kernel
theorem d26_149 : dk B29 149 (.iconst 2) 1 := by decide +kernel
theorem d26_150 : dk B29 150 (.iadd) 1 := by decide +kernel
theorem d26_151 : dk B29 151 (.baload) 1 := by decide +kernel
theorem d26_152 : dk B29 152 (.sipush 255) 3 := by decide +kernel
theorem d26_155 : dk B29 155 (.iand) 1 := by decide +kernel
theorem d26_156 : dk B29 156 (.istore 6) 2 := by decide +kernel
theorem d26_158 : dk B29 158 (.iload_n 3) 1 := by decide +kernel
theorem d26_159 : dk B29 159 (.ifCond .eq 13) 3 := by decide +kernel
theorem d26_162 : dk B29 162 (.aload_n 0) 1 := by decide +kernel
theorem d26_163 : dk B29 163 (.iload_n 1) 1 := by decide +kernel
theorem d26_164 : dk B29 164 (.baload) 1 := by decide +kernel
theorem d26_165 : dk B29 165 (.sipush 255) 3 := by decide +kernel
theorem d26_168 : dk B29 168 (.iand) 1 := by decide +kernel
theorem d26_169 : dk B29 169 (.goto 12) 3 := by decide +kernel
theorem d26_172 : dk B29 172 (.aload_n 0) 1 := by decide +kernel
theorem d26_173 : dk B29 173 (.iload_n 1) 1 := by decide +kernel
theorem d26_174 : dk B29 174 (.iconst 3) 1 := by decide +kernel
theorem d26_175 : dk B29 175 (.iadd) 1 := by decide +kernel
theorem d26_176 : dk B29 176 (.baload) 1 := by decide +kernel
theorem d26_177 : dk B29 177 (.sipush 255) 3 := by decide +kernel
theorem d26_180 : dk B29 180 (.iand) 1 := by decide +kernel
theorem d26_181 : dk B29 181 (.istore 7) 2 := by decide +kernel
theorem d26_183 : dk B29 183 (.iload 4) 2 := by decide +kernel
theorem d26_185 : dk B29 185 (.ifCond .ne 18) 3 := by decide +kernel
theorem d26_188 : dk B29 188 (.iload 5) 2 := by decide +kernel
theorem d26_190 : dk B29 190 (.ifCond .ne 13) 3 := by decide +kernel
theorem d26_193 : dk B29 193 (.iload 6) 2 := by decide +kernel
theorem d26_195 : dk B29 195 (.bipush 8) 2 := by decide +kernel
theorem d26_197 : dk B29 197 (.ishl) 1 := by decide +kernel
theorem d26_198 : dk B29 198 (.iload 7) 2 := by decide +kernel
theorem d26_200 : dk B29 200 (.ior) 1 := by decide +kernel
theorem d26_201 : dk B29 201 (.i2c) 1 := by decide +kernel
theorem d26_202 : dk B29 202 (.ireturn) 1 := by decide +kernel
theorem d26_203 : dk B29 203 (.ldc 53) 2 := by decide +kernel
theorem d26_205 : dk B29 205 (.ireturn) 1 := by decide +kernel
theorem pn_26 : plainName "com/example/provenir/provenir/TextEncodingDecodePinLaw" = true := by first | (simp [plainName, overriddenIn]; done) | decide +kernel
theorem ef_expected_1_0 (m : MethodId) (x0 : Addr) (x1 : Int32) : entryFrame m #[(.ref x0), (.int x1), (.int 1), (.int 0)] 8 = mkF m 0 #[.val (.ref x0), .val (.int x1), .val (.int 1), .val (.int 0), .unset, .unset, .unset, .unset] [] := by first | (simp [entryFrame, mkF, argsToLocals, Value.category]; done) | rfl
def Q_expected_1_0 (Z : State) (a2 : Addr) (cB : Cell) (at1 : Int32) (h0 : Heap) (n0 : Nat) (v : Option Value) (h : Heap) (L : List Loc) : Prop := v = some (.int (own_ex1_0 cB at1)) ∧ Fr n0 L ∧ h = h0
theorem rm_expected_1_0 (l : Launch) (Z : State) (a0 : Array Value) (hw : HW a0 Z) (ws : List Jvm.Cond) (a2 : Addr) (cB : Cell) (at1 : Int32) (h0 : Heap) (n0 : Nat) (Z0 : n0 ≤ h0.size) (Tb : Tab Z h0 a2 cB .byte (8 : Int32)) (hbn : 0 ≤ at1.toInt ∧ at1.toInt < 8) :
    M29 l ws (rmk 0 0 0 0) Z #[(.ref a2), (.int at1), (.int 1), (.int 0)] h0 (Q_expected_1_0 Z a2 cB at1 h0 n0) := by
  refine own_go "com/example/provenir/provenir/TextEncodingDecodePinLaw" rfl (plainFor_of_name pn_26) (fun m => ef_expected_1_0 m a2 at1) (fun p e s m below meth c s₁ hx hby hml hown hnm hlk hret hZ X0 e0 => ?_)
  have N0 := Fr.nil n0
  show gs s₁ m 0 #[vr a2, vi at1, vi 1, vi 0, .unset, .unset, .unset, .unset] []
  refine oiloadN X0 hx hby d26_0 rfl ?_
  refine oiconst X0 hx hby d26_1 ?_
  refine own_st (fun _ kS => XS.icmpNo X0.here hx rfl (hb hby d26_2) rfl (teq (by decide : (1 : Int32) = (1 : Int32))).2 kS) ?_
  show gs s₁ m 5 #[vr a2, vi at1, vi 1, vi 0, .unset, .unset, .unset, .unset] []
  refine oaloadN X0 hx hby d26_5 rfl rfl ?_
  refine oiloadN X0 hx hby d26_6 rfl ?_
  show gs s₁ m 7 #[vr a2, vi at1, vi 1, vi 0, .unset, .unset, .unset, .unset] [(.int at1), (.ref a2)]
  have ib1 : ¬ (at1 < 0 ∨ cB.slots.size ≤ (at1).toNatClampNeg) := inb_of Tb.2.1 (own_inb0 hbn (by decide))
  refine own_st (fun _ kS => X0.baloadBytes hx (j := at1) (v := (.int (atv cB at1))) (by rw [e0]; exact Tb.1.1) (State.isArrayOf_alike hZ.alike Tb.1.2.1) Tb.1.2.2 ib1 (Tb.2.2.2 _ ib1) (g := (mkF m 7 #[vr a2, vi at1, vi 1, vi 0, .unset, .unset, .unset, .unset] [(.int at1), (.ref a2)])) rfl rfl (hb hby d26_7) _ kS) ?_
  show gs s₁ m 8 #[vr a2, vi at1, vi 1, vi 0, .unset, .unset, .unset, .unset] [(.int (atv cB at1))]
  refine own_st (fun _ kS => XS.sipush X0.here hx rfl (hb hby d26_8) kS) ?_
  refine own_st (fun _ kS => XS.iand X0.here hx rfl (hb hby d26_11) rfl kS) ?_
  refine own_st (fun _ kS => XT.i2c X0.here hx rfl (hb hby d26_12) rfl kS) ?_
  show gs s₁ m 13 #[vr a2, vi at1, vi 1, vi 0, .unset, .unset, .unset, .unset] [(.int (((atv cB at1) &&& (255 : Int32)).toUInt32.toUInt16.toUInt32.toInt32))]
  exact own_retN X0 hx hlk (t := .char) hret (by simp) (hb hby d26_13) (by decide) (by decide) (v' := (nar .char (((atv cB at1) &&& (255 : Int32)).toUInt32.toUInt16.toUInt32.toInt32))) rfl (by rw [e0]; exact ⟨rfl, N0, rfl⟩)
theorem ef_unitAt_4_0 (m : MethodId) (x0 : Addr) (x1 : Addr) (x2 : Int32) : entryFrame m #[(.ref x0), (.ref x1), (.int x2)] 5 = mkF m 0 #[.val (.ref x0), .val (.ref x1), .val (.int x2), .unset, .unset] [] := by first | (simp [entryFrame, mkF, argsToLocals, Value.category]; done) | rfl
def Q_unitAt_4_0 (Z : State) (a1 : Addr) (a2 : Addr) (cB : Cell) (at1 : Int32) (h0 : Heap) (n0 : Nat) (v : Option Value) (h : Heap) (L : List Loc) : Prop := v = some (.int (own_un4_0 cB at1)) ∧ Fr n0 L ∧ h = h0
theorem rm_unitAt_4_0 (l : Launch) (Z : State) (a0 : Array Value) (hw : HW a0 Z) (ws : List Jvm.Cond) (a1 : Addr) (a2 : Addr) (cB : Cell) (at1 : Int32) (h0 : Heap) (n0 : Nat) (Z0 : n0 ≤ h0.size) (O0 : Old Z n0 h0) (Fw : fk17 Z Z.heap a1 (.int 4)) (Fl : fk18 Z Z.heap a1 (.int 0)) (Tb : Tab Z h0 a2 cB .byte (8 : Int32)) (hbn : 0 ≤ at1.toInt ∧ at1.toInt < 5) :
    M28 l ws (rmk 0 0 0 0) Z #[(.ref a1), (.ref a2), (.int at1)] h0 (Q_unitAt_4_0 Z a1 a2 cB at1 h0 n0) := by
  refine own_go "com/example/provenir/provenir/TextEncoding" rfl (plainFor_of_name pn_16) (fun m => ef_unitAt_4_0 m a1 a2 at1) (fun p e s m below meth c s₁ hx hby hml hown hnm hlk hret hZ X0 e0 => ?_)
  have N0 := Fr.nil n0
  show gs s₁ m 0 #[vr a1, vr a2, vi at1, .unset, .unset] []
  refine oaloadN X0 hx hby d16_0 rfl rfl ?_
  obtain ⟨T1, X1, e1, st1⟩ := getF X0 hx hZ hown (host := "") (Or.inl (own_w hw 17 rfl)) Via.refl e0 (Fld.ext O0.2 Fw) (g := (mkF m 1 #[vr a1, vr a2, vi at1, .unset, .unset] [(.ref a1)])) rfl rfl (hb hby d16_1)
  refine own_st st1 ?_
  show gs T1 m 4 #[vr a1, vr a2, vi at1, .unset, .unset] [(.int 4)]
  refine oiconst X1 hx hby d16_4 ?_
  refine own_st (fun _ kS => XS.icmpYes X1.here hx rfl (pc0 := 5) (pc' := 19) rfl (hb hby d16_5) rfl (feq (by decide : ¬ ((4 : Int32) = (1 : Int32)))).2 (by decide) (by decide) kS) ?_
  show gs T1 m 19 #[vr a1, vr a2, vi at1, .unset, .unset] []
  refine oiconst X1 hx hby d16_19 ?_
  refine own_st (fun _ kS => XS.istoreN X1.here hx rfl (hb hby d16_20) rfl (l' := #[vr a1, vr a2, vi at1, vi 0, .unset]) rfl kS) ?_
  refine oiconst X1 hx hby d16_21 ?_
  refine own_st (fun _ kS => XS.istore X1.here hx rfl (hb hby d16_22) rfl (l' := #[vr a1, vr a2, vi at1, vi 0, vi 0]) rfl kS) ?_
  refine oiload X1 hx hby d16_24 rfl ?_
  refine oaloadN X1 hx hby d16_26 rfl rfl ?_
  obtain ⟨T2, X2, e2, st2⟩ := getF X1 hx hZ hown (host := "") (Or.inl (own_w hw 17 rfl)) Via.refl e1 (Fld.ext O0.2 Fw) (g := (mkF m 27 #[vr a1, vr a2, vi at1, vi 0, vi 0] [(.ref a1), (.int 0)])) rfl rfl (hb hby d16_27)
  refine own_st st2 ?_
  show gs T2 m 30 #[vr a1, vr a2, vi at1, vi 0, vi 0] [(.int 4), (.int 0)]
  refine own_st (fun _ kS => XS.icmpNo X2.here hx rfl (hb hby d16_30) rfl (tlt (by decide : (0 : Int32) < (4 : Int32))).2.1 kS) ?_
  show gs T2 m 33 #[vr a1, vr a2, vi at1, vi 0, vi 0] []
  refine oiloadN X2 hx hby d16_33 rfl ?_
  refine own_st (fun _ kS => XS.bipush X2.here hx rfl (hb hby d16_34) kS) ?_
  refine own_st (fun _ kS => XT.ishl X2.here hx rfl (hb hby d16_36) rfl kS) ?_
  refine oaloadN X2 hx hby d16_37 rfl rfl ?_
  refine oaloadN X2 hx hby d16_38 rfl rfl ?_
  obtain ⟨T3, X3, e3, st3⟩ := getF X2 hx hZ hown (host := "") (Or.inl (own_w hw 156 rfl)) Via.refl e2 (Fld.ext O0.2 Fl) (g := (mkF m 39 #[vr a1, vr a2, vi at1, vi 0, vi 0] [(.ref a1), (.ref a2), (.int 0)])) rfl rfl (hb hby d16_39)
  refine own_st st3 ?_
  show gs T3 m 42 #[vr a1, vr a2, vi at1, vi 0, vi 0] [(.int 0), (.ref a2), (.int 0)]
  refine own_st (fun _ kS => XS.ifYes X3.here hx rfl (pc0 := 42) (pc' := 59) rfl (hb hby d16_42) rfl ((if0 _ _).trans (teq (by decide : (0 : Int32) = (0 : Int32))).1) (by decide) (by decide) kS) ?_
  show gs T3 m 59 #[vr a1, vr a2, vi at1, vi 0, vi 0] [(.ref a2), (.int 0)]
  refine oiloadN X3 hx hby d16_59 rfl ?_
  refine oiload X3 hx hby d16_60 rfl ?_
  refine own_st (fun _ kS => XS.iadd X3.here hx rfl (hb hby d16_62) rfl kS) ?_
  show gs T3 m 63 #[vr a1, vr a2, vi at1, vi 0, vi 0] [(.int (at1 + (0 : Int32))), (.ref a2), (.int 0)]
  rw [own_add0 at1]
  show gs T3 m 63 #[vr a1, vr a2, vi at1, vi 0, vi 0] [(.int at1), (.ref a2), (.int 0)]
  have ib4 : ¬ (at1 < 0 ∨ cB.slots.size ≤ (at1).toNatClampNeg) := inb_of Tb.2.1 (own_inb0 hbn (by decide))
  refine own_st (fun _ kS => X3.baloadBytes hx (j := at1) (v := (.int (atv cB at1))) (by rw [e3]; exact Tb.1.1) (State.isArrayOf_alike hZ.alike Tb.1.2.1) Tb.1.2.2 ib4 (Tb.2.2.2 _ ib4) (g := (mkF m 63 #[vr a1, vr a2, vi at1, vi 0, vi 0] [(.int at1), (.ref a2), (.int 0)])) rfl rfl (hb hby d16_63) _ kS) ?_
  show gs T3 m 64 #[vr a1, vr a2, vi at1, vi 0, vi 0] [(.int (atv cB at1)), (.int 0)]
  refine own_st (fun _ kS => XS.sipush X3.here hx rfl (hb hby d16_64) kS) ?_
  refine own_st (fun _ kS => XS.iand X3.here hx rfl (hb hby d16_67) rfl kS) ?_
  refine own_st (fun _ kS => XT.ior X3.here hx rfl (hb hby d16_68) rfl kS) ?_
  show gs T3 m 69 #[vr a1, vr a2, vi at1, vi 0, vi 0] [(.int ((0 : Int32) ||| ((atv cB at1) &&& (255 : Int32))))]
  obtain ⟨v0, hv0⟩ : ∃ z, z = ((0 : Int32) ||| ((atv cB at1) &&& (255 : Int32))) := ⟨_, rfl⟩
  rw [← hv0]
  show gs T3 m 69 #[vr a1, vr a2, vi at1, vi 0, vi 0] [(.int v0)]
  refine own_st (fun _ kS => XS.istoreN X3.here hx rfl (hb hby d16_69) rfl (l' := #[vr a1, vr a2, vi at1, vi v0, vi 0]) rfl kS) ?_
  refine own_st (fun _ kS => XS.iinc X3.here hx rfl (hb hby d16_70) rfl (l' := #[vr a1, vr a2, vi at1, vi v0, vi 1]) rfl kS) ?_
  refine own_st (fun _ kS => XS.goto X3.here hx rfl (pc0 := 73) (pc' := 24) rfl (hb hby d16_73) (by decide) (by decide) kS) ?_
  refine oiload X3 hx hby d16_24 rfl ?_
  refine oaloadN X3 hx hby d16_26 rfl rfl ?_
  obtain ⟨T5, X5, e5, st5⟩ := getF X3 hx hZ hown (host := "") (Or.inl (own_w hw 17 rfl)) Via.refl e3 (Fld.ext O0.2 Fw) (g := (mkF m 27 #[vr a1, vr a2, vi at1, vi v0, vi 1] [(.ref a1), (.int 1)])) rfl rfl (hb hby d16_27)
  refine own_st st5 ?_
  show gs T5 m 30 #[vr a1, vr a2, vi at1, vi v0, vi 1] [(.int 4), (.int 1)]
  refine own_st (fun _ kS => XS.icmpNo X5.here hx rfl (hb hby d16_30) rfl (tlt (by decide : (1 : Int32) < (4 : Int32))).2.1 kS) ?_
  show gs T5 m 33 #[vr a1, vr a2, vi at1, vi v0, vi 1] []
  refine oiloadN X5 hx hby d16_33 rfl ?_
  refine own_st (fun _ kS => XS.bipush X5.here hx rfl (hb hby d16_34) kS) ?_
  refine own_st (fun _ kS => XT.ishl X5.here hx rfl (hb hby d16_36) rfl kS) ?_
  refine oaloadN X5 hx hby d16_37 rfl rfl ?_
  refine oaloadN X5 hx hby d16_38 rfl rfl ?_
  obtain ⟨T6, X6, e6, st6⟩ := getF X5 hx hZ hown (host := "") (Or.inl (own_w hw 156 rfl)) Via.refl e5 (Fld.ext O0.2 Fl) (g := (mkF m 39 #[vr a1, vr a2, vi at1, vi v0, vi 1] [(.ref a1), (.ref a2), (.int (v0 <<< ((8 : Int32) &&& 31)))])) rfl rfl (hb hby d16_39)
  refine own_st st6 ?_
  show gs T6 m 42 #[vr a1, vr a2, vi at1, vi v0, vi 1] [(.int 0), (.ref a2), (.int (v0 <<< ((8 : Int32) &&& 31)))]
  refine own_st (fun _ kS => XS.ifYes X6.here hx rfl (pc0 := 42) (pc' := 59) rfl (hb hby d16_42) rfl ((if0 _ _).trans (teq (by decide : (0 : Int32) = (0 : Int32))).1) (by decide) (by decide) kS) ?_
  show gs T6 m 59 #[vr a1, vr a2, vi at1, vi v0, vi 1] [(.ref a2), (.int (v0 <<< ((8 : Int32) &&& 31)))]
  refine oiloadN X6 hx hby d16_59 rfl ?_
  refine oiload X6 hx hby d16_60 rfl ?_
  refine own_st (fun _ kS => XS.iadd X6.here hx rfl (hb hby d16_62) rfl kS) ?_
  show gs T6 m 63 #[vr a1, vr a2, vi at1, vi v0, vi 1] [(.int (at1 + (1 : Int32))), (.ref a2), (.int (v0 <<< ((8 : Int32) &&& 31)))]
  have ib7 : ¬ ((at1 + (1 : Int32)) < 0 ∨ cB.slots.size ≤ ((at1 + (1 : Int32))).toNatClampNeg) := inb_of Tb.2.1 (own_inb hbn 1 (by decide))
  refine own_st (fun _ kS => X6.baloadBytes hx (j := (at1 + (1 : Int32))) (v := (.int (atv cB (at1 + (1 : Int32))))) (by rw [e6]; exact Tb.1.1) (State.isArrayOf_alike hZ.alike Tb.1.2.1) Tb.1.2.2 ib7 (Tb.2.2.2 _ ib7) (g := (mkF m 63 #[vr a1, vr a2, vi at1, vi v0, vi 1] [(.int (at1 + (1 : Int32))), (.ref a2), (.int (v0 <<< ((8 : Int32) &&& 31)))])) rfl rfl (hb hby d16_63) _ kS) ?_
  show gs T6 m 64 #[vr a1, vr a2, vi at1, vi v0, vi 1] [(.int (atv cB (at1 + (1 : Int32)))), (.int (v0 <<< ((8 : Int32) &&& 31)))]
  refine own_st (fun _ kS => XS.sipush X6.here hx rfl (hb hby d16_64) kS) ?_
  refine own_st (fun _ kS => XS.iand X6.here hx rfl (hb hby d16_67) rfl kS) ?_
  refine own_st (fun _ kS => XT.ior X6.here hx rfl (hb hby d16_68) rfl kS) ?_
  show gs T6 m 69 #[vr a1, vr a2, vi at1, vi v0, vi 1] [(.int ((v0 <<< ((8 : Int32) &&& 31)) ||| ((atv cB (at1 + (1 : Int32))) &&& (255 : Int32))))]
  obtain ⟨v1, hv1⟩ : ∃ z, z = ((v0 <<< ((8 : Int32) &&& 31)) ||| ((atv cB (at1 + (1 : Int32))) &&& (255 : Int32))) := ⟨_, rfl⟩
  rw [← hv1]
  show gs T6 m 69 #[vr a1, vr a2, vi at1, vi v0, vi 1] [(.int v1)]
  refine own_st (fun _ kS => XS.istoreN X6.here hx rfl (hb hby d16_69) rfl (l' := #[vr a1, vr a2, vi at1, vi v1, vi 1]) rfl kS) ?_
  refine own_st (fun _ kS => XS.iinc X6.here hx rfl (hb hby d16_70) rfl (l' := #[vr a1, vr a2, vi at1, vi v1, vi 2]) rfl kS) ?_
  refine own_st (fun _ kS => XS.goto X6.here hx rfl (pc0 := 73) (pc' := 24) rfl (hb hby d16_73) (by decide) (by decide) kS) ?_
  refine oiload X6 hx hby d16_24 rfl ?_
  refine oaloadN X6 hx hby d16_26 rfl rfl ?_
  obtain ⟨T8, X8, e8, st8⟩ := getF X6 hx hZ hown (host := "") (Or.inl (own_w hw 17 rfl)) Via.refl e6 (Fld.ext O0.2 Fw) (g := (mkF m 27 #[vr a1, vr a2, vi at1, vi v1, vi 2] [(.ref a1), (.int 2)])) rfl rfl (hb hby d16_27)
  refine own_st st8 ?_
  show gs T8 m 30 #[vr a1, vr a2, vi at1, vi v1, vi 2] [(.int 4), (.int 2)]
  refine own_st (fun _ kS => XS.icmpNo X8.here hx rfl (hb hby d16_30) rfl (tlt (by decide : (2 : Int32) < (4 : Int32))).2.1 kS) ?_
  show gs T8 m 33 #[vr a1, vr a2, vi at1, vi v1, vi 2] []
  refine oiloadN X8 hx hby d16_33 rfl ?_
  refine own_st (fun _ kS => XS.bipush X8.here hx rfl (hb hby d16_34) kS) ?_
  refine own_st (fun _ kS => XT.ishl X8.here hx rfl (hb hby d16_36) rfl kS) ?_
  refine oaloadN X8 hx hby d16_37 rfl rfl ?_
  refine oaloadN X8 hx hby d16_38 rfl rfl ?_
  obtain ⟨T9, X9, e9, st9⟩ := getF X8 hx hZ hown (host := "") (Or.inl (own_w hw 156 rfl)) Via.refl e8 (Fld.ext O0.2 Fl) (g := (mkF m 39 #[vr a1, vr a2, vi at1, vi v1, vi 2] [(.ref a1), (.ref a2), (.int (v1 <<< ((8 : Int32) &&& 31)))])) rfl rfl (hb hby d16_39)
  refine own_st st9 ?_
  show gs T9 m 42 #[vr a1, vr a2, vi at1, vi v1, vi 2] [(.int 0), (.ref a2), (.int (v1 <<< ((8 : Int32) &&& 31)))]
  refine own_st (fun _ kS => XS.ifYes X9.here hx rfl (pc0 := 42) (pc' := 59) rfl (hb hby d16_42) rfl ((if0 _ _).trans (teq (by decide : (0 : Int32) = (0 : Int32))).1) (by decide) (by decide) kS) ?_
  show gs T9 m 59 #[vr a1, vr a2, vi at1, vi v1, vi 2] [(.ref a2), (.int (v1 <<< ((8 : Int32) &&& 31)))]
  refine oiloadN X9 hx hby d16_59 rfl ?_
  refine oiload X9 hx hby d16_60 rfl ?_
  refine own_st (fun _ kS => XS.iadd X9.here hx rfl (hb hby d16_62) rfl kS) ?_
  show gs T9 m 63 #[vr a1, vr a2, vi at1, vi v1, vi 2] [(.int (at1 + (2 : Int32))), (.ref a2), (.int (v1 <<< ((8 : Int32) &&& 31)))]
  have ib10 : ¬ ((at1 + (2 : Int32)) < 0 ∨ cB.slots.size ≤ ((at1 + (2 : Int32))).toNatClampNeg) := inb_of Tb.2.1 (own_inb hbn 2 (by decide))
  refine own_st (fun _ kS => X9.baloadBytes hx (j := (at1 + (2 : Int32))) (v := (.int (atv cB (at1 + (2 : Int32))))) (by rw [e9]; exact Tb.1.1) (State.isArrayOf_alike hZ.alike Tb.1.2.1) Tb.1.2.2 ib10 (Tb.2.2.2 _ ib10) (g := (mkF m 63 #[vr a1, vr a2, vi at1, vi v1, vi 2] [(.int (at1 + (2 : Int32))), (.ref a2), (.int (v1 <<< ((8 : Int32) &&& 31)))])) rfl rfl (hb hby d16_63) _ kS) ?_
  show gs T9 m 64 #[vr a1, vr a2, vi at1, vi v1, vi 2] [(.int (atv cB (at1 + (2 : Int32)))), (.int (v1 <<< ((8 : Int32) &&& 31)))]
  refine own_st (fun _ kS => XS.sipush X9.here hx rfl (hb hby d16_64) kS) ?_
  refine own_st (fun _ kS => XS.iand X9.here hx rfl (hb hby d16_67) rfl kS) ?_
  refine own_st (fun _ kS => XT.ior X9.here hx rfl (hb hby d16_68) rfl kS) ?_
  show gs T9 m 69 #[vr a1, vr a2, vi at1, vi v1, vi 2] [(.int ((v1 <<< ((8 : Int32) &&& 31)) ||| ((atv cB (at1 + (2 : Int32))) &&& (255 : Int32))))]
  obtain ⟨v2, hv2⟩ : ∃ z, z = ((v1 <<< ((8 : Int32) &&& 31)) ||| ((atv cB (at1 + (2 : Int32))) &&& (255 : Int32))) := ⟨_, rfl⟩
  rw [← hv2]
  show gs T9 m 69 #[vr a1, vr a2, vi at1, vi v1, vi 2] [(.int v2)]
  refine own_st (fun _ kS => XS.istoreN X9.here hx rfl (hb hby d16_69) rfl (l' := #[vr a1, vr a2, vi at1, vi v2, vi 2]) rfl kS) ?_
  refine own_st (fun _ kS => XS.iinc X9.here hx rfl (hb hby d16_70) rfl (l' := #[vr a1, vr a2, vi at1, vi v2, vi 3]) rfl kS) ?_
  refine own_st (fun _ kS => XS.goto X9.here hx rfl (pc0 := 73) (pc' := 24) rfl (hb hby d16_73) (by decide) (by decide) kS) ?_
  refine oiload X9 hx hby d16_24 rfl ?_
  refine oaloadN X9 hx hby d16_26 rfl rfl ?_
  obtain ⟨T11, X11, e11, st11⟩ := getF X9 hx hZ hown (host := "") (Or.inl (own_w hw 17 rfl)) Via.refl e9 (Fld.ext O0.2 Fw) (g := (mkF m 27 #[vr a1, vr a2, vi at1, vi v2, vi 3] [(.ref a1), (.int 3)])) rfl rfl (hb hby d16_27)
  refine own_st st11 ?_
  show gs T11 m 30 #[vr a1, vr a2, vi at1, vi v2, vi 3] [(.int 4), (.int 3)]
  refine own_st (fun _ kS => XS.icmpNo X11.here hx rfl (hb hby d16_30) rfl (tlt (by decide : (3 : Int32) < (4 : Int32))).2.1 kS) ?_
  show gs T11 m 33 #[vr a1, vr a2, vi at1, vi v2, vi 3] []
  refine oiloadN X11 hx hby d16_33 rfl ?_
  refine own_st (fun _ kS => XS.bipush X11.here hx rfl (hb hby d16_34) kS) ?_
  refine own_st (fun _ kS => XT.ishl X11.here hx rfl (hb hby d16_36) rfl kS) ?_
  refine oaloadN X11 hx hby d16_37 rfl rfl ?_
  refine oaloadN X11 hx hby d16_38 rfl rfl ?_
  obtain ⟨T12, X12, e12, st12⟩ := getF X11 hx hZ hown (host := "") (Or.inl (own_w hw 156 rfl)) Via.refl e11 (Fld.ext O0.2 Fl) (g := (mkF m 39 #[vr a1, vr a2, vi at1, vi v2, vi 3] [(.ref a1), (.ref a2), (.int (v2 <<< ((8 : Int32) &&& 31)))])) rfl rfl (hb hby d16_39)
  refine own_st st12 ?_
  show gs T12 m 42 #[vr a1, vr a2, vi at1, vi v2, vi 3] [(.int 0), (.ref a2), (.int (v2 <<< ((8 : Int32) &&& 31)))]
  refine own_st (fun _ kS => XS.ifYes X12.here hx rfl (pc0 := 42) (pc' := 59) rfl (hb hby d16_42) rfl ((if0 _ _).trans (teq (by decide : (0 : Int32) = (0 : Int32))).1) (by decide) (by decide) kS) ?_
  show gs T12 m 59 #[vr a1, vr a2, vi at1, vi v2, vi 3] [(.ref a2), (.int (v2 <<< ((8 : Int32) &&& 31)))]
  refine oiloadN X12 hx hby d16_59 rfl ?_
  refine oiload X12 hx hby d16_60 rfl ?_
  refine own_st (fun _ kS => XS.iadd X12.here hx rfl (hb hby d16_62) rfl kS) ?_
  show gs T12 m 63 #[vr a1, vr a2, vi at1, vi v2, vi 3] [(.int (at1 + (3 : Int32))), (.ref a2), (.int (v2 <<< ((8 : Int32) &&& 31)))]
  have ib13 : ¬ ((at1 + (3 : Int32)) < 0 ∨ cB.slots.size ≤ ((at1 + (3 : Int32))).toNatClampNeg) := inb_of Tb.2.1 (own_inb hbn 3 (by decide))
  refine own_st (fun _ kS => X12.baloadBytes hx (j := (at1 + (3 : Int32))) (v := (.int (atv cB (at1 + (3 : Int32))))) (by rw [e12]; exact Tb.1.1) (State.isArrayOf_alike hZ.alike Tb.1.2.1) Tb.1.2.2 ib13 (Tb.2.2.2 _ ib13) (g := (mkF m 63 #[vr a1, vr a2, vi at1, vi v2, vi 3] [(.int (at1 + (3 : Int32))), (.ref a2), (.int (v2 <<< ((8 : Int32) &&& 31)))])) rfl rfl (hb hby d16_63) _ kS) ?_
  show gs T12 m 64 #[vr a1, vr a2, vi at1, vi v2, vi 3] [(.int (atv cB (at1 + (3 : Int32)))), (.int (v2 <<< ((8 : Int32) &&& 31)))]
  refine own_st (fun _ kS => XS.sipush X12.here hx rfl (hb hby d16_64) kS) ?_
  refine own_st (fun _ kS => XS.iand X12.here hx rfl (hb hby d16_67) rfl kS) ?_
  refine own_st (fun _ kS => XT.ior X12.here hx rfl (hb hby d16_68) rfl kS) ?_
  show gs T12 m 69 #[vr a1, vr a2, vi at1, vi v2, vi 3] [(.int ((v2 <<< ((8 : Int32) &&& 31)) ||| ((atv cB (at1 + (3 : Int32))) &&& (255 : Int32))))]
  obtain ⟨v3, hv3⟩ : ∃ z, z = ((v2 <<< ((8 : Int32) &&& 31)) ||| ((atv cB (at1 + (3 : Int32))) &&& (255 : Int32))) := ⟨_, rfl⟩
  rw [← hv3]
  show gs T12 m 69 #[vr a1, vr a2, vi at1, vi v2, vi 3] [(.int v3)]
  refine own_st (fun _ kS => XS.istoreN X12.here hx rfl (hb hby d16_69) rfl (l' := #[vr a1, vr a2, vi at1, vi v3, vi 3]) rfl kS) ?_
  refine own_st (fun _ kS => XS.iinc X12.here hx rfl (hb hby d16_70) rfl (l' := #[vr a1, vr a2, vi at1, vi v3, vi 4]) rfl kS) ?_
  refine own_st (fun _ kS => XS.goto X12.here hx rfl (pc0 := 73) (pc' := 24) rfl (hb hby d16_73) (by decide) (by decide) kS) ?_
  refine oiload X12 hx hby d16_24 rfl ?_
  refine oaloadN X12 hx hby d16_26 rfl rfl ?_
  obtain ⟨T14, X14, e14, st14⟩ := getF X12 hx hZ hown (host := "") (Or.inl (own_w hw 17 rfl)) Via.refl e12 (Fld.ext O0.2 Fw) (g := (mkF m 27 #[vr a1, vr a2, vi at1, vi v3, vi 4] [(.ref a1), (.int 4)])) rfl rfl (hb hby d16_27)
  refine own_st st14 ?_
  show gs T14 m 30 #[vr a1, vr a2, vi at1, vi v3, vi 4] [(.int 4), (.int 4)]
  refine own_st (fun _ kS => XS.icmpYes X14.here hx rfl (pc0 := 30) (pc' := 76) rfl (hb hby d16_30) rfl (flt (by decide : ¬ ((4 : Int32) < (4 : Int32)))).2.1 (by decide) (by decide) kS) ?_
  show gs T14 m 76 #[vr a1, vr a2, vi at1, vi v3, vi 4] []
  refine oiloadN X14 hx hby d16_76 rfl ?_
  exact own_retI X14 hx hlk hret (hb hby d16_77) (by decide) (by decide) (by rw [e14]; exact ⟨(by rw [hv3, hv2, hv1, hv0]; rfl), N0, rfl⟩)
theorem ef_expected_4_0 (m : MethodId) (x0 : Addr) (x1 : Int32) : entryFrame m #[(.ref x0), (.int x1), (.int 4), (.int 0)] 8 = mkF m 0 #[.val (.ref x0), .val (.int x1), .val (.int 4), .val (.int 0), .unset, .unset, .unset, .unset] [] := by first | (simp [entryFrame, mkF, argsToLocals, Value.category]; done) | rfl
def Q_expected_4_0 (Z : State) (a2 : Addr) (cB : Cell) (at1 : Int32) (h0 : Heap) (n0 : Nat) (v : Option Value) (h : Heap) (L : List Loc) : Prop := v = some (.int (own_ex4_0 cB at1)) ∧ Fr n0 L ∧ h = h0
theorem rm_expected_4_0 (l : Launch) (Z : State) (a0 : Array Value) (hw : HW a0 Z) (ws : List Jvm.Cond) (a2 : Addr) (cB : Cell) (at1 : Int32) (h0 : Heap) (n0 : Nat) (Z0 : n0 ≤ h0.size) (Tb : Tab Z h0 a2 cB .byte (8 : Int32)) (hbn : 0 ≤ at1.toInt ∧ at1.toInt < 5) :
    M29 l ws (rmk 0 0 0 0) Z #[(.ref a2), (.int at1), (.int 4), (.int 0)] h0 (Q_expected_4_0 Z a2 cB at1 h0 n0) := by
  refine own_go "com/example/provenir/provenir/TextEncodingDecodePinLaw" rfl (plainFor_of_name pn_26) (fun m => ef_expected_4_0 m a2 at1) (fun p e s m below meth c s₁ hx hby hml hown hnm hlk hret hZ X0 e0 => ?_)
  have N0 := Fr.nil n0
  show gs s₁ m 0 #[vr a2, vi at1, vi 4, vi 0, .unset, .unset, .unset, .unset] []
  refine oiloadN X0 hx hby d26_0 rfl ?_
  refine oiconst X0 hx hby d26_1 ?_
  refine own_st (fun _ kS => XS.icmpYes X0.here hx rfl (pc0 := 2) (pc' := 14) rfl (hb hby d26_2) rfl (feq (by decide : ¬ ((4 : Int32) = (1 : Int32)))).2 (by decide) (by decide) kS) ?_
  show gs s₁ m 14 #[vr a2, vi at1, vi 4, vi 0, .unset, .unset, .unset, .unset] []
  refine oiloadN X0 hx hby d26_14 rfl ?_
  refine oiconst X0 hx hby d26_15 ?_
  refine own_st (fun _ kS => XS.icmpYes X0.here hx rfl (pc0 := 16) (pc' := 79) rfl (hb hby d26_16) rfl (feq (by decide : ¬ ((4 : Int32) = (2 : Int32)))).2 (by decide) (by decide) kS) ?_
  show gs s₁ m 79 #[vr a2, vi at1, vi 4, vi 0, .unset, .unset, .unset, .unset] []
  refine oiloadN X0 hx hby d26_79 rfl ?_
  refine own_st (fun _ kS => XS.ifYes X0.here hx rfl (pc0 := 80) (pc' := 95) rfl (hb hby d26_80) rfl ((if0 _ _).trans (teq (by decide : (0 : Int32) = (0 : Int32))).1) (by decide) (by decide) kS) ?_
  show gs s₁ m 95 #[vr a2, vi at1, vi 4, vi 0, .unset, .unset, .unset, .unset] []
  refine oaloadN X0 hx hby d26_95 rfl rfl ?_
  refine oiloadN X0 hx hby d26_96 rfl ?_
  show gs s₁ m 97 #[vr a2, vi at1, vi 4, vi 0, .unset, .unset, .unset, .unset] [(.int at1), (.ref a2)]
  have ib1 : ¬ (at1 < 0 ∨ cB.slots.size ≤ (at1).toNatClampNeg) := inb_of Tb.2.1 (own_inb0 hbn (by decide))
  refine own_st (fun _ kS => X0.baloadBytes hx (j := at1) (v := (.int (atv cB at1))) (by rw [e0]; exact Tb.1.1) (State.isArrayOf_alike hZ.alike Tb.1.2.1) Tb.1.2.2 ib1 (Tb.2.2.2 _ ib1) (g := (mkF m 97 #[vr a2, vi at1, vi 4, vi 0, .unset, .unset, .unset, .unset] [(.int at1), (.ref a2)])) rfl rfl (hb hby d26_97) _ kS) ?_
  show gs s₁ m 98 #[vr a2, vi at1, vi 4, vi 0, .unset, .unset, .unset, .unset] [(.int (atv cB at1))]
  refine own_st (fun _ kS => XS.sipush X0.here hx rfl (hb hby d26_98) kS) ?_
  refine own_st (fun _ kS => XS.iand X0.here hx rfl (hb hby d26_101) rfl kS) ?_
  refine own_st (fun _ kS => XS.istore X0.here hx rfl (hb hby d26_102) rfl (l' := #[vr a2, vi at1, vi 4, vi 0, vi ((atv cB at1) &&& (255 : Int32)), .unset, .unset, .unset]) rfl kS) ?_
  refine oiloadN X0 hx hby d26_104 rfl ?_
  refine own_st (fun _ kS => XS.ifYes X0.here hx rfl (pc0 := 105) (pc' := 120) rfl (hb hby d26_105) rfl ((if0 _ _).trans (teq (by decide : (0 : Int32) = (0 : Int32))).1) (by decide) (by decide) kS) ?_
  show gs s₁ m 120 #[vr a2, vi at1, vi 4, vi 0, vi ((atv cB at1) &&& (255 : Int32)), .unset, .unset, .unset] []
  refine oaloadN X0 hx hby d26_120 rfl rfl ?_
  refine oiloadN X0 hx hby d26_121 rfl ?_
  refine oiconst X0 hx hby d26_122 ?_
  refine own_st (fun _ kS => XS.iadd X0.here hx rfl (hb hby d26_123) rfl kS) ?_
  show gs s₁ m 124 #[vr a2, vi at1, vi 4, vi 0, vi ((atv cB at1) &&& (255 : Int32)), .unset, .unset, .unset] [(.int (at1 + (1 : Int32))), (.ref a2)]
  have ib2 : ¬ ((at1 + (1 : Int32)) < 0 ∨ cB.slots.size ≤ ((at1 + (1 : Int32))).toNatClampNeg) := inb_of Tb.2.1 (own_inb hbn 1 (by decide))
  refine own_st (fun _ kS => X0.baloadBytes hx (j := (at1 + (1 : Int32))) (v := (.int (atv cB (at1 + (1 : Int32))))) (by rw [e0]; exact Tb.1.1) (State.isArrayOf_alike hZ.alike Tb.1.2.1) Tb.1.2.2 ib2 (Tb.2.2.2 _ ib2) (g := (mkF m 124 #[vr a2, vi at1, vi 4, vi 0, vi ((atv cB at1) &&& (255 : Int32)), .unset, .unset, .unset] [(.int (at1 + (1 : Int32))), (.ref a2)])) rfl rfl (hb hby d26_124) _ kS) ?_
  show gs s₁ m 125 #[vr a2, vi at1, vi 4, vi 0, vi ((atv cB at1) &&& (255 : Int32)), .unset, .unset, .unset] [(.int (atv cB (at1 + (1 : Int32))))]
  refine own_st (fun _ kS => XS.sipush X0.here hx rfl (hb hby d26_125) kS) ?_
  refine own_st (fun _ kS => XS.iand X0.here hx rfl (hb hby d26_128) rfl kS) ?_
  refine own_st (fun _ kS => XS.istore X0.here hx rfl (hb hby d26_129) rfl (l' := #[vr a2, vi at1, vi 4, vi 0, vi ((atv cB at1) &&& (255 : Int32)), vi ((atv cB (at1 + (1 : Int32))) &&& (255 : Int32)), .unset, .unset]) rfl kS) ?_
  refine oiloadN X0 hx hby d26_131 rfl ?_
  refine own_st (fun _ kS => XS.ifYes X0.here hx rfl (pc0 := 132) (pc' := 147) rfl (hb hby d26_132) rfl ((if0 _ _).trans (teq (by decide : (0 : Int32) = (0 : Int32))).1) (by decide) (by decide) kS) ?_
  show gs s₁ m 147 #[vr a2, vi at1, vi 4, vi 0, vi ((atv cB at1) &&& (255 : Int32)), vi ((atv cB (at1 + (1 : Int32))) &&& (255 : Int32)), .unset, .unset] []
  refine oaloadN X0 hx hby d26_147 rfl rfl ?_
  refine oiloadN X0 hx hby d26_148 rfl ?_
  refine oiconst X0 hx hby d26_149 ?_
  refine own_st (fun _ kS => XS.iadd X0.here hx rfl (hb hby d26_150) rfl kS) ?_
  show gs s₁ m 151 #[vr a2, vi at1, vi 4, vi 0, vi ((atv cB at1) &&& (255 : Int32)), vi ((atv cB (at1 + (1 : Int32))) &&& (255 : Int32)), .unset, .unset] [(.int (at1 + (2 : Int32))), (.ref a2)]
  have ib3 : ¬ ((at1 + (2 : Int32)) < 0 ∨ cB.slots.size ≤ ((at1 + (2 : Int32))).toNatClampNeg) := inb_of Tb.2.1 (own_inb hbn 2 (by decide))
  refine own_st (fun _ kS => X0.baloadBytes hx (j := (at1 + (2 : Int32))) (v := (.int (atv cB (at1 + (2 : Int32))))) (by rw [e0]; exact Tb.1.1) (State.isArrayOf_alike hZ.alike Tb.1.2.1) Tb.1.2.2 ib3 (Tb.2.2.2 _ ib3) (g := (mkF m 151 #[vr a2, vi at1, vi 4, vi 0, vi ((atv cB at1) &&& (255 : Int32)), vi ((atv cB (at1 + (1 : Int32))) &&& (255 : Int32)), .unset, .unset] [(.int (at1 + (2 : Int32))), (.ref a2)])) rfl rfl (hb hby d26_151) _ kS) ?_
  show gs s₁ m 152 #[vr a2, vi at1, vi 4, vi 0, vi ((atv cB at1) &&& (255 : Int32)), vi ((atv cB (at1 + (1 : Int32))) &&& (255 : Int32)), .unset, .unset] [(.int (atv cB (at1 + (2 : Int32))))]
  refine own_st (fun _ kS => XS.sipush X0.here hx rfl (hb hby d26_152) kS) ?_
  refine own_st (fun _ kS => XS.iand X0.here hx rfl (hb hby d26_155) rfl kS) ?_
  refine own_st (fun _ kS => XS.istore X0.here hx rfl (hb hby d26_156) rfl (l' := #[vr a2, vi at1, vi 4, vi 0, vi ((atv cB at1) &&& (255 : Int32)), vi ((atv cB (at1 + (1 : Int32))) &&& (255 : Int32)), vi ((atv cB (at1 + (2 : Int32))) &&& (255 : Int32)), .unset]) rfl kS) ?_
  refine oiloadN X0 hx hby d26_158 rfl ?_
  refine own_st (fun _ kS => XS.ifYes X0.here hx rfl (pc0 := 159) (pc' := 172) rfl (hb hby d26_159) rfl ((if0 _ _).trans (teq (by decide : (0 : Int32) = (0 : Int32))).1) (by decide) (by decide) kS) ?_
  show gs s₁ m 172 #[vr a2, vi at1, vi 4, vi 0, vi ((atv cB at1) &&& (255 : Int32)), vi ((atv cB (at1 + (1 : Int32))) &&& (255 : Int32)), vi ((atv cB (at1 + (2 : Int32))) &&& (255 : Int32)), .unset] []
  refine oaloadN X0 hx hby d26_172 rfl rfl ?_
  refine oiloadN X0 hx hby d26_173 rfl ?_
  refine oiconst X0 hx hby d26_174 ?_
  refine own_st (fun _ kS => XS.iadd X0.here hx rfl (hb hby d26_175) rfl kS) ?_
  show gs s₁ m 176 #[vr a2, vi at1, vi 4, vi 0, vi ((atv cB at1) &&& (255 : Int32)), vi ((atv cB (at1 + (1 : Int32))) &&& (255 : Int32)), vi ((atv cB (at1 + (2 : Int32))) &&& (255 : Int32)), .unset] [(.int (at1 + (3 : Int32))), (.ref a2)]
  have ib4 : ¬ ((at1 + (3 : Int32)) < 0 ∨ cB.slots.size ≤ ((at1 + (3 : Int32))).toNatClampNeg) := inb_of Tb.2.1 (own_inb hbn 3 (by decide))
  refine own_st (fun _ kS => X0.baloadBytes hx (j := (at1 + (3 : Int32))) (v := (.int (atv cB (at1 + (3 : Int32))))) (by rw [e0]; exact Tb.1.1) (State.isArrayOf_alike hZ.alike Tb.1.2.1) Tb.1.2.2 ib4 (Tb.2.2.2 _ ib4) (g := (mkF m 176 #[vr a2, vi at1, vi 4, vi 0, vi ((atv cB at1) &&& (255 : Int32)), vi ((atv cB (at1 + (1 : Int32))) &&& (255 : Int32)), vi ((atv cB (at1 + (2 : Int32))) &&& (255 : Int32)), .unset] [(.int (at1 + (3 : Int32))), (.ref a2)])) rfl rfl (hb hby d26_176) _ kS) ?_
  show gs s₁ m 177 #[vr a2, vi at1, vi 4, vi 0, vi ((atv cB at1) &&& (255 : Int32)), vi ((atv cB (at1 + (1 : Int32))) &&& (255 : Int32)), vi ((atv cB (at1 + (2 : Int32))) &&& (255 : Int32)), .unset] [(.int (atv cB (at1 + (3 : Int32))))]
  refine own_st (fun _ kS => XS.sipush X0.here hx rfl (hb hby d26_177) kS) ?_
  refine own_st (fun _ kS => XS.iand X0.here hx rfl (hb hby d26_180) rfl kS) ?_
  refine own_st (fun _ kS => XS.istore X0.here hx rfl (hb hby d26_181) rfl (l' := #[vr a2, vi at1, vi 4, vi 0, vi ((atv cB at1) &&& (255 : Int32)), vi ((atv cB (at1 + (1 : Int32))) &&& (255 : Int32)), vi ((atv cB (at1 + (2 : Int32))) &&& (255 : Int32)), vi ((atv cB (at1 + (3 : Int32))) &&& (255 : Int32))]) rfl kS) ?_
  refine oiload X0 hx hby d26_183 rfl ?_
  show gs s₁ m 185 #[vr a2, vi at1, vi 4, vi 0, vi ((atv cB at1) &&& (255 : Int32)), vi ((atv cB (at1 + (1 : Int32))) &&& (255 : Int32)), vi ((atv cB (at1 + (2 : Int32))) &&& (255 : Int32)), vi ((atv cB (at1 + (3 : Int32))) &&& (255 : Int32))] [(.int ((atv cB at1) &&& (255 : Int32)))]
  by_cases hc185_5 : ((atv cB at1) &&& (255 : Int32)) = (0 : Int32)
  · skip
    refine own_st (fun _ kS => XS.ifNo X0.here hx rfl (hb hby d26_185) rfl ((if0 _ _).trans (teq hc185_5).2) kS) ?_
    show gs s₁ m 188 #[vr a2, vi at1, vi 4, vi 0, vi ((atv cB at1) &&& (255 : Int32)), vi ((atv cB (at1 + (1 : Int32))) &&& (255 : Int32)), vi ((atv cB (at1 + (2 : Int32))) &&& (255 : Int32)), vi ((atv cB (at1 + (3 : Int32))) &&& (255 : Int32))] []
    refine oiload X0 hx hby d26_188 rfl ?_
    show gs s₁ m 190 #[vr a2, vi at1, vi 4, vi 0, vi ((atv cB at1) &&& (255 : Int32)), vi ((atv cB (at1 + (1 : Int32))) &&& (255 : Int32)), vi ((atv cB (at1 + (2 : Int32))) &&& (255 : Int32)), vi ((atv cB (at1 + (3 : Int32))) &&& (255 : Int32))] [(.int ((atv cB (at1 + (1 : Int32))) &&& (255 : Int32)))]
    by_cases hc190_6 : ((atv cB (at1 + (1 : Int32))) &&& (255 : Int32)) = (0 : Int32)
    · skip
      refine own_st (fun _ kS => XS.ifNo X0.here hx rfl (hb hby d26_190) rfl ((if0 _ _).trans (teq hc190_6).2) kS) ?_
      show gs s₁ m 193 #[vr a2, vi at1, vi 4, vi 0, vi ((atv cB at1) &&& (255 : Int32)), vi ((atv cB (at1 + (1 : Int32))) &&& (255 : Int32)), vi ((atv cB (at1 + (2 : Int32))) &&& (255 : Int32)), vi ((atv cB (at1 + (3 : Int32))) &&& (255 : Int32))] []
      refine oiload X0 hx hby d26_193 rfl ?_
      refine own_st (fun _ kS => XS.bipush X0.here hx rfl (hb hby d26_195) kS) ?_
      refine own_st (fun _ kS => XT.ishl X0.here hx rfl (hb hby d26_197) rfl kS) ?_
      refine oiload X0 hx hby d26_198 rfl ?_
      refine own_st (fun _ kS => XT.ior X0.here hx rfl (hb hby d26_200) rfl kS) ?_
      refine own_st (fun _ kS => XT.i2c X0.here hx rfl (hb hby d26_201) rfl kS) ?_
      show gs s₁ m 202 #[vr a2, vi at1, vi 4, vi 0, vi ((atv cB at1) &&& (255 : Int32)), vi ((atv cB (at1 + (1 : Int32))) &&& (255 : Int32)), vi ((atv cB (at1 + (2 : Int32))) &&& (255 : Int32)), vi ((atv cB (at1 + (3 : Int32))) &&& (255 : Int32))] [(.int (((((atv cB (at1 + (2 : Int32))) &&& (255 : Int32)) <<< ((8 : Int32) &&& 31)) ||| ((atv cB (at1 + (3 : Int32))) &&& (255 : Int32))).toUInt32.toUInt16.toUInt32.toInt32))]
      exact own_retN X0 hx hlk (t := .char) hret (by simp) (hb hby d26_202) (by decide) (by decide) (v' := (nar .char (((((atv cB (at1 + (2 : Int32))) &&& (255 : Int32)) <<< ((8 : Int32) &&& 31)) ||| ((atv cB (at1 + (3 : Int32))) &&& (255 : Int32))).toUInt32.toUInt16.toUInt32.toInt32))) rfl (by rw [e0]; exact ⟨(congrArg (fun z => some (Value.int z)) (by rw [own_ex4_0, if_pos hc185_5, if_pos hc190_6])), N0, rfl⟩)
    · skip
      refine own_st (fun _ kS => XS.ifYes X0.here hx rfl (pc0 := 190) (pc' := 203) rfl (hb hby d26_190) rfl ((if0 _ _).trans (feq hc190_6).2) (by decide) (by decide) kS) ?_
      show gs s₁ m 203 #[vr a2, vi at1, vi 4, vi 0, vi ((atv cB at1) &&& (255 : Int32)), vi ((atv cB (at1 + (1 : Int32))) &&& (255 : Int32)), vi ((atv cB (at1 + (2 : Int32))) &&& (255 : Int32)), vi ((atv cB (at1 + (3 : Int32))) &&& (255 : Int32))] []
      refine own_st (fun _ kS => X0.ldcInt hx hown (mvT hZ (own_w hw 211 rfl)) (g := (mkF m 203 #[vr a2, vi at1, vi 4, vi 0, vi ((atv cB at1) &&& (255 : Int32)), vi ((atv cB (at1 + (1 : Int32))) &&& (255 : Int32)), vi ((atv cB (at1 + (2 : Int32))) &&& (255 : Int32)), vi ((atv cB (at1 + (3 : Int32))) &&& (255 : Int32))] [])) rfl (hb hby d26_203) _ kS) ?_
      show gs s₁ m 205 #[vr a2, vi at1, vi 4, vi 0, vi ((atv cB at1) &&& (255 : Int32)), vi ((atv cB (at1 + (1 : Int32))) &&& (255 : Int32)), vi ((atv cB (at1 + (2 : Int32))) &&& (255 : Int32)), vi ((atv cB (at1 + (3 : Int32))) &&& (255 : Int32))] [(.int 65533)]
      exact own_retN X0 hx hlk (t := .char) hret (by simp) (hb hby d26_205) (by decide) (by decide) (v' := (65533 : Int32)) rfl (by rw [e0]; exact ⟨(congrArg (fun z => some (Value.int z)) (by rw [own_ex4_0, if_pos hc185_5, if_neg hc190_6])), N0, rfl⟩)
  · skip
    refine own_st (fun _ kS => XS.ifYes X0.here hx rfl (pc0 := 185) (pc' := 203) rfl (hb hby d26_185) rfl ((if0 _ _).trans (feq hc185_5).2) (by decide) (by decide) kS) ?_
    show gs s₁ m 203 #[vr a2, vi at1, vi 4, vi 0, vi ((atv cB at1) &&& (255 : Int32)), vi ((atv cB (at1 + (1 : Int32))) &&& (255 : Int32)), vi ((atv cB (at1 + (2 : Int32))) &&& (255 : Int32)), vi ((atv cB (at1 + (3 : Int32))) &&& (255 : Int32))] []
    refine own_st (fun _ kS => X0.ldcInt hx hown (mvT hZ (own_w hw 211 rfl)) (g := (mkF m 203 #[vr a2, vi at1, vi 4, vi 0, vi ((atv cB at1) &&& (255 : Int32)), vi ((atv cB (at1 + (1 : Int32))) &&& (255 : Int32)), vi ((atv cB (at1 + (2 : Int32))) &&& (255 : Int32)), vi ((atv cB (at1 + (3 : Int32))) &&& (255 : Int32))] [])) rfl (hb hby d26_203) _ kS) ?_
    show gs s₁ m 205 #[vr a2, vi at1, vi 4, vi 0, vi ((atv cB at1) &&& (255 : Int32)), vi ((atv cB (at1 + (1 : Int32))) &&& (255 : Int32)), vi ((atv cB (at1 + (2 : Int32))) &&& (255 : Int32)), vi ((atv cB (at1 + (3 : Int32))) &&& (255 : Int32))] [(.int 65533)]
    exact own_retN X0 hx hlk (t := .char) hret (by simp) (hb hby d26_205) (by decide) (by decide) (v' := (65533 : Int32)) rfl (by rw [e0]; exact ⟨(congrArg (fun z => some (Value.int z)) (by rw [own_ex4_0, if_neg hc185_5])), N0, rfl⟩)
theorem ef_unitAt_4_1 (m : MethodId) (x0 : Addr) (x1 : Addr) (x2 : Int32) : entryFrame m #[(.ref x0), (.ref x1), (.int x2)] 5 = mkF m 0 #[.val (.ref x0), .val (.ref x1), .val (.int x2), .unset, .unset] [] := by first | (simp [entryFrame, mkF, argsToLocals, Value.category]; done) | rfl
def Q_unitAt_4_1 (Z : State) (a1 : Addr) (a2 : Addr) (cB : Cell) (at1 : Int32) (h0 : Heap) (n0 : Nat) (v : Option Value) (h : Heap) (L : List Loc) : Prop := v = some (.int (own_un4_1 cB at1)) ∧ Fr n0 L ∧ h = h0
theorem rm_unitAt_4_1 (l : Launch) (Z : State) (a0 : Array Value) (hw : HW a0 Z) (ws : List Jvm.Cond) (a1 : Addr) (a2 : Addr) (cB : Cell) (at1 : Int32) (h0 : Heap) (n0 : Nat) (Z0 : n0 ≤ h0.size) (O0 : Old Z n0 h0) (Fw : fk17 Z Z.heap a1 (.int 4)) (Fl : fk18 Z Z.heap a1 (.int 1)) (Tb : Tab Z h0 a2 cB .byte (8 : Int32)) (hbn : 0 ≤ at1.toInt ∧ at1.toInt < 5) :
    M28 l ws (rmk 0 0 0 0) Z #[(.ref a1), (.ref a2), (.int at1)] h0 (Q_unitAt_4_1 Z a1 a2 cB at1 h0 n0) := by
  refine own_go "com/example/provenir/provenir/TextEncoding" rfl (plainFor_of_name pn_16) (fun m => ef_unitAt_4_1 m a1 a2 at1) (fun p e s m below meth c s₁ hx hby hml hown hnm hlk hret hZ X0 e0 => ?_)
  have N0 := Fr.nil n0
  show gs s₁ m 0 #[vr a1, vr a2, vi at1, .unset, .unset] []
  refine oaloadN X0 hx hby d16_0 rfl rfl ?_
  obtain ⟨T1, X1, e1, st1⟩ := getF X0 hx hZ hown (host := "") (Or.inl (own_w hw 17 rfl)) Via.refl e0 (Fld.ext O0.2 Fw) (g := (mkF m 1 #[vr a1, vr a2, vi at1, .unset, .unset] [(.ref a1)])) rfl rfl (hb hby d16_1)
  refine own_st st1 ?_
  show gs T1 m 4 #[vr a1, vr a2, vi at1, .unset, .unset] [(.int 4)]
  refine oiconst X1 hx hby d16_4 ?_
  refine own_st (fun _ kS => XS.icmpYes X1.here hx rfl (pc0 := 5) (pc' := 19) rfl (hb hby d16_5) rfl (feq (by decide : ¬ ((4 : Int32) = (1 : Int32)))).2 (by decide) (by decide) kS) ?_
  show gs T1 m 19 #[vr a1, vr a2, vi at1, .unset, .unset] []
  refine oiconst X1 hx hby d16_19 ?_
  refine own_st (fun _ kS => XS.istoreN X1.here hx rfl (hb hby d16_20) rfl (l' := #[vr a1, vr a2, vi at1, vi 0, .unset]) rfl kS) ?_
  refine oiconst X1 hx hby d16_21 ?_
  refine own_st (fun _ kS => XS.istore X1.here hx rfl (hb hby d16_22) rfl (l' := #[vr a1, vr a2, vi at1, vi 0, vi 0]) rfl kS) ?_
  refine oiload X1 hx hby d16_24 rfl ?_
  refine oaloadN X1 hx hby d16_26 rfl rfl ?_
  obtain ⟨T2, X2, e2, st2⟩ := getF X1 hx hZ hown (host := "") (Or.inl (own_w hw 17 rfl)) Via.refl e1 (Fld.ext O0.2 Fw) (g := (mkF m 27 #[vr a1, vr a2, vi at1, vi 0, vi 0] [(.ref a1), (.int 0)])) rfl rfl (hb hby d16_27)
  refine own_st st2 ?_
  show gs T2 m 30 #[vr a1, vr a2, vi at1, vi 0, vi 0] [(.int 4), (.int 0)]
  refine own_st (fun _ kS => XS.icmpNo X2.here hx rfl (hb hby d16_30) rfl (tlt (by decide : (0 : Int32) < (4 : Int32))).2.1 kS) ?_
  show gs T2 m 33 #[vr a1, vr a2, vi at1, vi 0, vi 0] []
  refine oiloadN X2 hx hby d16_33 rfl ?_
  refine own_st (fun _ kS => XS.bipush X2.here hx rfl (hb hby d16_34) kS) ?_
  refine own_st (fun _ kS => XT.ishl X2.here hx rfl (hb hby d16_36) rfl kS) ?_
  refine oaloadN X2 hx hby d16_37 rfl rfl ?_
  refine oaloadN X2 hx hby d16_38 rfl rfl ?_
  obtain ⟨T3, X3, e3, st3⟩ := getF X2 hx hZ hown (host := "") (Or.inl (own_w hw 156 rfl)) Via.refl e2 (Fld.ext O0.2 Fl) (g := (mkF m 39 #[vr a1, vr a2, vi at1, vi 0, vi 0] [(.ref a1), (.ref a2), (.int 0)])) rfl rfl (hb hby d16_39)
  refine own_st st3 ?_
  show gs T3 m 42 #[vr a1, vr a2, vi at1, vi 0, vi 0] [(.int 1), (.ref a2), (.int 0)]
  refine own_st (fun _ kS => XS.ifNo X3.here hx rfl (hb hby d16_42) rfl ((if0 _ _).trans (feq (by decide : ¬ ((1 : Int32) = (0 : Int32)))).1) kS) ?_
  show gs T3 m 45 #[vr a1, vr a2, vi at1, vi 0, vi 0] [(.ref a2), (.int 0)]
  refine oiloadN X3 hx hby d16_45 rfl ?_
  refine oaloadN X3 hx hby d16_46 rfl rfl ?_
  obtain ⟨T4, X4, e4, st4⟩ := getF X3 hx hZ hown (host := "") (Or.inl (own_w hw 17 rfl)) Via.refl e3 (Fld.ext O0.2 Fw) (g := (mkF m 47 #[vr a1, vr a2, vi at1, vi 0, vi 0] [(.ref a1), (.int at1), (.ref a2), (.int 0)])) rfl rfl (hb hby d16_47)
  refine own_st st4 ?_
  show gs T4 m 50 #[vr a1, vr a2, vi at1, vi 0, vi 0] [(.int 4), (.int at1), (.ref a2), (.int 0)]
  refine own_st (fun _ kS => XS.iadd X4.here hx rfl (hb hby d16_50) rfl kS) ?_
  refine oiconst X4 hx hby d16_51 ?_
  refine own_st (fun _ kS => XS.isub X4.here hx rfl (hb hby d16_52) rfl kS) ?_
  refine oiload X4 hx hby d16_53 rfl ?_
  refine own_st (fun _ kS => XS.isub X4.here hx rfl (hb hby d16_55) rfl kS) ?_
  refine own_st (fun _ kS => XS.goto X4.here hx rfl (pc0 := 56) (pc' := 63) rfl (hb hby d16_56) (by decide) (by decide) kS) ?_
  show gs T4 m 63 #[vr a1, vr a2, vi at1, vi 0, vi 0] [(.int (((at1 + (4 : Int32)) - (1 : Int32)) - (0 : Int32))), (.ref a2), (.int 0)]
  rw [own_ixL at1 4 0 3 (by decide) (by decide) (by decide)]
  show gs T4 m 63 #[vr a1, vr a2, vi at1, vi 0, vi 0] [(.int (at1 + (3 : Int32))), (.ref a2), (.int 0)]
  have ib5 : ¬ ((at1 + (3 : Int32)) < 0 ∨ cB.slots.size ≤ ((at1 + (3 : Int32))).toNatClampNeg) := inb_of Tb.2.1 (own_inb hbn 3 (by decide))
  refine own_st (fun _ kS => X4.baloadBytes hx (j := (at1 + (3 : Int32))) (v := (.int (atv cB (at1 + (3 : Int32))))) (by rw [e4]; exact Tb.1.1) (State.isArrayOf_alike hZ.alike Tb.1.2.1) Tb.1.2.2 ib5 (Tb.2.2.2 _ ib5) (g := (mkF m 63 #[vr a1, vr a2, vi at1, vi 0, vi 0] [(.int (at1 + (3 : Int32))), (.ref a2), (.int 0)])) rfl rfl (hb hby d16_63) _ kS) ?_
  show gs T4 m 64 #[vr a1, vr a2, vi at1, vi 0, vi 0] [(.int (atv cB (at1 + (3 : Int32)))), (.int 0)]
  refine own_st (fun _ kS => XS.sipush X4.here hx rfl (hb hby d16_64) kS) ?_
  refine own_st (fun _ kS => XS.iand X4.here hx rfl (hb hby d16_67) rfl kS) ?_
  refine own_st (fun _ kS => XT.ior X4.here hx rfl (hb hby d16_68) rfl kS) ?_
  show gs T4 m 69 #[vr a1, vr a2, vi at1, vi 0, vi 0] [(.int ((0 : Int32) ||| ((atv cB (at1 + (3 : Int32))) &&& (255 : Int32))))]
  obtain ⟨v0, hv0⟩ : ∃ z, z = ((0 : Int32) ||| ((atv cB (at1 + (3 : Int32))) &&& (255 : Int32))) := ⟨_, rfl⟩
  rw [← hv0]
  show gs T4 m 69 #[vr a1, vr a2, vi at1, vi 0, vi 0] [(.int v0)]
  refine own_st (fun _ kS => XS.istoreN X4.here hx rfl (hb hby d16_69) rfl (l' := #[vr a1, vr a2, vi at1, vi v0, vi 0]) rfl kS) ?_
  refine own_st (fun _ kS => XS.iinc X4.here hx rfl (hb hby d16_70) rfl (l' := #[vr a1, vr a2, vi at1, vi v0, vi 1]) rfl kS) ?_
  refine own_st (fun _ kS => XS.goto X4.here hx rfl (pc0 := 73) (pc' := 24) rfl (hb hby d16_73) (by decide) (by decide) kS) ?_
  refine oiload X4 hx hby d16_24 rfl ?_
  refine oaloadN X4 hx hby d16_26 rfl rfl ?_
  obtain ⟨T6, X6, e6, st6⟩ := getF X4 hx hZ hown (host := "") (Or.inl (own_w hw 17 rfl)) Via.refl e4 (Fld.ext O0.2 Fw) (g := (mkF m 27 #[vr a1, vr a2, vi at1, vi v0, vi 1] [(.ref a1), (.int 1)])) rfl rfl (hb hby d16_27)
  refine own_st st6 ?_
  show gs T6 m 30 #[vr a1, vr a2, vi at1, vi v0, vi 1] [(.int 4), (.int 1)]
  refine own_st (fun _ kS => XS.icmpNo X6.here hx rfl (hb hby d16_30) rfl (tlt (by decide : (1 : Int32) < (4 : Int32))).2.1 kS) ?_
  show gs T6 m 33 #[vr a1, vr a2, vi at1, vi v0, vi 1] []
  refine oiloadN X6 hx hby d16_33 rfl ?_
  refine own_st (fun _ kS => XS.bipush X6.here hx rfl (hb hby d16_34) kS) ?_
  refine own_st (fun _ kS => XT.ishl X6.here hx rfl (hb hby d16_36) rfl kS) ?_
  refine oaloadN X6 hx hby d16_37 rfl rfl ?_
  refine oaloadN X6 hx hby d16_38 rfl rfl ?_
  obtain ⟨T7, X7, e7, st7⟩ := getF X6 hx hZ hown (host := "") (Or.inl (own_w hw 156 rfl)) Via.refl e6 (Fld.ext O0.2 Fl) (g := (mkF m 39 #[vr a1, vr a2, vi at1, vi v0, vi 1] [(.ref a1), (.ref a2), (.int (v0 <<< ((8 : Int32) &&& 31)))])) rfl rfl (hb hby d16_39)
  refine own_st st7 ?_
  show gs T7 m 42 #[vr a1, vr a2, vi at1, vi v0, vi 1] [(.int 1), (.ref a2), (.int (v0 <<< ((8 : Int32) &&& 31)))]
  refine own_st (fun _ kS => XS.ifNo X7.here hx rfl (hb hby d16_42) rfl ((if0 _ _).trans (feq (by decide : ¬ ((1 : Int32) = (0 : Int32)))).1) kS) ?_
  show gs T7 m 45 #[vr a1, vr a2, vi at1, vi v0, vi 1] [(.ref a2), (.int (v0 <<< ((8 : Int32) &&& 31)))]
  refine oiloadN X7 hx hby d16_45 rfl ?_
  refine oaloadN X7 hx hby d16_46 rfl rfl ?_
  obtain ⟨T8, X8, e8, st8⟩ := getF X7 hx hZ hown (host := "") (Or.inl (own_w hw 17 rfl)) Via.refl e7 (Fld.ext O0.2 Fw) (g := (mkF m 47 #[vr a1, vr a2, vi at1, vi v0, vi 1] [(.ref a1), (.int at1), (.ref a2), (.int (v0 <<< ((8 : Int32) &&& 31)))])) rfl rfl (hb hby d16_47)
  refine own_st st8 ?_
  show gs T8 m 50 #[vr a1, vr a2, vi at1, vi v0, vi 1] [(.int 4), (.int at1), (.ref a2), (.int (v0 <<< ((8 : Int32) &&& 31)))]
  refine own_st (fun _ kS => XS.iadd X8.here hx rfl (hb hby d16_50) rfl kS) ?_
  refine oiconst X8 hx hby d16_51 ?_
  refine own_st (fun _ kS => XS.isub X8.here hx rfl (hb hby d16_52) rfl kS) ?_
  refine oiload X8 hx hby d16_53 rfl ?_
  refine own_st (fun _ kS => XS.isub X8.here hx rfl (hb hby d16_55) rfl kS) ?_
  refine own_st (fun _ kS => XS.goto X8.here hx rfl (pc0 := 56) (pc' := 63) rfl (hb hby d16_56) (by decide) (by decide) kS) ?_
  show gs T8 m 63 #[vr a1, vr a2, vi at1, vi v0, vi 1] [(.int (((at1 + (4 : Int32)) - (1 : Int32)) - (1 : Int32))), (.ref a2), (.int (v0 <<< ((8 : Int32) &&& 31)))]
  rw [own_ixL at1 4 1 2 (by decide) (by decide) (by decide)]
  show gs T8 m 63 #[vr a1, vr a2, vi at1, vi v0, vi 1] [(.int (at1 + (2 : Int32))), (.ref a2), (.int (v0 <<< ((8 : Int32) &&& 31)))]
  have ib9 : ¬ ((at1 + (2 : Int32)) < 0 ∨ cB.slots.size ≤ ((at1 + (2 : Int32))).toNatClampNeg) := inb_of Tb.2.1 (own_inb hbn 2 (by decide))
  refine own_st (fun _ kS => X8.baloadBytes hx (j := (at1 + (2 : Int32))) (v := (.int (atv cB (at1 + (2 : Int32))))) (by rw [e8]; exact Tb.1.1) (State.isArrayOf_alike hZ.alike Tb.1.2.1) Tb.1.2.2 ib9 (Tb.2.2.2 _ ib9) (g := (mkF m 63 #[vr a1, vr a2, vi at1, vi v0, vi 1] [(.int (at1 + (2 : Int32))), (.ref a2), (.int (v0 <<< ((8 : Int32) &&& 31)))])) rfl rfl (hb hby d16_63) _ kS) ?_
  show gs T8 m 64 #[vr a1, vr a2, vi at1, vi v0, vi 1] [(.int (atv cB (at1 + (2 : Int32)))), (.int (v0 <<< ((8 : Int32) &&& 31)))]
  refine own_st (fun _ kS => XS.sipush X8.here hx rfl (hb hby d16_64) kS) ?_
  refine own_st (fun _ kS => XS.iand X8.here hx rfl (hb hby d16_67) rfl kS) ?_
  refine own_st (fun _ kS => XT.ior X8.here hx rfl (hb hby d16_68) rfl kS) ?_
  show gs T8 m 69 #[vr a1, vr a2, vi at1, vi v0, vi 1] [(.int ((v0 <<< ((8 : Int32) &&& 31)) ||| ((atv cB (at1 + (2 : Int32))) &&& (255 : Int32))))]
  obtain ⟨v1, hv1⟩ : ∃ z, z = ((v0 <<< ((8 : Int32) &&& 31)) ||| ((atv cB (at1 + (2 : Int32))) &&& (255 : Int32))) := ⟨_, rfl⟩
  rw [← hv1]
  show gs T8 m 69 #[vr a1, vr a2, vi at1, vi v0, vi 1] [(.int v1)]
  refine own_st (fun _ kS => XS.istoreN X8.here hx rfl (hb hby d16_69) rfl (l' := #[vr a1, vr a2, vi at1, vi v1, vi 1]) rfl kS) ?_
  refine own_st (fun _ kS => XS.iinc X8.here hx rfl (hb hby d16_70) rfl (l' := #[vr a1, vr a2, vi at1, vi v1, vi 2]) rfl kS) ?_
  refine own_st (fun _ kS => XS.goto X8.here hx rfl (pc0 := 73) (pc' := 24) rfl (hb hby d16_73) (by decide) (by decide) kS) ?_
  refine oiload X8 hx hby d16_24 rfl ?_
  refine oaloadN X8 hx hby d16_26 rfl rfl ?_
  obtain ⟨T10, X10, e10, st10⟩ := getF X8 hx hZ hown (host := "") (Or.inl (own_w hw 17 rfl)) Via.refl e8 (Fld.ext O0.2 Fw) (g := (mkF m 27 #[vr a1, vr a2, vi at1, vi v1, vi 2] [(.ref a1), (.int 2)])) rfl rfl (hb hby d16_27)
  refine own_st st10 ?_
  show gs T10 m 30 #[vr a1, vr a2, vi at1, vi v1, vi 2] [(.int 4), (.int 2)]
  refine own_st (fun _ kS => XS.icmpNo X10.here hx rfl (hb hby d16_30) rfl (tlt (by decide : (2 : Int32) < (4 : Int32))).2.1 kS) ?_
  show gs T10 m 33 #[vr a1, vr a2, vi at1, vi v1, vi 2] []
  refine oiloadN X10 hx hby d16_33 rfl ?_
  refine own_st (fun _ kS => XS.bipush X10.here hx rfl (hb hby d16_34) kS) ?_
  refine own_st (fun _ kS => XT.ishl X10.here hx rfl (hb hby d16_36) rfl kS) ?_
  refine oaloadN X10 hx hby d16_37 rfl rfl ?_
  refine oaloadN X10 hx hby d16_38 rfl rfl ?_
  obtain ⟨T11, X11, e11, st11⟩ := getF X10 hx hZ hown (host := "") (Or.inl (own_w hw 156 rfl)) Via.refl e10 (Fld.ext O0.2 Fl) (g := (mkF m 39 #[vr a1, vr a2, vi at1, vi v1, vi 2] [(.ref a1), (.ref a2), (.int (v1 <<< ((8 : Int32) &&& 31)))])) rfl rfl (hb hby d16_39)
  refine own_st st11 ?_
  show gs T11 m 42 #[vr a1, vr a2, vi at1, vi v1, vi 2] [(.int 1), (.ref a2), (.int (v1 <<< ((8 : Int32) &&& 31)))]
  refine own_st (fun _ kS => XS.ifNo X11.here hx rfl (hb hby d16_42) rfl ((if0 _ _).trans (feq (by decide : ¬ ((1 : Int32) = (0 : Int32)))).1) kS) ?_
  show gs T11 m 45 #[vr a1, vr a2, vi at1, vi v1, vi 2] [(.ref a2), (.int (v1 <<< ((8 : Int32) &&& 31)))]
  refine oiloadN X11 hx hby d16_45 rfl ?_
  refine oaloadN X11 hx hby d16_46 rfl rfl ?_
  obtain ⟨T12, X12, e12, st12⟩ := getF X11 hx hZ hown (host := "") (Or.inl (own_w hw 17 rfl)) Via.refl e11 (Fld.ext O0.2 Fw) (g := (mkF m 47 #[vr a1, vr a2, vi at1, vi v1, vi 2] [(.ref a1), (.int at1), (.ref a2), (.int (v1 <<< ((8 : Int32) &&& 31)))])) rfl rfl (hb hby d16_47)
  refine own_st st12 ?_
  show gs T12 m 50 #[vr a1, vr a2, vi at1, vi v1, vi 2] [(.int 4), (.int at1), (.ref a2), (.int (v1 <<< ((8 : Int32) &&& 31)))]
  refine own_st (fun _ kS => XS.iadd X12.here hx rfl (hb hby d16_50) rfl kS) ?_
  refine oiconst X12 hx hby d16_51 ?_
  refine own_st (fun _ kS => XS.isub X12.here hx rfl (hb hby d16_52) rfl kS) ?_
  refine oiload X12 hx hby d16_53 rfl ?_
  refine own_st (fun _ kS => XS.isub X12.here hx rfl (hb hby d16_55) rfl kS) ?_
  refine own_st (fun _ kS => XS.goto X12.here hx rfl (pc0 := 56) (pc' := 63) rfl (hb hby d16_56) (by decide) (by decide) kS) ?_
  show gs T12 m 63 #[vr a1, vr a2, vi at1, vi v1, vi 2] [(.int (((at1 + (4 : Int32)) - (1 : Int32)) - (2 : Int32))), (.ref a2), (.int (v1 <<< ((8 : Int32) &&& 31)))]
  rw [own_ixL at1 4 2 1 (by decide) (by decide) (by decide)]
  show gs T12 m 63 #[vr a1, vr a2, vi at1, vi v1, vi 2] [(.int (at1 + (1 : Int32))), (.ref a2), (.int (v1 <<< ((8 : Int32) &&& 31)))]
  have ib13 : ¬ ((at1 + (1 : Int32)) < 0 ∨ cB.slots.size ≤ ((at1 + (1 : Int32))).toNatClampNeg) := inb_of Tb.2.1 (own_inb hbn 1 (by decide))
  refine own_st (fun _ kS => X12.baloadBytes hx (j := (at1 + (1 : Int32))) (v := (.int (atv cB (at1 + (1 : Int32))))) (by rw [e12]; exact Tb.1.1) (State.isArrayOf_alike hZ.alike Tb.1.2.1) Tb.1.2.2 ib13 (Tb.2.2.2 _ ib13) (g := (mkF m 63 #[vr a1, vr a2, vi at1, vi v1, vi 2] [(.int (at1 + (1 : Int32))), (.ref a2), (.int (v1 <<< ((8 : Int32) &&& 31)))])) rfl rfl (hb hby d16_63) _ kS) ?_
  show gs T12 m 64 #[vr a1, vr a2, vi at1, vi v1, vi 2] [(.int (atv cB (at1 + (1 : Int32)))), (.int (v1 <<< ((8 : Int32) &&& 31)))]
  refine own_st (fun _ kS => XS.sipush X12.here hx rfl (hb hby d16_64) kS) ?_
  refine own_st (fun _ kS => XS.iand X12.here hx rfl (hb hby d16_67) rfl kS) ?_
  refine own_st (fun _ kS => XT.ior X12.here hx rfl (hb hby d16_68) rfl kS) ?_
  show gs T12 m 69 #[vr a1, vr a2, vi at1, vi v1, vi 2] [(.int ((v1 <<< ((8 : Int32) &&& 31)) ||| ((atv cB (at1 + (1 : Int32))) &&& (255 : Int32))))]
  obtain ⟨v2, hv2⟩ : ∃ z, z = ((v1 <<< ((8 : Int32) &&& 31)) ||| ((atv cB (at1 + (1 : Int32))) &&& (255 : Int32))) := ⟨_, rfl⟩
  rw [← hv2]
  show gs T12 m 69 #[vr a1, vr a2, vi at1, vi v1, vi 2] [(.int v2)]
  refine own_st (fun _ kS => XS.istoreN X12.here hx rfl (hb hby d16_69) rfl (l' := #[vr a1, vr a2, vi at1, vi v2, vi 2]) rfl kS) ?_
  refine own_st (fun _ kS => XS.iinc X12.here hx rfl (hb hby d16_70) rfl (l' := #[vr a1, vr a2, vi at1, vi v2, vi 3]) rfl kS) ?_
  refine own_st (fun _ kS => XS.goto X12.here hx rfl (pc0 := 73) (pc' := 24) rfl (hb hby d16_73) (by decide) (by decide) kS) ?_
  refine oiload X12 hx hby d16_24 rfl ?_
  refine oaloadN X12 hx hby d16_26 rfl rfl ?_
  obtain ⟨T14, X14, e14, st14⟩ := getF X12 hx hZ hown (host := "") (Or.inl (own_w hw 17 rfl)) Via.refl e12 (Fld.ext O0.2 Fw) (g := (mkF m 27 #[vr a1, vr a2, vi at1, vi v2, vi 3] [(.ref a1), (.int 3)])) rfl rfl (hb hby d16_27)
  refine own_st st14 ?_
  show gs T14 m 30 #[vr a1, vr a2, vi at1, vi v2, vi 3] [(.int 4), (.int 3)]
  refine own_st (fun _ kS => XS.icmpNo X14.here hx rfl (hb hby d16_30) rfl (tlt (by decide : (3 : Int32) < (4 : Int32))).2.1 kS) ?_
  show gs T14 m 33 #[vr a1, vr a2, vi at1, vi v2, vi 3] []
  refine oiloadN X14 hx hby d16_33 rfl ?_
  refine own_st (fun _ kS => XS.bipush X14.here hx rfl (hb hby d16_34) kS) ?_
  refine own_st (fun _ kS => XT.ishl X14.here hx rfl (hb hby d16_36) rfl kS) ?_
  refine oaloadN X14 hx hby d16_37 rfl rfl ?_
  refine oaloadN X14 hx hby d16_38 rfl rfl ?_
  obtain ⟨T15, X15, e15, st15⟩ := getF X14 hx hZ hown (host := "") (Or.inl (own_w hw 156 rfl)) Via.refl e14 (Fld.ext O0.2 Fl) (g := (mkF m 39 #[vr a1, vr a2, vi at1, vi v2, vi 3] [(.ref a1), (.ref a2), (.int (v2 <<< ((8 : Int32) &&& 31)))])) rfl rfl (hb hby d16_39)
  refine own_st st15 ?_
  show gs T15 m 42 #[vr a1, vr a2, vi at1, vi v2, vi 3] [(.int 1), (.ref a2), (.int (v2 <<< ((8 : Int32) &&& 31)))]
  refine own_st (fun _ kS => XS.ifNo X15.here hx rfl (hb hby d16_42) rfl ((if0 _ _).trans (feq (by decide : ¬ ((1 : Int32) = (0 : Int32)))).1) kS) ?_
  show gs T15 m 45 #[vr a1, vr a2, vi at1, vi v2, vi 3] [(.ref a2), (.int (v2 <<< ((8 : Int32) &&& 31)))]
  refine oiloadN X15 hx hby d16_45 rfl ?_
  refine oaloadN X15 hx hby d16_46 rfl rfl ?_
  obtain ⟨T16, X16, e16, st16⟩ := getF X15 hx hZ hown (host := "") (Or.inl (own_w hw 17 rfl)) Via.refl e15 (Fld.ext O0.2 Fw) (g := (mkF m 47 #[vr a1, vr a2, vi at1, vi v2, vi 3] [(.ref a1), (.int at1), (.ref a2), (.int (v2 <<< ((8 : Int32) &&& 31)))])) rfl rfl (hb hby d16_47)
  refine own_st st16 ?_
  show gs T16 m 50 #[vr a1, vr a2, vi at1, vi v2, vi 3] [(.int 4), (.int at1), (.ref a2), (.int (v2 <<< ((8 : Int32) &&& 31)))]
  refine own_st (fun _ kS => XS.iadd X16.here hx rfl (hb hby d16_50) rfl kS) ?_
  refine oiconst X16 hx hby d16_51 ?_
  refine own_st (fun _ kS => XS.isub X16.here hx rfl (hb hby d16_52) rfl kS) ?_
  refine oiload X16 hx hby d16_53 rfl ?_
  refine own_st (fun _ kS => XS.isub X16.here hx rfl (hb hby d16_55) rfl kS) ?_
  refine own_st (fun _ kS => XS.goto X16.here hx rfl (pc0 := 56) (pc' := 63) rfl (hb hby d16_56) (by decide) (by decide) kS) ?_
  show gs T16 m 63 #[vr a1, vr a2, vi at1, vi v2, vi 3] [(.int (((at1 + (4 : Int32)) - (1 : Int32)) - (3 : Int32))), (.ref a2), (.int (v2 <<< ((8 : Int32) &&& 31)))]
  rw [own_ixL at1 4 3 0 (by decide) (by decide) (by decide)]
  rw [own_add0 at1]
  show gs T16 m 63 #[vr a1, vr a2, vi at1, vi v2, vi 3] [(.int at1), (.ref a2), (.int (v2 <<< ((8 : Int32) &&& 31)))]
  have ib17 : ¬ (at1 < 0 ∨ cB.slots.size ≤ (at1).toNatClampNeg) := inb_of Tb.2.1 (own_inb0 hbn (by decide))
  refine own_st (fun _ kS => X16.baloadBytes hx (j := at1) (v := (.int (atv cB at1))) (by rw [e16]; exact Tb.1.1) (State.isArrayOf_alike hZ.alike Tb.1.2.1) Tb.1.2.2 ib17 (Tb.2.2.2 _ ib17) (g := (mkF m 63 #[vr a1, vr a2, vi at1, vi v2, vi 3] [(.int at1), (.ref a2), (.int (v2 <<< ((8 : Int32) &&& 31)))])) rfl rfl (hb hby d16_63) _ kS) ?_
  show gs T16 m 64 #[vr a1, vr a2, vi at1, vi v2, vi 3] [(.int (atv cB at1)), (.int (v2 <<< ((8 : Int32) &&& 31)))]
  refine own_st (fun _ kS => XS.sipush X16.here hx rfl (hb hby d16_64) kS) ?_
  refine own_st (fun _ kS => XS.iand X16.here hx rfl (hb hby d16_67) rfl kS) ?_
  refine own_st (fun _ kS => XT.ior X16.here hx rfl (hb hby d16_68) rfl kS) ?_
  show gs T16 m 69 #[vr a1, vr a2, vi at1, vi v2, vi 3] [(.int ((v2 <<< ((8 : Int32) &&& 31)) ||| ((atv cB at1) &&& (255 : Int32))))]
  obtain ⟨v3, hv3⟩ : ∃ z, z = ((v2 <<< ((8 : Int32) &&& 31)) ||| ((atv cB at1) &&& (255 : Int32))) := ⟨_, rfl⟩
  rw [← hv3]
  show gs T16 m 69 #[vr a1, vr a2, vi at1, vi v2, vi 3] [(.int v3)]
  refine own_st (fun _ kS => XS.istoreN X16.here hx rfl (hb hby d16_69) rfl (l' := #[vr a1, vr a2, vi at1, vi v3, vi 3]) rfl kS) ?_
  refine own_st (fun _ kS => XS.iinc X16.here hx rfl (hb hby d16_70) rfl (l' := #[vr a1, vr a2, vi at1, vi v3, vi 4]) rfl kS) ?_
  refine own_st (fun _ kS => XS.goto X16.here hx rfl (pc0 := 73) (pc' := 24) rfl (hb hby d16_73) (by decide) (by decide) kS) ?_
  refine oiload X16 hx hby d16_24 rfl ?_
  refine oaloadN X16 hx hby d16_26 rfl rfl ?_
  obtain ⟨T18, X18, e18, st18⟩ := getF X16 hx hZ hown (host := "") (Or.inl (own_w hw 17 rfl)) Via.refl e16 (Fld.ext O0.2 Fw) (g := (mkF m 27 #[vr a1, vr a2, vi at1, vi v3, vi 4] [(.ref a1), (.int 4)])) rfl rfl (hb hby d16_27)
  refine own_st st18 ?_
  show gs T18 m 30 #[vr a1, vr a2, vi at1, vi v3, vi 4] [(.int 4), (.int 4)]
  refine own_st (fun _ kS => XS.icmpYes X18.here hx rfl (pc0 := 30) (pc' := 76) rfl (hb hby d16_30) rfl (flt (by decide : ¬ ((4 : Int32) < (4 : Int32)))).2.1 (by decide) (by decide) kS) ?_
  show gs T18 m 76 #[vr a1, vr a2, vi at1, vi v3, vi 4] []
  refine oiloadN X18 hx hby d16_76 rfl ?_
  exact own_retI X18 hx hlk hret (hb hby d16_77) (by decide) (by decide) (by rw [e18]; exact ⟨(by rw [hv3, hv2, hv1, hv0]; rfl), N0, rfl⟩)
theorem ef_expected_4_1 (m : MethodId) (x0 : Addr) (x1 : Int32) : entryFrame m #[(.ref x0), (.int x1), (.int 4), (.int 1)] 8 = mkF m 0 #[.val (.ref x0), .val (.int x1), .val (.int 4), .val (.int 1), .unset, .unset, .unset, .unset] [] := by first | (simp [entryFrame, mkF, argsToLocals, Value.category]; done) | rfl
def Q_expected_4_1 (Z : State) (a2 : Addr) (cB : Cell) (at1 : Int32) (h0 : Heap) (n0 : Nat) (v : Option Value) (h : Heap) (L : List Loc) : Prop := v = some (.int (own_ex4_1 cB at1)) ∧ Fr n0 L ∧ h = h0
theorem rm_expected_4_1 (l : Launch) (Z : State) (a0 : Array Value) (hw : HW a0 Z) (ws : List Jvm.Cond) (a2 : Addr) (cB : Cell) (at1 : Int32) (h0 : Heap) (n0 : Nat) (Z0 : n0 ≤ h0.size) (Tb : Tab Z h0 a2 cB .byte (8 : Int32)) (hbn : 0 ≤ at1.toInt ∧ at1.toInt < 5) :
    M29 l ws (rmk 0 0 0 0) Z #[(.ref a2), (.int at1), (.int 4), (.int 1)] h0 (Q_expected_4_1 Z a2 cB at1 h0 n0) := by
  refine own_go "com/example/provenir/provenir/TextEncodingDecodePinLaw" rfl (plainFor_of_name pn_26) (fun m => ef_expected_4_1 m a2 at1) (fun p e s m below meth c s₁ hx hby hml hown hnm hlk hret hZ X0 e0 => ?_)
  have N0 := Fr.nil n0
  show gs s₁ m 0 #[vr a2, vi at1, vi 4, vi 1, .unset, .unset, .unset, .unset] []
  refine oiloadN X0 hx hby d26_0 rfl ?_
  refine oiconst X0 hx hby d26_1 ?_
  refine own_st (fun _ kS => XS.icmpYes X0.here hx rfl (pc0 := 2) (pc' := 14) rfl (hb hby d26_2) rfl (feq (by decide : ¬ ((4 : Int32) = (1 : Int32)))).2 (by decide) (by decide) kS) ?_
  show gs s₁ m 14 #[vr a2, vi at1, vi 4, vi 1, .unset, .unset, .unset, .unset] []
  refine oiloadN X0 hx hby d26_14 rfl ?_
  refine oiconst X0 hx hby d26_15 ?_
  refine own_st (fun _ kS => XS.icmpYes X0.here hx rfl (pc0 := 16) (pc' := 79) rfl (hb hby d26_16) rfl (feq (by decide : ¬ ((4 : Int32) = (2 : Int32)))).2 (by decide) (by decide) kS) ?_
  show gs s₁ m 79 #[vr a2, vi at1, vi 4, vi 1, .unset, .unset, .unset, .unset] []
  refine oiloadN X0 hx hby d26_79 rfl ?_
  refine own_st (fun _ kS => XS.ifNo X0.here hx rfl (hb hby d26_80) rfl ((if0 _ _).trans (feq (by decide : ¬ ((1 : Int32) = (0 : Int32)))).1) kS) ?_
  show gs s₁ m 83 #[vr a2, vi at1, vi 4, vi 1, .unset, .unset, .unset, .unset] []
  refine oaloadN X0 hx hby d26_83 rfl rfl ?_
  refine oiloadN X0 hx hby d26_84 rfl ?_
  refine oiconst X0 hx hby d26_85 ?_
  refine own_st (fun _ kS => XS.iadd X0.here hx rfl (hb hby d26_86) rfl kS) ?_
  show gs s₁ m 87 #[vr a2, vi at1, vi 4, vi 1, .unset, .unset, .unset, .unset] [(.int (at1 + (3 : Int32))), (.ref a2)]
  have ib1 : ¬ ((at1 + (3 : Int32)) < 0 ∨ cB.slots.size ≤ ((at1 + (3 : Int32))).toNatClampNeg) := inb_of Tb.2.1 (own_inb hbn 3 (by decide))
  refine own_st (fun _ kS => X0.baloadBytes hx (j := (at1 + (3 : Int32))) (v := (.int (atv cB (at1 + (3 : Int32))))) (by rw [e0]; exact Tb.1.1) (State.isArrayOf_alike hZ.alike Tb.1.2.1) Tb.1.2.2 ib1 (Tb.2.2.2 _ ib1) (g := (mkF m 87 #[vr a2, vi at1, vi 4, vi 1, .unset, .unset, .unset, .unset] [(.int (at1 + (3 : Int32))), (.ref a2)])) rfl rfl (hb hby d26_87) _ kS) ?_
  show gs s₁ m 88 #[vr a2, vi at1, vi 4, vi 1, .unset, .unset, .unset, .unset] [(.int (atv cB (at1 + (3 : Int32))))]
  refine own_st (fun _ kS => XS.sipush X0.here hx rfl (hb hby d26_88) kS) ?_
  refine own_st (fun _ kS => XS.iand X0.here hx rfl (hb hby d26_91) rfl kS) ?_
  refine own_st (fun _ kS => XS.goto X0.here hx rfl (pc0 := 92) (pc' := 102) rfl (hb hby d26_92) (by decide) (by decide) kS) ?_
  refine own_st (fun _ kS => XS.istore X0.here hx rfl (hb hby d26_102) rfl (l' := #[vr a2, vi at1, vi 4, vi 1, vi ((atv cB (at1 + (3 : Int32))) &&& (255 : Int32)), .unset, .unset, .unset]) rfl kS) ?_
  refine oiloadN X0 hx hby d26_104 rfl ?_
  refine own_st (fun _ kS => XS.ifNo X0.here hx rfl (hb hby d26_105) rfl ((if0 _ _).trans (feq (by decide : ¬ ((1 : Int32) = (0 : Int32)))).1) kS) ?_
  show gs s₁ m 108 #[vr a2, vi at1, vi 4, vi 1, vi ((atv cB (at1 + (3 : Int32))) &&& (255 : Int32)), .unset, .unset, .unset] []
  refine oaloadN X0 hx hby d26_108 rfl rfl ?_
  refine oiloadN X0 hx hby d26_109 rfl ?_
  refine oiconst X0 hx hby d26_110 ?_
  refine own_st (fun _ kS => XS.iadd X0.here hx rfl (hb hby d26_111) rfl kS) ?_
  show gs s₁ m 112 #[vr a2, vi at1, vi 4, vi 1, vi ((atv cB (at1 + (3 : Int32))) &&& (255 : Int32)), .unset, .unset, .unset] [(.int (at1 + (2 : Int32))), (.ref a2)]
  have ib2 : ¬ ((at1 + (2 : Int32)) < 0 ∨ cB.slots.size ≤ ((at1 + (2 : Int32))).toNatClampNeg) := inb_of Tb.2.1 (own_inb hbn 2 (by decide))
  refine own_st (fun _ kS => X0.baloadBytes hx (j := (at1 + (2 : Int32))) (v := (.int (atv cB (at1 + (2 : Int32))))) (by rw [e0]; exact Tb.1.1) (State.isArrayOf_alike hZ.alike Tb.1.2.1) Tb.1.2.2 ib2 (Tb.2.2.2 _ ib2) (g := (mkF m 112 #[vr a2, vi at1, vi 4, vi 1, vi ((atv cB (at1 + (3 : Int32))) &&& (255 : Int32)), .unset, .unset, .unset] [(.int (at1 + (2 : Int32))), (.ref a2)])) rfl rfl (hb hby d26_112) _ kS) ?_
  show gs s₁ m 113 #[vr a2, vi at1, vi 4, vi 1, vi ((atv cB (at1 + (3 : Int32))) &&& (255 : Int32)), .unset, .unset, .unset] [(.int (atv cB (at1 + (2 : Int32))))]
  refine own_st (fun _ kS => XS.sipush X0.here hx rfl (hb hby d26_113) kS) ?_
  refine own_st (fun _ kS => XS.iand X0.here hx rfl (hb hby d26_116) rfl kS) ?_
  refine own_st (fun _ kS => XS.goto X0.here hx rfl (pc0 := 117) (pc' := 129) rfl (hb hby d26_117) (by decide) (by decide) kS) ?_
  refine own_st (fun _ kS => XS.istore X0.here hx rfl (hb hby d26_129) rfl (l' := #[vr a2, vi at1, vi 4, vi 1, vi ((atv cB (at1 + (3 : Int32))) &&& (255 : Int32)), vi ((atv cB (at1 + (2 : Int32))) &&& (255 : Int32)), .unset, .unset]) rfl kS) ?_
  refine oiloadN X0 hx hby d26_131 rfl ?_
  refine own_st (fun _ kS => XS.ifNo X0.here hx rfl (hb hby d26_132) rfl ((if0 _ _).trans (feq (by decide : ¬ ((1 : Int32) = (0 : Int32)))).1) kS) ?_
  show gs s₁ m 135 #[vr a2, vi at1, vi 4, vi 1, vi ((atv cB (at1 + (3 : Int32))) &&& (255 : Int32)), vi ((atv cB (at1 + (2 : Int32))) &&& (255 : Int32)), .unset, .unset] []
  refine oaloadN X0 hx hby d26_135 rfl rfl ?_
  refine oiloadN X0 hx hby d26_136 rfl ?_
  refine oiconst X0 hx hby d26_137 ?_
  refine own_st (fun _ kS => XS.iadd X0.here hx rfl (hb hby d26_138) rfl kS) ?_
  show gs s₁ m 139 #[vr a2, vi at1, vi 4, vi 1, vi ((atv cB (at1 + (3 : Int32))) &&& (255 : Int32)), vi ((atv cB (at1 + (2 : Int32))) &&& (255 : Int32)), .unset, .unset] [(.int (at1 + (1 : Int32))), (.ref a2)]
  have ib3 : ¬ ((at1 + (1 : Int32)) < 0 ∨ cB.slots.size ≤ ((at1 + (1 : Int32))).toNatClampNeg) := inb_of Tb.2.1 (own_inb hbn 1 (by decide))
  refine own_st (fun _ kS => X0.baloadBytes hx (j := (at1 + (1 : Int32))) (v := (.int (atv cB (at1 + (1 : Int32))))) (by rw [e0]; exact Tb.1.1) (State.isArrayOf_alike hZ.alike Tb.1.2.1) Tb.1.2.2 ib3 (Tb.2.2.2 _ ib3) (g := (mkF m 139 #[vr a2, vi at1, vi 4, vi 1, vi ((atv cB (at1 + (3 : Int32))) &&& (255 : Int32)), vi ((atv cB (at1 + (2 : Int32))) &&& (255 : Int32)), .unset, .unset] [(.int (at1 + (1 : Int32))), (.ref a2)])) rfl rfl (hb hby d26_139) _ kS) ?_
  show gs s₁ m 140 #[vr a2, vi at1, vi 4, vi 1, vi ((atv cB (at1 + (3 : Int32))) &&& (255 : Int32)), vi ((atv cB (at1 + (2 : Int32))) &&& (255 : Int32)), .unset, .unset] [(.int (atv cB (at1 + (1 : Int32))))]
  refine own_st (fun _ kS => XS.sipush X0.here hx rfl (hb hby d26_140) kS) ?_
  refine own_st (fun _ kS => XS.iand X0.here hx rfl (hb hby d26_143) rfl kS) ?_
  refine own_st (fun _ kS => XS.goto X0.here hx rfl (pc0 := 144) (pc' := 156) rfl (hb hby d26_144) (by decide) (by decide) kS) ?_
  refine own_st (fun _ kS => XS.istore X0.here hx rfl (hb hby d26_156) rfl (l' := #[vr a2, vi at1, vi 4, vi 1, vi ((atv cB (at1 + (3 : Int32))) &&& (255 : Int32)), vi ((atv cB (at1 + (2 : Int32))) &&& (255 : Int32)), vi ((atv cB (at1 + (1 : Int32))) &&& (255 : Int32)), .unset]) rfl kS) ?_
  refine oiloadN X0 hx hby d26_158 rfl ?_
  refine own_st (fun _ kS => XS.ifNo X0.here hx rfl (hb hby d26_159) rfl ((if0 _ _).trans (feq (by decide : ¬ ((1 : Int32) = (0 : Int32)))).1) kS) ?_
  show gs s₁ m 162 #[vr a2, vi at1, vi 4, vi 1, vi ((atv cB (at1 + (3 : Int32))) &&& (255 : Int32)), vi ((atv cB (at1 + (2 : Int32))) &&& (255 : Int32)), vi ((atv cB (at1 + (1 : Int32))) &&& (255 : Int32)), .unset] []
  refine oaloadN X0 hx hby d26_162 rfl rfl ?_
  refine oiloadN X0 hx hby d26_163 rfl ?_
  show gs s₁ m 164 #[vr a2, vi at1, vi 4, vi 1, vi ((atv cB (at1 + (3 : Int32))) &&& (255 : Int32)), vi ((atv cB (at1 + (2 : Int32))) &&& (255 : Int32)), vi ((atv cB (at1 + (1 : Int32))) &&& (255 : Int32)), .unset] [(.int at1), (.ref a2)]
  have ib4 : ¬ (at1 < 0 ∨ cB.slots.size ≤ (at1).toNatClampNeg) := inb_of Tb.2.1 (own_inb0 hbn (by decide))
  refine own_st (fun _ kS => X0.baloadBytes hx (j := at1) (v := (.int (atv cB at1))) (by rw [e0]; exact Tb.1.1) (State.isArrayOf_alike hZ.alike Tb.1.2.1) Tb.1.2.2 ib4 (Tb.2.2.2 _ ib4) (g := (mkF m 164 #[vr a2, vi at1, vi 4, vi 1, vi ((atv cB (at1 + (3 : Int32))) &&& (255 : Int32)), vi ((atv cB (at1 + (2 : Int32))) &&& (255 : Int32)), vi ((atv cB (at1 + (1 : Int32))) &&& (255 : Int32)), .unset] [(.int at1), (.ref a2)])) rfl rfl (hb hby d26_164) _ kS) ?_
  show gs s₁ m 165 #[vr a2, vi at1, vi 4, vi 1, vi ((atv cB (at1 + (3 : Int32))) &&& (255 : Int32)), vi ((atv cB (at1 + (2 : Int32))) &&& (255 : Int32)), vi ((atv cB (at1 + (1 : Int32))) &&& (255 : Int32)), .unset] [(.int (atv cB at1))]
  refine own_st (fun _ kS => XS.sipush X0.here hx rfl (hb hby d26_165) kS) ?_
  refine own_st (fun _ kS => XS.iand X0.here hx rfl (hb hby d26_168) rfl kS) ?_
  refine own_st (fun _ kS => XS.goto X0.here hx rfl (pc0 := 169) (pc' := 181) rfl (hb hby d26_169) (by decide) (by decide) kS) ?_
  refine own_st (fun _ kS => XS.istore X0.here hx rfl (hb hby d26_181) rfl (l' := #[vr a2, vi at1, vi 4, vi 1, vi ((atv cB (at1 + (3 : Int32))) &&& (255 : Int32)), vi ((atv cB (at1 + (2 : Int32))) &&& (255 : Int32)), vi ((atv cB (at1 + (1 : Int32))) &&& (255 : Int32)), vi ((atv cB at1) &&& (255 : Int32))]) rfl kS) ?_
  refine oiload X0 hx hby d26_183 rfl ?_
  show gs s₁ m 185 #[vr a2, vi at1, vi 4, vi 1, vi ((atv cB (at1 + (3 : Int32))) &&& (255 : Int32)), vi ((atv cB (at1 + (2 : Int32))) &&& (255 : Int32)), vi ((atv cB (at1 + (1 : Int32))) &&& (255 : Int32)), vi ((atv cB at1) &&& (255 : Int32))] [(.int ((atv cB (at1 + (3 : Int32))) &&& (255 : Int32)))]
  by_cases hc185_5 : ((atv cB (at1 + (3 : Int32))) &&& (255 : Int32)) = (0 : Int32)
  · skip
    refine own_st (fun _ kS => XS.ifNo X0.here hx rfl (hb hby d26_185) rfl ((if0 _ _).trans (teq hc185_5).2) kS) ?_
    show gs s₁ m 188 #[vr a2, vi at1, vi 4, vi 1, vi ((atv cB (at1 + (3 : Int32))) &&& (255 : Int32)), vi ((atv cB (at1 + (2 : Int32))) &&& (255 : Int32)), vi ((atv cB (at1 + (1 : Int32))) &&& (255 : Int32)), vi ((atv cB at1) &&& (255 : Int32))] []
    refine oiload X0 hx hby d26_188 rfl ?_
    show gs s₁ m 190 #[vr a2, vi at1, vi 4, vi 1, vi ((atv cB (at1 + (3 : Int32))) &&& (255 : Int32)), vi ((atv cB (at1 + (2 : Int32))) &&& (255 : Int32)), vi ((atv cB (at1 + (1 : Int32))) &&& (255 : Int32)), vi ((atv cB at1) &&& (255 : Int32))] [(.int ((atv cB (at1 + (2 : Int32))) &&& (255 : Int32)))]
    by_cases hc190_6 : ((atv cB (at1 + (2 : Int32))) &&& (255 : Int32)) = (0 : Int32)
    · skip
      refine own_st (fun _ kS => XS.ifNo X0.here hx rfl (hb hby d26_190) rfl ((if0 _ _).trans (teq hc190_6).2) kS) ?_
      show gs s₁ m 193 #[vr a2, vi at1, vi 4, vi 1, vi ((atv cB (at1 + (3 : Int32))) &&& (255 : Int32)), vi ((atv cB (at1 + (2 : Int32))) &&& (255 : Int32)), vi ((atv cB (at1 + (1 : Int32))) &&& (255 : Int32)), vi ((atv cB at1) &&& (255 : Int32))] []
      refine oiload X0 hx hby d26_193 rfl ?_
      refine own_st (fun _ kS => XS.bipush X0.here hx rfl (hb hby d26_195) kS) ?_
      refine own_st (fun _ kS => XT.ishl X0.here hx rfl (hb hby d26_197) rfl kS) ?_
      refine oiload X0 hx hby d26_198 rfl ?_
      refine own_st (fun _ kS => XT.ior X0.here hx rfl (hb hby d26_200) rfl kS) ?_
      refine own_st (fun _ kS => XT.i2c X0.here hx rfl (hb hby d26_201) rfl kS) ?_
      show gs s₁ m 202 #[vr a2, vi at1, vi 4, vi 1, vi ((atv cB (at1 + (3 : Int32))) &&& (255 : Int32)), vi ((atv cB (at1 + (2 : Int32))) &&& (255 : Int32)), vi ((atv cB (at1 + (1 : Int32))) &&& (255 : Int32)), vi ((atv cB at1) &&& (255 : Int32))] [(.int (((((atv cB (at1 + (1 : Int32))) &&& (255 : Int32)) <<< ((8 : Int32) &&& 31)) ||| ((atv cB at1) &&& (255 : Int32))).toUInt32.toUInt16.toUInt32.toInt32))]
      exact own_retN X0 hx hlk (t := .char) hret (by simp) (hb hby d26_202) (by decide) (by decide) (v' := (nar .char (((((atv cB (at1 + (1 : Int32))) &&& (255 : Int32)) <<< ((8 : Int32) &&& 31)) ||| ((atv cB at1) &&& (255 : Int32))).toUInt32.toUInt16.toUInt32.toInt32))) rfl (by rw [e0]; exact ⟨(congrArg (fun z => some (Value.int z)) (by rw [own_ex4_1, if_pos hc185_5, if_pos hc190_6])), N0, rfl⟩)
    · skip
      refine own_st (fun _ kS => XS.ifYes X0.here hx rfl (pc0 := 190) (pc' := 203) rfl (hb hby d26_190) rfl ((if0 _ _).trans (feq hc190_6).2) (by decide) (by decide) kS) ?_
      show gs s₁ m 203 #[vr a2, vi at1, vi 4, vi 1, vi ((atv cB (at1 + (3 : Int32))) &&& (255 : Int32)), vi ((atv cB (at1 + (2 : Int32))) &&& (255 : Int32)), vi ((atv cB (at1 + (1 : Int32))) &&& (255 : Int32)), vi ((atv cB at1) &&& (255 : Int32))] []
      refine own_st (fun _ kS => X0.ldcInt hx hown (mvT hZ (own_w hw 211 rfl)) (g := (mkF m 203 #[vr a2, vi at1, vi 4, vi 1, vi ((atv cB (at1 + (3 : Int32))) &&& (255 : Int32)), vi ((atv cB (at1 + (2 : Int32))) &&& (255 : Int32)), vi ((atv cB (at1 + (1 : Int32))) &&& (255 : Int32)), vi ((atv cB at1) &&& (255 : Int32))] [])) rfl (hb hby d26_203) _ kS) ?_
      show gs s₁ m 205 #[vr a2, vi at1, vi 4, vi 1, vi ((atv cB (at1 + (3 : Int32))) &&& (255 : Int32)), vi ((atv cB (at1 + (2 : Int32))) &&& (255 : Int32)), vi ((atv cB (at1 + (1 : Int32))) &&& (255 : Int32)), vi ((atv cB at1) &&& (255 : Int32))] [(.int 65533)]
      exact own_retN X0 hx hlk (t := .char) hret (by simp) (hb hby d26_205) (by decide) (by decide) (v' := (65533 : Int32)) rfl (by rw [e0]; exact ⟨(congrArg (fun z => some (Value.int z)) (by rw [own_ex4_1, if_pos hc185_5, if_neg hc190_6])), N0, rfl⟩)
  · skip
    refine own_st (fun _ kS => XS.ifYes X0.here hx rfl (pc0 := 185) (pc' := 203) rfl (hb hby d26_185) rfl ((if0 _ _).trans (feq hc185_5).2) (by decide) (by decide) kS) ?_
    show gs s₁ m 203 #[vr a2, vi at1, vi 4, vi 1, vi ((atv cB (at1 + (3 : Int32))) &&& (255 : Int32)), vi ((atv cB (at1 + (2 : Int32))) &&& (255 : Int32)), vi ((atv cB (at1 + (1 : Int32))) &&& (255 : Int32)), vi ((atv cB at1) &&& (255 : Int32))] []
    refine own_st (fun _ kS => X0.ldcInt hx hown (mvT hZ (own_w hw 211 rfl)) (g := (mkF m 203 #[vr a2, vi at1, vi 4, vi 1, vi ((atv cB (at1 + (3 : Int32))) &&& (255 : Int32)), vi ((atv cB (at1 + (2 : Int32))) &&& (255 : Int32)), vi ((atv cB (at1 + (1 : Int32))) &&& (255 : Int32)), vi ((atv cB at1) &&& (255 : Int32))] [])) rfl (hb hby d26_203) _ kS) ?_
    show gs s₁ m 205 #[vr a2, vi at1, vi 4, vi 1, vi ((atv cB (at1 + (3 : Int32))) &&& (255 : Int32)), vi ((atv cB (at1 + (2 : Int32))) &&& (255 : Int32)), vi ((atv cB (at1 + (1 : Int32))) &&& (255 : Int32)), vi ((atv cB at1) &&& (255 : Int32))] [(.int 65533)]
    exact own_retN X0 hx hlk (t := .char) hret (by simp) (hb hby d26_205) (by decide) (by decide) (v' := (65533 : Int32)) rfl (by rw [e0]; exact ⟨(congrArg (fun z => some (Value.int z)) (by rw [own_ex4_1, if_neg hc185_5])), N0, rfl⟩)
theorem ef_unitAt_2_0 (m : MethodId) (x0 : Addr) (x1 : Addr) (x2 : Int32) : entryFrame m #[(.ref x0), (.ref x1), (.int x2)] 5 = mkF m 0 #[.val (.ref x0), .val (.ref x1), .val (.int x2), .unset, .unset] [] := by first | (simp [entryFrame, mkF, argsToLocals, Value.category]; done) | rfl
def Q_unitAt_2_0 (Z : State) (a1 : Addr) (a2 : Addr) (cB : Cell) (at1 : Int32) (h0 : Heap) (n0 : Nat) (v : Option Value) (h : Heap) (L : List Loc) : Prop := v = some (.int (own_un2_0 cB at1)) ∧ Fr n0 L ∧ h = h0
theorem rm_unitAt_2_0 (l : Launch) (Z : State) (a0 : Array Value) (hw : HW a0 Z) (ws : List Jvm.Cond) (a1 : Addr) (a2 : Addr) (cB : Cell) (at1 : Int32) (h0 : Heap) (n0 : Nat) (Z0 : n0 ≤ h0.size) (O0 : Old Z n0 h0) (Fw : fk17 Z Z.heap a1 (.int 2)) (Fl : fk18 Z Z.heap a1 (.int 0)) (Tb : Tab Z h0 a2 cB .byte (8 : Int32)) (hbn : 0 ≤ at1.toInt ∧ at1.toInt < 7) :
    M28 l ws (rmk 0 0 0 0) Z #[(.ref a1), (.ref a2), (.int at1)] h0 (Q_unitAt_2_0 Z a1 a2 cB at1 h0 n0) := by
  refine own_go "com/example/provenir/provenir/TextEncoding" rfl (plainFor_of_name pn_16) (fun m => ef_unitAt_2_0 m a1 a2 at1) (fun p e s m below meth c s₁ hx hby hml hown hnm hlk hret hZ X0 e0 => ?_)
  have N0 := Fr.nil n0
  show gs s₁ m 0 #[vr a1, vr a2, vi at1, .unset, .unset] []
  refine oaloadN X0 hx hby d16_0 rfl rfl ?_
  obtain ⟨T1, X1, e1, st1⟩ := getF X0 hx hZ hown (host := "") (Or.inl (own_w hw 17 rfl)) Via.refl e0 (Fld.ext O0.2 Fw) (g := (mkF m 1 #[vr a1, vr a2, vi at1, .unset, .unset] [(.ref a1)])) rfl rfl (hb hby d16_1)
  refine own_st st1 ?_
  show gs T1 m 4 #[vr a1, vr a2, vi at1, .unset, .unset] [(.int 2)]
  refine oiconst X1 hx hby d16_4 ?_
  refine own_st (fun _ kS => XS.icmpYes X1.here hx rfl (pc0 := 5) (pc' := 19) rfl (hb hby d16_5) rfl (feq (by decide : ¬ ((2 : Int32) = (1 : Int32)))).2 (by decide) (by decide) kS) ?_
  show gs T1 m 19 #[vr a1, vr a2, vi at1, .unset, .unset] []
  refine oiconst X1 hx hby d16_19 ?_
  refine own_st (fun _ kS => XS.istoreN X1.here hx rfl (hb hby d16_20) rfl (l' := #[vr a1, vr a2, vi at1, vi 0, .unset]) rfl kS) ?_
  refine oiconst X1 hx hby d16_21 ?_
  refine own_st (fun _ kS => XS.istore X1.here hx rfl (hb hby d16_22) rfl (l' := #[vr a1, vr a2, vi at1, vi 0, vi 0]) rfl kS) ?_
  refine oiload X1 hx hby d16_24 rfl ?_
  refine oaloadN X1 hx hby d16_26 rfl rfl ?_
  obtain ⟨T2, X2, e2, st2⟩ := getF X1 hx hZ hown (host := "") (Or.inl (own_w hw 17 rfl)) Via.refl e1 (Fld.ext O0.2 Fw) (g := (mkF m 27 #[vr a1, vr a2, vi at1, vi 0, vi 0] [(.ref a1), (.int 0)])) rfl rfl (hb hby d16_27)
  refine own_st st2 ?_
  show gs T2 m 30 #[vr a1, vr a2, vi at1, vi 0, vi 0] [(.int 2), (.int 0)]
  refine own_st (fun _ kS => XS.icmpNo X2.here hx rfl (hb hby d16_30) rfl (tlt (by decide : (0 : Int32) < (2 : Int32))).2.1 kS) ?_
  show gs T2 m 33 #[vr a1, vr a2, vi at1, vi 0, vi 0] []
  refine oiloadN X2 hx hby d16_33 rfl ?_
  refine own_st (fun _ kS => XS.bipush X2.here hx rfl (hb hby d16_34) kS) ?_
  refine own_st (fun _ kS => XT.ishl X2.here hx rfl (hb hby d16_36) rfl kS) ?_
  refine oaloadN X2 hx hby d16_37 rfl rfl ?_
  refine oaloadN X2 hx hby d16_38 rfl rfl ?_
  obtain ⟨T3, X3, e3, st3⟩ := getF X2 hx hZ hown (host := "") (Or.inl (own_w hw 156 rfl)) Via.refl e2 (Fld.ext O0.2 Fl) (g := (mkF m 39 #[vr a1, vr a2, vi at1, vi 0, vi 0] [(.ref a1), (.ref a2), (.int 0)])) rfl rfl (hb hby d16_39)
  refine own_st st3 ?_
  show gs T3 m 42 #[vr a1, vr a2, vi at1, vi 0, vi 0] [(.int 0), (.ref a2), (.int 0)]
  refine own_st (fun _ kS => XS.ifYes X3.here hx rfl (pc0 := 42) (pc' := 59) rfl (hb hby d16_42) rfl ((if0 _ _).trans (teq (by decide : (0 : Int32) = (0 : Int32))).1) (by decide) (by decide) kS) ?_
  show gs T3 m 59 #[vr a1, vr a2, vi at1, vi 0, vi 0] [(.ref a2), (.int 0)]
  refine oiloadN X3 hx hby d16_59 rfl ?_
  refine oiload X3 hx hby d16_60 rfl ?_
  refine own_st (fun _ kS => XS.iadd X3.here hx rfl (hb hby d16_62) rfl kS) ?_
  show gs T3 m 63 #[vr a1, vr a2, vi at1, vi 0, vi 0] [(.int (at1 + (0 : Int32))), (.ref a2), (.int 0)]
  rw [own_add0 at1]
  show gs T3 m 63 #[vr a1, vr a2, vi at1, vi 0, vi 0] [(.int at1), (.ref a2), (.int 0)]
  have ib4 : ¬ (at1 < 0 ∨ cB.slots.size ≤ (at1).toNatClampNeg) := inb_of Tb.2.1 (own_inb0 hbn (by decide))
  refine own_st (fun _ kS => X3.baloadBytes hx (j := at1) (v := (.int (atv cB at1))) (by rw [e3]; exact Tb.1.1) (State.isArrayOf_alike hZ.alike Tb.1.2.1) Tb.1.2.2 ib4 (Tb.2.2.2 _ ib4) (g := (mkF m 63 #[vr a1, vr a2, vi at1, vi 0, vi 0] [(.int at1), (.ref a2), (.int 0)])) rfl rfl (hb hby d16_63) _ kS) ?_
  show gs T3 m 64 #[vr a1, vr a2, vi at1, vi 0, vi 0] [(.int (atv cB at1)), (.int 0)]
  refine own_st (fun _ kS => XS.sipush X3.here hx rfl (hb hby d16_64) kS) ?_
  refine own_st (fun _ kS => XS.iand X3.here hx rfl (hb hby d16_67) rfl kS) ?_
  refine own_st (fun _ kS => XT.ior X3.here hx rfl (hb hby d16_68) rfl kS) ?_
  show gs T3 m 69 #[vr a1, vr a2, vi at1, vi 0, vi 0] [(.int ((0 : Int32) ||| ((atv cB at1) &&& (255 : Int32))))]
  obtain ⟨v0, hv0⟩ : ∃ z, z = ((0 : Int32) ||| ((atv cB at1) &&& (255 : Int32))) := ⟨_, rfl⟩
  rw [← hv0]
  show gs T3 m 69 #[vr a1, vr a2, vi at1, vi 0, vi 0] [(.int v0)]
  refine own_st (fun _ kS => XS.istoreN X3.here hx rfl (hb hby d16_69) rfl (l' := #[vr a1, vr a2, vi at1, vi v0, vi 0]) rfl kS) ?_
  refine own_st (fun _ kS => XS.iinc X3.here hx rfl (hb hby d16_70) rfl (l' := #[vr a1, vr a2, vi at1, vi v0, vi 1]) rfl kS) ?_
  refine own_st (fun _ kS => XS.goto X3.here hx rfl (pc0 := 73) (pc' := 24) rfl (hb hby d16_73) (by decide) (by decide) kS) ?_
  refine oiload X3 hx hby d16_24 rfl ?_
  refine oaloadN X3 hx hby d16_26 rfl rfl ?_
  obtain ⟨T5, X5, e5, st5⟩ := getF X3 hx hZ hown (host := "") (Or.inl (own_w hw 17 rfl)) Via.refl e3 (Fld.ext O0.2 Fw) (g := (mkF m 27 #[vr a1, vr a2, vi at1, vi v0, vi 1] [(.ref a1), (.int 1)])) rfl rfl (hb hby d16_27)
  refine own_st st5 ?_
  show gs T5 m 30 #[vr a1, vr a2, vi at1, vi v0, vi 1] [(.int 2), (.int 1)]
  refine own_st (fun _ kS => XS.icmpNo X5.here hx rfl (hb hby d16_30) rfl (tlt (by decide : (1 : Int32) < (2 : Int32))).2.1 kS) ?_
  show gs T5 m 33 #[vr a1, vr a2, vi at1, vi v0, vi 1] []
  refine oiloadN X5 hx hby d16_33 rfl ?_
  refine own_st (fun _ kS => XS.bipush X5.here hx rfl (hb hby d16_34) kS) ?_
  refine own_st (fun _ kS => XT.ishl X5.here hx rfl (hb hby d16_36) rfl kS) ?_
  refine oaloadN X5 hx hby d16_37 rfl rfl ?_
  refine oaloadN X5 hx hby d16_38 rfl rfl ?_
  obtain ⟨T6, X6, e6, st6⟩ := getF X5 hx hZ hown (host := "") (Or.inl (own_w hw 156 rfl)) Via.refl e5 (Fld.ext O0.2 Fl) (g := (mkF m 39 #[vr a1, vr a2, vi at1, vi v0, vi 1] [(.ref a1), (.ref a2), (.int (v0 <<< ((8 : Int32) &&& 31)))])) rfl rfl (hb hby d16_39)
  refine own_st st6 ?_
  show gs T6 m 42 #[vr a1, vr a2, vi at1, vi v0, vi 1] [(.int 0), (.ref a2), (.int (v0 <<< ((8 : Int32) &&& 31)))]
  refine own_st (fun _ kS => XS.ifYes X6.here hx rfl (pc0 := 42) (pc' := 59) rfl (hb hby d16_42) rfl ((if0 _ _).trans (teq (by decide : (0 : Int32) = (0 : Int32))).1) (by decide) (by decide) kS) ?_
  show gs T6 m 59 #[vr a1, vr a2, vi at1, vi v0, vi 1] [(.ref a2), (.int (v0 <<< ((8 : Int32) &&& 31)))]
  refine oiloadN X6 hx hby d16_59 rfl ?_
  refine oiload X6 hx hby d16_60 rfl ?_
  refine own_st (fun _ kS => XS.iadd X6.here hx rfl (hb hby d16_62) rfl kS) ?_
  show gs T6 m 63 #[vr a1, vr a2, vi at1, vi v0, vi 1] [(.int (at1 + (1 : Int32))), (.ref a2), (.int (v0 <<< ((8 : Int32) &&& 31)))]
  have ib7 : ¬ ((at1 + (1 : Int32)) < 0 ∨ cB.slots.size ≤ ((at1 + (1 : Int32))).toNatClampNeg) := inb_of Tb.2.1 (own_inb hbn 1 (by decide))
  refine own_st (fun _ kS => X6.baloadBytes hx (j := (at1 + (1 : Int32))) (v := (.int (atv cB (at1 + (1 : Int32))))) (by rw [e6]; exact Tb.1.1) (State.isArrayOf_alike hZ.alike Tb.1.2.1) Tb.1.2.2 ib7 (Tb.2.2.2 _ ib7) (g := (mkF m 63 #[vr a1, vr a2, vi at1, vi v0, vi 1] [(.int (at1 + (1 : Int32))), (.ref a2), (.int (v0 <<< ((8 : Int32) &&& 31)))])) rfl rfl (hb hby d16_63) _ kS) ?_
  show gs T6 m 64 #[vr a1, vr a2, vi at1, vi v0, vi 1] [(.int (atv cB (at1 + (1 : Int32)))), (.int (v0 <<< ((8 : Int32) &&& 31)))]
  refine own_st (fun _ kS => XS.sipush X6.here hx rfl (hb hby d16_64) kS) ?_
  refine own_st (fun _ kS => XS.iand X6.here hx rfl (hb hby d16_67) rfl kS) ?_
  refine own_st (fun _ kS => XT.ior X6.here hx rfl (hb hby d16_68) rfl kS) ?_
  show gs T6 m 69 #[vr a1, vr a2, vi at1, vi v0, vi 1] [(.int ((v0 <<< ((8 : Int32) &&& 31)) ||| ((atv cB (at1 + (1 : Int32))) &&& (255 : Int32))))]
  obtain ⟨v1, hv1⟩ : ∃ z, z = ((v0 <<< ((8 : Int32) &&& 31)) ||| ((atv cB (at1 + (1 : Int32))) &&& (255 : Int32))) := ⟨_, rfl⟩
  rw [← hv1]
  show gs T6 m 69 #[vr a1, vr a2, vi at1, vi v0, vi 1] [(.int v1)]
  refine own_st (fun _ kS => XS.istoreN X6.here hx rfl (hb hby d16_69) rfl (l' := #[vr a1, vr a2, vi at1, vi v1, vi 1]) rfl kS) ?_
  refine own_st (fun _ kS => XS.iinc X6.here hx rfl (hb hby d16_70) rfl (l' := #[vr a1, vr a2, vi at1, vi v1, vi 2]) rfl kS) ?_
  refine own_st (fun _ kS => XS.goto X6.here hx rfl (pc0 := 73) (pc' := 24) rfl (hb hby d16_73) (by decide) (by decide) kS) ?_
  refine oiload X6 hx hby d16_24 rfl ?_
  refine oaloadN X6 hx hby d16_26 rfl rfl ?_
  obtain ⟨T8, X8, e8, st8⟩ := getF X6 hx hZ hown (host := "") (Or.inl (own_w hw 17 rfl)) Via.refl e6 (Fld.ext O0.2 Fw) (g := (mkF m 27 #[vr a1, vr a2, vi at1, vi v1, vi 2] [(.ref a1), (.int 2)])) rfl rfl (hb hby d16_27)
  refine own_st st8 ?_
  show gs T8 m 30 #[vr a1, vr a2, vi at1, vi v1, vi 2] [(.int 2), (.int 2)]
  refine own_st (fun _ kS => XS.icmpYes X8.here hx rfl (pc0 := 30) (pc' := 76) rfl (hb hby d16_30) rfl (flt (by decide : ¬ ((2 : Int32) < (2 : Int32)))).2.1 (by decide) (by decide) kS) ?_
  show gs T8 m 76 #[vr a1, vr a2, vi at1, vi v1, vi 2] []
  refine oiloadN X8 hx hby d16_76 rfl ?_
  exact own_retI X8 hx hlk hret (hb hby d16_77) (by decide) (by decide) (by rw [e8]; exact ⟨(by rw [hv1, hv0]; rfl), N0, rfl⟩)
theorem ef_expected_2_0 (m : MethodId) (x0 : Addr) (x1 : Int32) : entryFrame m #[(.ref x0), (.int x1), (.int 2), (.int 0)] 8 = mkF m 0 #[.val (.ref x0), .val (.int x1), .val (.int 2), .val (.int 0), .unset, .unset, .unset, .unset] [] := by first | (simp [entryFrame, mkF, argsToLocals, Value.category]; done) | rfl
def Q_expected_2_0 (Z : State) (a2 : Addr) (cB : Cell) (at1 : Int32) (h0 : Heap) (n0 : Nat) (v : Option Value) (h : Heap) (L : List Loc) : Prop := v = some (.int (own_ex2_0 cB at1)) ∧ Fr n0 L ∧ h = h0
theorem rm_expected_2_0 (l : Launch) (Z : State) (a0 : Array Value) (hw : HW a0 Z) (ws : List Jvm.Cond) (a2 : Addr) (cB : Cell) (at1 : Int32) (h0 : Heap) (n0 : Nat) (Z0 : n0 ≤ h0.size) (Tb : Tab Z h0 a2 cB .byte (8 : Int32)) (hbn : 0 ≤ at1.toInt ∧ at1.toInt < 7) :
    M29 l ws (rmk 0 0 0 0) Z #[(.ref a2), (.int at1), (.int 2), (.int 0)] h0 (Q_expected_2_0 Z a2 cB at1 h0 n0) := by
  refine own_go "com/example/provenir/provenir/TextEncodingDecodePinLaw" rfl (plainFor_of_name pn_26) (fun m => ef_expected_2_0 m a2 at1) (fun p e s m below meth c s₁ hx hby hml hown hnm hlk hret hZ X0 e0 => ?_)
  have N0 := Fr.nil n0
  show gs s₁ m 0 #[vr a2, vi at1, vi 2, vi 0, .unset, .unset, .unset, .unset] []
  refine oiloadN X0 hx hby d26_0 rfl ?_
  refine oiconst X0 hx hby d26_1 ?_
  refine own_st (fun _ kS => XS.icmpYes X0.here hx rfl (pc0 := 2) (pc' := 14) rfl (hb hby d26_2) rfl (feq (by decide : ¬ ((2 : Int32) = (1 : Int32)))).2 (by decide) (by decide) kS) ?_
  show gs s₁ m 14 #[vr a2, vi at1, vi 2, vi 0, .unset, .unset, .unset, .unset] []
  refine oiloadN X0 hx hby d26_14 rfl ?_
  refine oiconst X0 hx hby d26_15 ?_
  refine own_st (fun _ kS => XS.icmpNo X0.here hx rfl (hb hby d26_16) rfl (teq (by decide : (2 : Int32) = (2 : Int32))).2 kS) ?_
  show gs s₁ m 19 #[vr a2, vi at1, vi 2, vi 0, .unset, .unset, .unset, .unset] []
  refine oiloadN X0 hx hby d26_19 rfl ?_
  refine own_st (fun _ kS => XS.ifYes X0.here hx rfl (pc0 := 20) (pc' := 35) rfl (hb hby d26_20) rfl ((if0 _ _).trans (teq (by decide : (0 : Int32) = (0 : Int32))).1) (by decide) (by decide) kS) ?_
  show gs s₁ m 35 #[vr a2, vi at1, vi 2, vi 0, .unset, .unset, .unset, .unset] []
  refine oaloadN X0 hx hby d26_35 rfl rfl ?_
  refine oiloadN X0 hx hby d26_36 rfl ?_
  show gs s₁ m 37 #[vr a2, vi at1, vi 2, vi 0, .unset, .unset, .unset, .unset] [(.int at1), (.ref a2)]
  have ib1 : ¬ (at1 < 0 ∨ cB.slots.size ≤ (at1).toNatClampNeg) := inb_of Tb.2.1 (own_inb0 hbn (by decide))
  refine own_st (fun _ kS => X0.baloadBytes hx (j := at1) (v := (.int (atv cB at1))) (by rw [e0]; exact Tb.1.1) (State.isArrayOf_alike hZ.alike Tb.1.2.1) Tb.1.2.2 ib1 (Tb.2.2.2 _ ib1) (g := (mkF m 37 #[vr a2, vi at1, vi 2, vi 0, .unset, .unset, .unset, .unset] [(.int at1), (.ref a2)])) rfl rfl (hb hby d26_37) _ kS) ?_
  show gs s₁ m 38 #[vr a2, vi at1, vi 2, vi 0, .unset, .unset, .unset, .unset] [(.int (atv cB at1))]
  refine own_st (fun _ kS => XS.sipush X0.here hx rfl (hb hby d26_38) kS) ?_
  refine own_st (fun _ kS => XS.iand X0.here hx rfl (hb hby d26_41) rfl kS) ?_
  refine own_st (fun _ kS => XS.istore X0.here hx rfl (hb hby d26_42) rfl (l' := #[vr a2, vi at1, vi 2, vi 0, vi ((atv cB at1) &&& (255 : Int32)), .unset, .unset, .unset]) rfl kS) ?_
  refine oiloadN X0 hx hby d26_44 rfl ?_
  refine own_st (fun _ kS => XS.ifYes X0.here hx rfl (pc0 := 45) (pc' := 58) rfl (hb hby d26_45) rfl ((if0 _ _).trans (teq (by decide : (0 : Int32) = (0 : Int32))).1) (by decide) (by decide) kS) ?_
  show gs s₁ m 58 #[vr a2, vi at1, vi 2, vi 0, vi ((atv cB at1) &&& (255 : Int32)), .unset, .unset, .unset] []
  refine oaloadN X0 hx hby d26_58 rfl rfl ?_
  refine oiloadN X0 hx hby d26_59 rfl ?_
  refine oiconst X0 hx hby d26_60 ?_
  refine own_st (fun _ kS => XS.iadd X0.here hx rfl (hb hby d26_61) rfl kS) ?_
  show gs s₁ m 62 #[vr a2, vi at1, vi 2, vi 0, vi ((atv cB at1) &&& (255 : Int32)), .unset, .unset, .unset] [(.int (at1 + (1 : Int32))), (.ref a2)]
  have ib2 : ¬ ((at1 + (1 : Int32)) < 0 ∨ cB.slots.size ≤ ((at1 + (1 : Int32))).toNatClampNeg) := inb_of Tb.2.1 (own_inb hbn 1 (by decide))
  refine own_st (fun _ kS => X0.baloadBytes hx (j := (at1 + (1 : Int32))) (v := (.int (atv cB (at1 + (1 : Int32))))) (by rw [e0]; exact Tb.1.1) (State.isArrayOf_alike hZ.alike Tb.1.2.1) Tb.1.2.2 ib2 (Tb.2.2.2 _ ib2) (g := (mkF m 62 #[vr a2, vi at1, vi 2, vi 0, vi ((atv cB at1) &&& (255 : Int32)), .unset, .unset, .unset] [(.int (at1 + (1 : Int32))), (.ref a2)])) rfl rfl (hb hby d26_62) _ kS) ?_
  show gs s₁ m 63 #[vr a2, vi at1, vi 2, vi 0, vi ((atv cB at1) &&& (255 : Int32)), .unset, .unset, .unset] [(.int (atv cB (at1 + (1 : Int32))))]
  refine own_st (fun _ kS => XS.sipush X0.here hx rfl (hb hby d26_63) kS) ?_
  refine own_st (fun _ kS => XS.iand X0.here hx rfl (hb hby d26_66) rfl kS) ?_
  refine own_st (fun _ kS => XS.istore X0.here hx rfl (hb hby d26_67) rfl (l' := #[vr a2, vi at1, vi 2, vi 0, vi ((atv cB at1) &&& (255 : Int32)), vi ((atv cB (at1 + (1 : Int32))) &&& (255 : Int32)), .unset, .unset]) rfl kS) ?_
  refine oiload X0 hx hby d26_69 rfl ?_
  refine own_st (fun _ kS => XS.bipush X0.here hx rfl (hb hby d26_71) kS) ?_
  refine own_st (fun _ kS => XT.ishl X0.here hx rfl (hb hby d26_73) rfl kS) ?_
  refine oiload X0 hx hby d26_74 rfl ?_
  refine own_st (fun _ kS => XT.ior X0.here hx rfl (hb hby d26_76) rfl kS) ?_
  refine own_st (fun _ kS => XT.i2c X0.here hx rfl (hb hby d26_77) rfl kS) ?_
  show gs s₁ m 78 #[vr a2, vi at1, vi 2, vi 0, vi ((atv cB at1) &&& (255 : Int32)), vi ((atv cB (at1 + (1 : Int32))) &&& (255 : Int32)), .unset, .unset] [(.int (((((atv cB at1) &&& (255 : Int32)) <<< ((8 : Int32) &&& 31)) ||| ((atv cB (at1 + (1 : Int32))) &&& (255 : Int32))).toUInt32.toUInt16.toUInt32.toInt32))]
  exact own_retN X0 hx hlk (t := .char) hret (by simp) (hb hby d26_78) (by decide) (by decide) (v' := (nar .char (((((atv cB at1) &&& (255 : Int32)) <<< ((8 : Int32) &&& 31)) ||| ((atv cB (at1 + (1 : Int32))) &&& (255 : Int32))).toUInt32.toUInt16.toUInt32.toInt32))) rfl (by rw [e0]; exact ⟨rfl, N0, rfl⟩)
theorem ef_unitAt_2_1 (m : MethodId) (x0 : Addr) (x1 : Addr) (x2 : Int32) : entryFrame m #[(.ref x0), (.ref x1), (.int x2)] 5 = mkF m 0 #[.val (.ref x0), .val (.ref x1), .val (.int x2), .unset, .unset] [] := by first | (simp [entryFrame, mkF, argsToLocals, Value.category]; done) | rfl
def Q_unitAt_2_1 (Z : State) (a1 : Addr) (a2 : Addr) (cB : Cell) (at1 : Int32) (h0 : Heap) (n0 : Nat) (v : Option Value) (h : Heap) (L : List Loc) : Prop := v = some (.int (own_un2_1 cB at1)) ∧ Fr n0 L ∧ h = h0
theorem rm_unitAt_2_1 (l : Launch) (Z : State) (a0 : Array Value) (hw : HW a0 Z) (ws : List Jvm.Cond) (a1 : Addr) (a2 : Addr) (cB : Cell) (at1 : Int32) (h0 : Heap) (n0 : Nat) (Z0 : n0 ≤ h0.size) (O0 : Old Z n0 h0) (Fw : fk17 Z Z.heap a1 (.int 2)) (Fl : fk18 Z Z.heap a1 (.int 1)) (Tb : Tab Z h0 a2 cB .byte (8 : Int32)) (hbn : 0 ≤ at1.toInt ∧ at1.toInt < 7) :
    M28 l ws (rmk 0 0 0 0) Z #[(.ref a1), (.ref a2), (.int at1)] h0 (Q_unitAt_2_1 Z a1 a2 cB at1 h0 n0) := by
  refine own_go "com/example/provenir/provenir/TextEncoding" rfl (plainFor_of_name pn_16) (fun m => ef_unitAt_2_1 m a1 a2 at1) (fun p e s m below meth c s₁ hx hby hml hown hnm hlk hret hZ X0 e0 => ?_)
  have N0 := Fr.nil n0
  show gs s₁ m 0 #[vr a1, vr a2, vi at1, .unset, .unset] []
  refine oaloadN X0 hx hby d16_0 rfl rfl ?_
  obtain ⟨T1, X1, e1, st1⟩ := getF X0 hx hZ hown (host := "") (Or.inl (own_w hw 17 rfl)) Via.refl e0 (Fld.ext O0.2 Fw) (g := (mkF m 1 #[vr a1, vr a2, vi at1, .unset, .unset] [(.ref a1)])) rfl rfl (hb hby d16_1)
  refine own_st st1 ?_
  show gs T1 m 4 #[vr a1, vr a2, vi at1, .unset, .unset] [(.int 2)]
  refine oiconst X1 hx hby d16_4 ?_
  refine own_st (fun _ kS => XS.icmpYes X1.here hx rfl (pc0 := 5) (pc' := 19) rfl (hb hby d16_5) rfl (feq (by decide : ¬ ((2 : Int32) = (1 : Int32)))).2 (by decide) (by decide) kS) ?_
  show gs T1 m 19 #[vr a1, vr a2, vi at1, .unset, .unset] []
  refine oiconst X1 hx hby d16_19 ?_
  refine own_st (fun _ kS => XS.istoreN X1.here hx rfl (hb hby d16_20) rfl (l' := #[vr a1, vr a2, vi at1, vi 0, .unset]) rfl kS) ?_
  refine oiconst X1 hx hby d16_21 ?_
  refine own_st (fun _ kS => XS.istore X1.here hx rfl (hb hby d16_22) rfl (l' := #[vr a1, vr a2, vi at1, vi 0, vi 0]) rfl kS) ?_
  refine oiload X1 hx hby d16_24 rfl ?_
  refine oaloadN X1 hx hby d16_26 rfl rfl ?_
  obtain ⟨T2, X2, e2, st2⟩ := getF X1 hx hZ hown (host := "") (Or.inl (own_w hw 17 rfl)) Via.refl e1 (Fld.ext O0.2 Fw) (g := (mkF m 27 #[vr a1, vr a2, vi at1, vi 0, vi 0] [(.ref a1), (.int 0)])) rfl rfl (hb hby d16_27)
  refine own_st st2 ?_
  show gs T2 m 30 #[vr a1, vr a2, vi at1, vi 0, vi 0] [(.int 2), (.int 0)]
  refine own_st (fun _ kS => XS.icmpNo X2.here hx rfl (hb hby d16_30) rfl (tlt (by decide : (0 : Int32) < (2 : Int32))).2.1 kS) ?_
  show gs T2 m 33 #[vr a1, vr a2, vi at1, vi 0, vi 0] []
  refine oiloadN X2 hx hby d16_33 rfl ?_
  refine own_st (fun _ kS => XS.bipush X2.here hx rfl (hb hby d16_34) kS) ?_
  refine own_st (fun _ kS => XT.ishl X2.here hx rfl (hb hby d16_36) rfl kS) ?_
  refine oaloadN X2 hx hby d16_37 rfl rfl ?_
  refine oaloadN X2 hx hby d16_38 rfl rfl ?_
  obtain ⟨T3, X3, e3, st3⟩ := getF X2 hx hZ hown (host := "") (Or.inl (own_w hw 156 rfl)) Via.refl e2 (Fld.ext O0.2 Fl) (g := (mkF m 39 #[vr a1, vr a2, vi at1, vi 0, vi 0] [(.ref a1), (.ref a2), (.int 0)])) rfl rfl (hb hby d16_39)
  refine own_st st3 ?_
  show gs T3 m 42 #[vr a1, vr a2, vi at1, vi 0, vi 0] [(.int 1), (.ref a2), (.int 0)]
  refine own_st (fun _ kS => XS.ifNo X3.here hx rfl (hb hby d16_42) rfl ((if0 _ _).trans (feq (by decide : ¬ ((1 : Int32) = (0 : Int32)))).1) kS) ?_
  show gs T3 m 45 #[vr a1, vr a2, vi at1, vi 0, vi 0] [(.ref a2), (.int 0)]
  refine oiloadN X3 hx hby d16_45 rfl ?_
  refine oaloadN X3 hx hby d16_46 rfl rfl ?_
  obtain ⟨T4, X4, e4, st4⟩ := getF X3 hx hZ hown (host := "") (Or.inl (own_w hw 17 rfl)) Via.refl e3 (Fld.ext O0.2 Fw) (g := (mkF m 47 #[vr a1, vr a2, vi at1, vi 0, vi 0] [(.ref a1), (.int at1), (.ref a2), (.int 0)])) rfl rfl (hb hby d16_47)
  refine own_st st4 ?_
  show gs T4 m 50 #[vr a1, vr a2, vi at1, vi 0, vi 0] [(.int 2), (.int at1), (.ref a2), (.int 0)]
  refine own_st (fun _ kS => XS.iadd X4.here hx rfl (hb hby d16_50) rfl kS) ?_
  refine oiconst X4 hx hby d16_51 ?_
  refine own_st (fun _ kS => XS.isub X4.here hx rfl (hb hby d16_52) rfl kS) ?_
  refine oiload X4 hx hby d16_53 rfl ?_
  refine own_st (fun _ kS => XS.isub X4.here hx rfl (hb hby d16_55) rfl kS) ?_
  refine own_st (fun _ kS => XS.goto X4.here hx rfl (pc0 := 56) (pc' := 63) rfl (hb hby d16_56) (by decide) (by decide) kS) ?_
  show gs T4 m 63 #[vr a1, vr a2, vi at1, vi 0, vi 0] [(.int (((at1 + (2 : Int32)) - (1 : Int32)) - (0 : Int32))), (.ref a2), (.int 0)]
  rw [own_ixL at1 2 0 1 (by decide) (by decide) (by decide)]
  show gs T4 m 63 #[vr a1, vr a2, vi at1, vi 0, vi 0] [(.int (at1 + (1 : Int32))), (.ref a2), (.int 0)]
  have ib5 : ¬ ((at1 + (1 : Int32)) < 0 ∨ cB.slots.size ≤ ((at1 + (1 : Int32))).toNatClampNeg) := inb_of Tb.2.1 (own_inb hbn 1 (by decide))
  refine own_st (fun _ kS => X4.baloadBytes hx (j := (at1 + (1 : Int32))) (v := (.int (atv cB (at1 + (1 : Int32))))) (by rw [e4]; exact Tb.1.1) (State.isArrayOf_alike hZ.alike Tb.1.2.1) Tb.1.2.2 ib5 (Tb.2.2.2 _ ib5) (g := (mkF m 63 #[vr a1, vr a2, vi at1, vi 0, vi 0] [(.int (at1 + (1 : Int32))), (.ref a2), (.int 0)])) rfl rfl (hb hby d16_63) _ kS) ?_
  show gs T4 m 64 #[vr a1, vr a2, vi at1, vi 0, vi 0] [(.int (atv cB (at1 + (1 : Int32)))), (.int 0)]
  refine own_st (fun _ kS => XS.sipush X4.here hx rfl (hb hby d16_64) kS) ?_
  refine own_st (fun _ kS => XS.iand X4.here hx rfl (hb hby d16_67) rfl kS) ?_
  refine own_st (fun _ kS => XT.ior X4.here hx rfl (hb hby d16_68) rfl kS) ?_
  show gs T4 m 69 #[vr a1, vr a2, vi at1, vi 0, vi 0] [(.int ((0 : Int32) ||| ((atv cB (at1 + (1 : Int32))) &&& (255 : Int32))))]
  obtain ⟨v0, hv0⟩ : ∃ z, z = ((0 : Int32) ||| ((atv cB (at1 + (1 : Int32))) &&& (255 : Int32))) := ⟨_, rfl⟩
  rw [← hv0]
  show gs T4 m 69 #[vr a1, vr a2, vi at1, vi 0, vi 0] [(.int v0)]
  refine own_st (fun _ kS => XS.istoreN X4.here hx rfl (hb hby d16_69) rfl (l' := #[vr a1, vr a2, vi at1, vi v0, vi 0]) rfl kS) ?_
  refine own_st (fun _ kS => XS.iinc X4.here hx rfl (hb hby d16_70) rfl (l' := #[vr a1, vr a2, vi at1, vi v0, vi 1]) rfl kS) ?_
  refine own_st (fun _ kS => XS.goto X4.here hx rfl (pc0 := 73) (pc' := 24) rfl (hb hby d16_73) (by decide) (by decide) kS) ?_
  refine oiload X4 hx hby d16_24 rfl ?_
  refine oaloadN X4 hx hby d16_26 rfl rfl ?_
  obtain ⟨T6, X6, e6, st6⟩ := getF X4 hx hZ hown (host := "") (Or.inl (own_w hw 17 rfl)) Via.refl e4 (Fld.ext O0.2 Fw) (g := (mkF m 27 #[vr a1, vr a2, vi at1, vi v0, vi 1] [(.ref a1), (.int 1)])) rfl rfl (hb hby d16_27)
  refine own_st st6 ?_
  show gs T6 m 30 #[vr a1, vr a2, vi at1, vi v0, vi 1] [(.int 2), (.int 1)]
  refine own_st (fun _ kS => XS.icmpNo X6.here hx rfl (hb hby d16_30) rfl (tlt (by decide : (1 : Int32) < (2 : Int32))).2.1 kS) ?_
  show gs T6 m 33 #[vr a1, vr a2, vi at1, vi v0, vi 1] []
  refine oiloadN X6 hx hby d16_33 rfl ?_
  refine own_st (fun _ kS => XS.bipush X6.here hx rfl (hb hby d16_34) kS) ?_
  refine own_st (fun _ kS => XT.ishl X6.here hx rfl (hb hby d16_36) rfl kS) ?_
  refine oaloadN X6 hx hby d16_37 rfl rfl ?_
  refine oaloadN X6 hx hby d16_38 rfl rfl ?_
  obtain ⟨T7, X7, e7, st7⟩ := getF X6 hx hZ hown (host := "") (Or.inl (own_w hw 156 rfl)) Via.refl e6 (Fld.ext O0.2 Fl) (g := (mkF m 39 #[vr a1, vr a2, vi at1, vi v0, vi 1] [(.ref a1), (.ref a2), (.int (v0 <<< ((8 : Int32) &&& 31)))])) rfl rfl (hb hby d16_39)
  refine own_st st7 ?_
  show gs T7 m 42 #[vr a1, vr a2, vi at1, vi v0, vi 1] [(.int 1), (.ref a2), (.int (v0 <<< ((8 : Int32) &&& 31)))]
  refine own_st (fun _ kS => XS.ifNo X7.here hx rfl (hb hby d16_42) rfl ((if0 _ _).trans (feq (by decide : ¬ ((1 : Int32) = (0 : Int32)))).1) kS) ?_
  show gs T7 m 45 #[vr a1, vr a2, vi at1, vi v0, vi 1] [(.ref a2), (.int (v0 <<< ((8 : Int32) &&& 31)))]
  refine oiloadN X7 hx hby d16_45 rfl ?_
  refine oaloadN X7 hx hby d16_46 rfl rfl ?_
  obtain ⟨T8, X8, e8, st8⟩ := getF X7 hx hZ hown (host := "") (Or.inl (own_w hw 17 rfl)) Via.refl e7 (Fld.ext O0.2 Fw) (g := (mkF m 47 #[vr a1, vr a2, vi at1, vi v0, vi 1] [(.ref a1), (.int at1), (.ref a2), (.int (v0 <<< ((8 : Int32) &&& 31)))])) rfl rfl (hb hby d16_47)
  refine own_st st8 ?_
  show gs T8 m 50 #[vr a1, vr a2, vi at1, vi v0, vi 1] [(.int 2), (.int at1), (.ref a2), (.int (v0 <<< ((8 : Int32) &&& 31)))]
  refine own_st (fun _ kS => XS.iadd X8.here hx rfl (hb hby d16_50) rfl kS) ?_
  refine oiconst X8 hx hby d16_51 ?_
  refine own_st (fun _ kS => XS.isub X8.here hx rfl (hb hby d16_52) rfl kS) ?_
  refine oiload X8 hx hby d16_53 rfl ?_
  refine own_st (fun _ kS => XS.isub X8.here hx rfl (hb hby d16_55) rfl kS) ?_
  refine own_st (fun _ kS => XS.goto X8.here hx rfl (pc0 := 56) (pc' := 63) rfl (hb hby d16_56) (by decide) (by decide) kS) ?_
  show gs T8 m 63 #[vr a1, vr a2, vi at1, vi v0, vi 1] [(.int (((at1 + (2 : Int32)) - (1 : Int32)) - (1 : Int32))), (.ref a2), (.int (v0 <<< ((8 : Int32) &&& 31)))]
  rw [own_ixL at1 2 1 0 (by decide) (by decide) (by decide)]
  rw [own_add0 at1]
  show gs T8 m 63 #[vr a1, vr a2, vi at1, vi v0, vi 1] [(.int at1), (.ref a2), (.int (v0 <<< ((8 : Int32) &&& 31)))]
  have ib9 : ¬ (at1 < 0 ∨ cB.slots.size ≤ (at1).toNatClampNeg) := inb_of Tb.2.1 (own_inb0 hbn (by decide))
  refine own_st (fun _ kS => X8.baloadBytes hx (j := at1) (v := (.int (atv cB at1))) (by rw [e8]; exact Tb.1.1) (State.isArrayOf_alike hZ.alike Tb.1.2.1) Tb.1.2.2 ib9 (Tb.2.2.2 _ ib9) (g := (mkF m 63 #[vr a1, vr a2, vi at1, vi v0, vi 1] [(.int at1), (.ref a2), (.int (v0 <<< ((8 : Int32) &&& 31)))])) rfl rfl (hb hby d16_63) _ kS) ?_
  show gs T8 m 64 #[vr a1, vr a2, vi at1, vi v0, vi 1] [(.int (atv cB at1)), (.int (v0 <<< ((8 : Int32) &&& 31)))]
  refine own_st (fun _ kS => XS.sipush X8.here hx rfl (hb hby d16_64) kS) ?_
  refine own_st (fun _ kS => XS.iand X8.here hx rfl (hb hby d16_67) rfl kS) ?_
  refine own_st (fun _ kS => XT.ior X8.here hx rfl (hb hby d16_68) rfl kS) ?_
  show gs T8 m 69 #[vr a1, vr a2, vi at1, vi v0, vi 1] [(.int ((v0 <<< ((8 : Int32) &&& 31)) ||| ((atv cB at1) &&& (255 : Int32))))]
  obtain ⟨v1, hv1⟩ : ∃ z, z = ((v0 <<< ((8 : Int32) &&& 31)) ||| ((atv cB at1) &&& (255 : Int32))) := ⟨_, rfl⟩
  rw [← hv1]
  show gs T8 m 69 #[vr a1, vr a2, vi at1, vi v0, vi 1] [(.int v1)]
  refine own_st (fun _ kS => XS.istoreN X8.here hx rfl (hb hby d16_69) rfl (l' := #[vr a1, vr a2, vi at1, vi v1, vi 1]) rfl kS) ?_
  refine own_st (fun _ kS => XS.iinc X8.here hx rfl (hb hby d16_70) rfl (l' := #[vr a1, vr a2, vi at1, vi v1, vi 2]) rfl kS) ?_
  refine own_st (fun _ kS => XS.goto X8.here hx rfl (pc0 := 73) (pc' := 24) rfl (hb hby d16_73) (by decide) (by decide) kS) ?_
  refine oiload X8 hx hby d16_24 rfl ?_
  refine oaloadN X8 hx hby d16_26 rfl rfl ?_
  obtain ⟨T10, X10, e10, st10⟩ := getF X8 hx hZ hown (host := "") (Or.inl (own_w hw 17 rfl)) Via.refl e8 (Fld.ext O0.2 Fw) (g := (mkF m 27 #[vr a1, vr a2, vi at1, vi v1, vi 2] [(.ref a1), (.int 2)])) rfl rfl (hb hby d16_27)
  refine own_st st10 ?_
  show gs T10 m 30 #[vr a1, vr a2, vi at1, vi v1, vi 2] [(.int 2), (.int 2)]
  refine own_st (fun _ kS => XS.icmpYes X10.here hx rfl (pc0 := 30) (pc' := 76) rfl (hb hby d16_30) rfl (flt (by decide : ¬ ((2 : Int32) < (2 : Int32)))).2.1 (by decide) (by decide) kS) ?_
  show gs T10 m 76 #[vr a1, vr a2, vi at1, vi v1, vi 2] []
  refine oiloadN X10 hx hby d16_76 rfl ?_
  exact own_retI X10 hx hlk hret (hb hby d16_77) (by decide) (by decide) (by rw [e10]; exact ⟨(by rw [hv1, hv0]; rfl), N0, rfl⟩)
theorem ef_expected_2_1 (m : MethodId) (x0 : Addr) (x1 : Int32) : entryFrame m #[(.ref x0), (.int x1), (.int 2), (.int 1)] 8 = mkF m 0 #[.val (.ref x0), .val (.int x1), .val (.int 2), .val (.int 1), .unset, .unset, .unset, .unset] [] := by first | (simp [entryFrame, mkF, argsToLocals, Value.category]; done) | rfl
def Q_expected_2_1 (Z : State) (a2 : Addr) (cB : Cell) (at1 : Int32) (h0 : Heap) (n0 : Nat) (v : Option Value) (h : Heap) (L : List Loc) : Prop := v = some (.int (own_ex2_1 cB at1)) ∧ Fr n0 L ∧ h = h0
theorem rm_expected_2_1 (l : Launch) (Z : State) (a0 : Array Value) (hw : HW a0 Z) (ws : List Jvm.Cond) (a2 : Addr) (cB : Cell) (at1 : Int32) (h0 : Heap) (n0 : Nat) (Z0 : n0 ≤ h0.size) (Tb : Tab Z h0 a2 cB .byte (8 : Int32)) (hbn : 0 ≤ at1.toInt ∧ at1.toInt < 7) :
    M29 l ws (rmk 0 0 0 0) Z #[(.ref a2), (.int at1), (.int 2), (.int 1)] h0 (Q_expected_2_1 Z a2 cB at1 h0 n0) := by
  refine own_go "com/example/provenir/provenir/TextEncodingDecodePinLaw" rfl (plainFor_of_name pn_26) (fun m => ef_expected_2_1 m a2 at1) (fun p e s m below meth c s₁ hx hby hml hown hnm hlk hret hZ X0 e0 => ?_)
  have N0 := Fr.nil n0
  show gs s₁ m 0 #[vr a2, vi at1, vi 2, vi 1, .unset, .unset, .unset, .unset] []
  refine oiloadN X0 hx hby d26_0 rfl ?_
  refine oiconst X0 hx hby d26_1 ?_
  refine own_st (fun _ kS => XS.icmpYes X0.here hx rfl (pc0 := 2) (pc' := 14) rfl (hb hby d26_2) rfl (feq (by decide : ¬ ((2 : Int32) = (1 : Int32)))).2 (by decide) (by decide) kS) ?_
  show gs s₁ m 14 #[vr a2, vi at1, vi 2, vi 1, .unset, .unset, .unset, .unset] []
  refine oiloadN X0 hx hby d26_14 rfl ?_
  refine oiconst X0 hx hby d26_15 ?_
  refine own_st (fun _ kS => XS.icmpNo X0.here hx rfl (hb hby d26_16) rfl (teq (by decide : (2 : Int32) = (2 : Int32))).2 kS) ?_
  show gs s₁ m 19 #[vr a2, vi at1, vi 2, vi 1, .unset, .unset, .unset, .unset] []
  refine oiloadN X0 hx hby d26_19 rfl ?_
  refine own_st (fun _ kS => XS.ifNo X0.here hx rfl (hb hby d26_20) rfl ((if0 _ _).trans (feq (by decide : ¬ ((1 : Int32) = (0 : Int32)))).1) kS) ?_
  show gs s₁ m 23 #[vr a2, vi at1, vi 2, vi 1, .unset, .unset, .unset, .unset] []
  refine oaloadN X0 hx hby d26_23 rfl rfl ?_
  refine oiloadN X0 hx hby d26_24 rfl ?_
  refine oiconst X0 hx hby d26_25 ?_
  refine own_st (fun _ kS => XS.iadd X0.here hx rfl (hb hby d26_26) rfl kS) ?_
  show gs s₁ m 27 #[vr a2, vi at1, vi 2, vi 1, .unset, .unset, .unset, .unset] [(.int (at1 + (1 : Int32))), (.ref a2)]
  have ib1 : ¬ ((at1 + (1 : Int32)) < 0 ∨ cB.slots.size ≤ ((at1 + (1 : Int32))).toNatClampNeg) := inb_of Tb.2.1 (own_inb hbn 1 (by decide))
  refine own_st (fun _ kS => X0.baloadBytes hx (j := (at1 + (1 : Int32))) (v := (.int (atv cB (at1 + (1 : Int32))))) (by rw [e0]; exact Tb.1.1) (State.isArrayOf_alike hZ.alike Tb.1.2.1) Tb.1.2.2 ib1 (Tb.2.2.2 _ ib1) (g := (mkF m 27 #[vr a2, vi at1, vi 2, vi 1, .unset, .unset, .unset, .unset] [(.int (at1 + (1 : Int32))), (.ref a2)])) rfl rfl (hb hby d26_27) _ kS) ?_
  show gs s₁ m 28 #[vr a2, vi at1, vi 2, vi 1, .unset, .unset, .unset, .unset] [(.int (atv cB (at1 + (1 : Int32))))]
  refine own_st (fun _ kS => XS.sipush X0.here hx rfl (hb hby d26_28) kS) ?_
  refine own_st (fun _ kS => XS.iand X0.here hx rfl (hb hby d26_31) rfl kS) ?_
  refine own_st (fun _ kS => XS.goto X0.here hx rfl (pc0 := 32) (pc' := 42) rfl (hb hby d26_32) (by decide) (by decide) kS) ?_
  refine own_st (fun _ kS => XS.istore X0.here hx rfl (hb hby d26_42) rfl (l' := #[vr a2, vi at1, vi 2, vi 1, vi ((atv cB (at1 + (1 : Int32))) &&& (255 : Int32)), .unset, .unset, .unset]) rfl kS) ?_
  refine oiloadN X0 hx hby d26_44 rfl ?_
  refine own_st (fun _ kS => XS.ifNo X0.here hx rfl (hb hby d26_45) rfl ((if0 _ _).trans (feq (by decide : ¬ ((1 : Int32) = (0 : Int32)))).1) kS) ?_
  show gs s₁ m 48 #[vr a2, vi at1, vi 2, vi 1, vi ((atv cB (at1 + (1 : Int32))) &&& (255 : Int32)), .unset, .unset, .unset] []
  refine oaloadN X0 hx hby d26_48 rfl rfl ?_
  refine oiloadN X0 hx hby d26_49 rfl ?_
  show gs s₁ m 50 #[vr a2, vi at1, vi 2, vi 1, vi ((atv cB (at1 + (1 : Int32))) &&& (255 : Int32)), .unset, .unset, .unset] [(.int at1), (.ref a2)]
  have ib2 : ¬ (at1 < 0 ∨ cB.slots.size ≤ (at1).toNatClampNeg) := inb_of Tb.2.1 (own_inb0 hbn (by decide))
  refine own_st (fun _ kS => X0.baloadBytes hx (j := at1) (v := (.int (atv cB at1))) (by rw [e0]; exact Tb.1.1) (State.isArrayOf_alike hZ.alike Tb.1.2.1) Tb.1.2.2 ib2 (Tb.2.2.2 _ ib2) (g := (mkF m 50 #[vr a2, vi at1, vi 2, vi 1, vi ((atv cB (at1 + (1 : Int32))) &&& (255 : Int32)), .unset, .unset, .unset] [(.int at1), (.ref a2)])) rfl rfl (hb hby d26_50) _ kS) ?_
  show gs s₁ m 51 #[vr a2, vi at1, vi 2, vi 1, vi ((atv cB (at1 + (1 : Int32))) &&& (255 : Int32)), .unset, .unset, .unset] [(.int (atv cB at1))]
  refine own_st (fun _ kS => XS.sipush X0.here hx rfl (hb hby d26_51) kS) ?_
  refine own_st (fun _ kS => XS.iand X0.here hx rfl (hb hby d26_54) rfl kS) ?_
  refine own_st (fun _ kS => XS.goto X0.here hx rfl (pc0 := 55) (pc' := 67) rfl (hb hby d26_55) (by decide) (by decide) kS) ?_
  refine own_st (fun _ kS => XS.istore X0.here hx rfl (hb hby d26_67) rfl (l' := #[vr a2, vi at1, vi 2, vi 1, vi ((atv cB (at1 + (1 : Int32))) &&& (255 : Int32)), vi ((atv cB at1) &&& (255 : Int32)), .unset, .unset]) rfl kS) ?_
  refine oiload X0 hx hby d26_69 rfl ?_
  refine own_st (fun _ kS => XS.bipush X0.here hx rfl (hb hby d26_71) kS) ?_
  refine own_st (fun _ kS => XT.ishl X0.here hx rfl (hb hby d26_73) rfl kS) ?_
  refine oiload X0 hx hby d26_74 rfl ?_
  refine own_st (fun _ kS => XT.ior X0.here hx rfl (hb hby d26_76) rfl kS) ?_
  refine own_st (fun _ kS => XT.i2c X0.here hx rfl (hb hby d26_77) rfl kS) ?_
  show gs s₁ m 78 #[vr a2, vi at1, vi 2, vi 1, vi ((atv cB (at1 + (1 : Int32))) &&& (255 : Int32)), vi ((atv cB at1) &&& (255 : Int32)), .unset, .unset] [(.int (((((atv cB (at1 + (1 : Int32))) &&& (255 : Int32)) <<< ((8 : Int32) &&& 31)) ||| ((atv cB at1) &&& (255 : Int32))).toUInt32.toUInt16.toUInt32.toInt32))]
  exact own_retN X0 hx hlk (t := .char) hret (by simp) (hb hby d26_78) (by decide) (by decide) (v' := (nar .char (((((atv cB (at1 + (1 : Int32))) &&& (255 : Int32)) <<< ((8 : Int32) &&& 31)) ||| ((atv cB at1) &&& (255 : Int32))).toUInt32.toUInt16.toUInt32.toInt32))) rfl (by rw [e0]; exact ⟨rfl, N0, rfl⟩)
theorem d1_0 : dk B30 0 (.iload_n 0) 1 := by decide +kernel
theorem d1_1 : dk B30 1 (.ifCond .ne 7) 3 := by decide +kernel
theorem d1_4 : dk B30 4 (.getstatic 34) 3 := by decide +kernel
theorem d1_7 : dk B30 7 (.areturn) 1 := by decide +kernel
theorem d1_8 : dk B30 8 (.iload_n 0) 1 := by decide +kernel
theorem d1_9 : dk B30 9 (.iconst 1) 1 := by decide +kernel
theorem d1_10 : dk B30 10 (.if_icmp .ne 7) 3 := by decide +kernel
theorem d1_13 : dk B30 13 (.getstatic 38) 3 := by decide +kernel
theorem d1_16 : dk B30 16 (.areturn) 1 := by decide +kernel
theorem d1_17 : dk B30 17 (.iload_n 0) 1 := by decide +kernel
theorem d1_18 : dk B30 18 (.iconst 2) 1 := by decide +kernel
theorem d1_19 : dk B30 19 (.if_icmp .ne 7) 3 := by decide +kernel
theorem d1_22 : dk B30 22 (.getstatic 41) 3 := by decide +kernel
theorem d1_25 : dk B30 25 (.areturn) 1 := by decide +kernel
theorem d1_26 : dk B30 26 (.iload_n 0) 1 := by decide +kernel
theorem d1_27 : dk B30 27 (.iconst 3) 1 := by decide +kernel
theorem d1_28 : dk B30 28 (.if_icmp .ne 7) 3 := by decide +kernel
theorem d1_31 : dk B30 31 (.getstatic 44) 3 := by decide +kernel
theorem d1_34 : dk B30 34 (.areturn) 1 := by decide +kernel
theorem d1_35 : dk B30 35 (.iload_n 0) 1 := by decide +kernel
theorem d1_36 : dk B30 36 (.iconst 4) 1 := by decide +kernel
theorem d1_37 : dk B30 37 (.if_icmp .ne 7) 3 := by decide +kernel
theorem d1_40 : dk B30 40 (.getstatic 47) 3 := by decide +kernel
theorem d1_43 : dk B30 43 (.areturn) 1 := by decide +kernel
theorem d1_44 : dk B30 44 (.getstatic 50) 3 := by decide +kernel
theorem d1_47 : dk B30 47 (.areturn) 1 := by decide +kernel
theorem pn_1 : plainName "com/example/provenir/provenir/TextEncodingDecodePinLaw" = true := by first | (simp [plainName, overriddenIn]; done) | decide +kernel
theorem ef_enc_0 (m : MethodId)  : entryFrame m #[(.int 0)] 1 = mkF m 0 #[.val (.int 0)] [] := by first | (simp [entryFrame, mkF, argsToLocals, Value.category]; done) | rfl
def Q_enc_0 (Z : State) (w : Addr) (h0 : Heap) (n0 : Nat) (v : Option Value) (h : Heap) (L : List Loc) : Prop := v = some (.ref w) ∧ Fr n0 L ∧ h = h0
theorem rm_enc_0 (l : Launch) (Z : State) (a0 : Array Value) (hw : HW a0 Z) (ws : List Jvm.Cond) (w : Addr) (h0 : Heap) (n0 : Nat) (Z0 : n0 ≤ h0.size) (O0 : Old Z n0 h0) (S_UTF_8 : sk5 Z Z.heap (.ref w)) :
    M30 l ws (rmk 0 0 0 0) Z #[(.int 0)] h0 (Q_enc_0 Z w h0 n0) := by
  refine own_go "com/example/provenir/provenir/TextEncodingDecodePinLaw" rfl (plainFor_of_name pn_1) (fun m => ef_enc_0 m ) (fun p e s m below meth c s₁ hx hby hml hown hnm hlk hret hZ X0 e0 => ?_)
  have N0 := Fr.nil n0
  show gs s₁ m 0 #[vi 0] []
  refine oiloadN X0 hx hby d1_0 rfl ?_
  refine own_st (fun _ kS => XS.ifNo X0.here hx rfl (hb hby d1_1) rfl ((if0 _ _).trans (teq (by decide : (0 : Int32) = (0 : Int32))).2) kS) ?_
  show gs s₁ m 4 #[vi 0] []
  obtain ⟨T1, X1, e1, st1⟩ := getS2 X0 hx hZ hown (host := "") (Or.inl (own_w hw 103 rfl)) Via.refl e0 (Sta.ext O0.2 S_UTF_8) (g := (mkF m 4 #[vi 0] [])) rfl (hb hby d1_4)
  refine own_st st1 ?_
  show gs T1 m 7 #[vi 0] [(.ref w)]
  exact own_retA X1 hx hlk hret rfl rfl (hb hby d1_7) (by decide) (by decide) (by rw [e1]; exact ⟨rfl, N0, rfl⟩)
theorem ef_enc_1 (m : MethodId)  : entryFrame m #[(.int 1)] 1 = mkF m 0 #[.val (.int 1)] [] := by first | (simp [entryFrame, mkF, argsToLocals, Value.category]; done) | rfl
def Q_enc_1 (Z : State) (w : Addr) (h0 : Heap) (n0 : Nat) (v : Option Value) (h : Heap) (L : List Loc) : Prop := v = some (.ref w) ∧ Fr n0 L ∧ h = h0
theorem rm_enc_1 (l : Launch) (Z : State) (a0 : Array Value) (hw : HW a0 Z) (ws : List Jvm.Cond) (w : Addr) (h0 : Heap) (n0 : Nat) (Z0 : n0 ≤ h0.size) (O0 : Old Z n0 h0) (S_UTF_32BE : sk6 Z Z.heap (.ref w)) :
    M30 l ws (rmk 0 0 0 0) Z #[(.int 1)] h0 (Q_enc_1 Z w h0 n0) := by
  refine own_go "com/example/provenir/provenir/TextEncodingDecodePinLaw" rfl (plainFor_of_name pn_1) (fun m => ef_enc_1 m ) (fun p e s m below meth c s₁ hx hby hml hown hnm hlk hret hZ X0 e0 => ?_)
  have N0 := Fr.nil n0
  show gs s₁ m 0 #[vi 1] []
  refine oiloadN X0 hx hby d1_0 rfl ?_
  refine own_st (fun _ kS => XS.ifYes X0.here hx rfl (pc0 := 1) (pc' := 8) rfl (hb hby d1_1) rfl ((if0 _ _).trans (feq (by decide : ¬ ((1 : Int32) = (0 : Int32)))).2) (by decide) (by decide) kS) ?_
  show gs s₁ m 8 #[vi 1] []
  refine oiloadN X0 hx hby d1_8 rfl ?_
  refine oiconst X0 hx hby d1_9 ?_
  refine own_st (fun _ kS => XS.icmpNo X0.here hx rfl (hb hby d1_10) rfl (teq (by decide : (1 : Int32) = (1 : Int32))).2 kS) ?_
  show gs s₁ m 13 #[vi 1] []
  obtain ⟨T1, X1, e1, st1⟩ := getS2 X0 hx hZ hown (host := "") (Or.inl (own_w hw 105 rfl)) Via.refl e0 (Sta.ext O0.2 S_UTF_32BE) (g := (mkF m 13 #[vi 1] [])) rfl (hb hby d1_13)
  refine own_st st1 ?_
  show gs T1 m 16 #[vi 1] [(.ref w)]
  exact own_retA X1 hx hlk hret rfl rfl (hb hby d1_16) (by decide) (by decide) (by rw [e1]; exact ⟨rfl, N0, rfl⟩)
theorem ef_enc_2 (m : MethodId)  : entryFrame m #[(.int 2)] 1 = mkF m 0 #[.val (.int 2)] [] := by first | (simp [entryFrame, mkF, argsToLocals, Value.category]; done) | rfl
def Q_enc_2 (Z : State) (w : Addr) (h0 : Heap) (n0 : Nat) (v : Option Value) (h : Heap) (L : List Loc) : Prop := v = some (.ref w) ∧ Fr n0 L ∧ h = h0
theorem rm_enc_2 (l : Launch) (Z : State) (a0 : Array Value) (hw : HW a0 Z) (ws : List Jvm.Cond) (w : Addr) (h0 : Heap) (n0 : Nat) (Z0 : n0 ≤ h0.size) (O0 : Old Z n0 h0) (S_UTF_32LE : sk7 Z Z.heap (.ref w)) :
    M30 l ws (rmk 0 0 0 0) Z #[(.int 2)] h0 (Q_enc_2 Z w h0 n0) := by
  refine own_go "com/example/provenir/provenir/TextEncodingDecodePinLaw" rfl (plainFor_of_name pn_1) (fun m => ef_enc_2 m ) (fun p e s m below meth c s₁ hx hby hml hown hnm hlk hret hZ X0 e0 => ?_)
  have N0 := Fr.nil n0
  show gs s₁ m 0 #[vi 2] []
  refine oiloadN X0 hx hby d1_0 rfl ?_
  refine own_st (fun _ kS => XS.ifYes X0.here hx rfl (pc0 := 1) (pc' := 8) rfl (hb hby d1_1) rfl ((if0 _ _).trans (feq (by decide : ¬ ((2 : Int32) = (0 : Int32)))).2) (by decide) (by decide) kS) ?_
  show gs s₁ m 8 #[vi 2] []
  refine oiloadN X0 hx hby d1_8 rfl ?_
  refine oiconst X0 hx hby d1_9 ?_
  refine own_st (fun _ kS => XS.icmpYes X0.here hx rfl (pc0 := 10) (pc' := 17) rfl (hb hby d1_10) rfl (feq (by decide : ¬ ((2 : Int32) = (1 : Int32)))).2 (by decide) (by decide) kS) ?_
  show gs s₁ m 17 #[vi 2] []
  refine oiloadN X0 hx hby d1_17 rfl ?_
  refine oiconst X0 hx hby d1_18 ?_
  refine own_st (fun _ kS => XS.icmpNo X0.here hx rfl (hb hby d1_19) rfl (teq (by decide : (2 : Int32) = (2 : Int32))).2 kS) ?_
  show gs s₁ m 22 #[vi 2] []
  obtain ⟨T1, X1, e1, st1⟩ := getS2 X0 hx hZ hown (host := "") (Or.inl (own_w hw 5 rfl)) Via.refl e0 (Sta.ext O0.2 S_UTF_32LE) (g := (mkF m 22 #[vi 2] [])) rfl (hb hby d1_22)
  refine own_st st1 ?_
  show gs T1 m 25 #[vi 2] [(.ref w)]
  exact own_retA X1 hx hlk hret rfl rfl (hb hby d1_25) (by decide) (by decide) (by rw [e1]; exact ⟨rfl, N0, rfl⟩)
theorem ef_enc_3 (m : MethodId)  : entryFrame m #[(.int 3)] 1 = mkF m 0 #[.val (.int 3)] [] := by first | (simp [entryFrame, mkF, argsToLocals, Value.category]; done) | rfl
def Q_enc_3 (Z : State) (w : Addr) (h0 : Heap) (n0 : Nat) (v : Option Value) (h : Heap) (L : List Loc) : Prop := v = some (.ref w) ∧ Fr n0 L ∧ h = h0
theorem rm_enc_3 (l : Launch) (Z : State) (a0 : Array Value) (hw : HW a0 Z) (ws : List Jvm.Cond) (w : Addr) (h0 : Heap) (n0 : Nat) (Z0 : n0 ≤ h0.size) (O0 : Old Z n0 h0) (S_UTF_16BE : sk8 Z Z.heap (.ref w)) :
    M30 l ws (rmk 0 0 0 0) Z #[(.int 3)] h0 (Q_enc_3 Z w h0 n0) := by
  refine own_go "com/example/provenir/provenir/TextEncodingDecodePinLaw" rfl (plainFor_of_name pn_1) (fun m => ef_enc_3 m ) (fun p e s m below meth c s₁ hx hby hml hown hnm hlk hret hZ X0 e0 => ?_)
  have N0 := Fr.nil n0
  show gs s₁ m 0 #[vi 3] []
  refine oiloadN X0 hx hby d1_0 rfl ?_
  refine own_st (fun _ kS => XS.ifYes X0.here hx rfl (pc0 := 1) (pc' := 8) rfl (hb hby d1_1) rfl ((if0 _ _).trans (feq (by decide : ¬ ((3 : Int32) = (0 : Int32)))).2) (by decide) (by decide) kS) ?_
  show gs s₁ m 8 #[vi 3] []
  refine oiloadN X0 hx hby d1_8 rfl ?_
  refine oiconst X0 hx hby d1_9 ?_
  refine own_st (fun _ kS => XS.icmpYes X0.here hx rfl (pc0 := 10) (pc' := 17) rfl (hb hby d1_10) rfl (feq (by decide : ¬ ((3 : Int32) = (1 : Int32)))).2 (by decide) (by decide) kS) ?_
  show gs s₁ m 17 #[vi 3] []
  refine oiloadN X0 hx hby d1_17 rfl ?_
  refine oiconst X0 hx hby d1_18 ?_
  refine own_st (fun _ kS => XS.icmpYes X0.here hx rfl (pc0 := 19) (pc' := 26) rfl (hb hby d1_19) rfl (feq (by decide : ¬ ((3 : Int32) = (2 : Int32)))).2 (by decide) (by decide) kS) ?_
  show gs s₁ m 26 #[vi 3] []
  refine oiloadN X0 hx hby d1_26 rfl ?_
  refine oiconst X0 hx hby d1_27 ?_
  refine own_st (fun _ kS => XS.icmpNo X0.here hx rfl (hb hby d1_28) rfl (teq (by decide : (3 : Int32) = (3 : Int32))).2 kS) ?_
  show gs s₁ m 31 #[vi 3] []
  obtain ⟨T1, X1, e1, st1⟩ := getS2 X0 hx hZ hown (host := "") (Or.inl (own_w hw 212 rfl)) Via.refl e0 (Sta.ext O0.2 S_UTF_16BE) (g := (mkF m 31 #[vi 3] [])) rfl (hb hby d1_31)
  refine own_st st1 ?_
  show gs T1 m 34 #[vi 3] [(.ref w)]
  exact own_retA X1 hx hlk hret rfl rfl (hb hby d1_34) (by decide) (by decide) (by rw [e1]; exact ⟨rfl, N0, rfl⟩)
theorem ef_enc_4 (m : MethodId)  : entryFrame m #[(.int 4)] 1 = mkF m 0 #[.val (.int 4)] [] := by first | (simp [entryFrame, mkF, argsToLocals, Value.category]; done) | rfl
def Q_enc_4 (Z : State) (w : Addr) (h0 : Heap) (n0 : Nat) (v : Option Value) (h : Heap) (L : List Loc) : Prop := v = some (.ref w) ∧ Fr n0 L ∧ h = h0
theorem rm_enc_4 (l : Launch) (Z : State) (a0 : Array Value) (hw : HW a0 Z) (ws : List Jvm.Cond) (w : Addr) (h0 : Heap) (n0 : Nat) (Z0 : n0 ≤ h0.size) (O0 : Old Z n0 h0) (S_UTF_16LE : sk9 Z Z.heap (.ref w)) :
    M30 l ws (rmk 0 0 0 0) Z #[(.int 4)] h0 (Q_enc_4 Z w h0 n0) := by
  refine own_go "com/example/provenir/provenir/TextEncodingDecodePinLaw" rfl (plainFor_of_name pn_1) (fun m => ef_enc_4 m ) (fun p e s m below meth c s₁ hx hby hml hown hnm hlk hret hZ X0 e0 => ?_)
  have N0 := Fr.nil n0
  show gs s₁ m 0 #[vi 4] []
  refine oiloadN X0 hx hby d1_0 rfl ?_
  refine own_st (fun _ kS => XS.ifYes X0.here hx rfl (pc0 := 1) (pc' := 8) rfl (hb hby d1_1) rfl ((if0 _ _).trans (feq (by decide : ¬ ((4 : Int32) = (0 : Int32)))).2) (by decide) (by decide) kS) ?_
  show gs s₁ m 8 #[vi 4] []
  refine oiloadN X0 hx hby d1_8 rfl ?_
  refine oiconst X0 hx hby d1_9 ?_
  refine own_st (fun _ kS => XS.icmpYes X0.here hx rfl (pc0 := 10) (pc' := 17) rfl (hb hby d1_10) rfl (feq (by decide : ¬ ((4 : Int32) = (1 : Int32)))).2 (by decide) (by decide) kS) ?_
  show gs s₁ m 17 #[vi 4] []
  refine oiloadN X0 hx hby d1_17 rfl ?_
  refine oiconst X0 hx hby d1_18 ?_
  refine own_st (fun _ kS => XS.icmpYes X0.here hx rfl (pc0 := 19) (pc' := 26) rfl (hb hby d1_19) rfl (feq (by decide : ¬ ((4 : Int32) = (2 : Int32)))).2 (by decide) (by decide) kS) ?_
  show gs s₁ m 26 #[vi 4] []
  refine oiloadN X0 hx hby d1_26 rfl ?_
  refine oiconst X0 hx hby d1_27 ?_
  refine own_st (fun _ kS => XS.icmpYes X0.here hx rfl (pc0 := 28) (pc' := 35) rfl (hb hby d1_28) rfl (feq (by decide : ¬ ((4 : Int32) = (3 : Int32)))).2 (by decide) (by decide) kS) ?_
  show gs s₁ m 35 #[vi 4] []
  refine oiloadN X0 hx hby d1_35 rfl ?_
  refine oiconst X0 hx hby d1_36 ?_
  refine own_st (fun _ kS => XS.icmpNo X0.here hx rfl (hb hby d1_37) rfl (teq (by decide : (4 : Int32) = (4 : Int32))).2 kS) ?_
  show gs s₁ m 40 #[vi 4] []
  obtain ⟨T1, X1, e1, st1⟩ := getS2 X0 hx hZ hown (host := "") (Or.inl (own_w hw 101 rfl)) Via.refl e0 (Sta.ext O0.2 S_UTF_16LE) (g := (mkF m 40 #[vi 4] [])) rfl (hb hby d1_40)
  refine own_st st1 ?_
  show gs T1 m 43 #[vi 4] [(.ref w)]
  exact own_retA X1 hx hlk hret rfl rfl (hb hby d1_43) (by decide) (by decide) (by rw [e1]; exact ⟨rfl, N0, rfl⟩)
theorem ef_enc_5 (m : MethodId)  : entryFrame m #[(.int 5)] 1 = mkF m 0 #[.val (.int 5)] [] := by first | (simp [entryFrame, mkF, argsToLocals, Value.category]; done) | rfl
def Q_enc_5 (Z : State) (w : Addr) (h0 : Heap) (n0 : Nat) (v : Option Value) (h : Heap) (L : List Loc) : Prop := v = some (.ref w) ∧ Fr n0 L ∧ h = h0
theorem rm_enc_5 (l : Launch) (Z : State) (a0 : Array Value) (hw : HW a0 Z) (ws : List Jvm.Cond) (w : Addr) (h0 : Heap) (n0 : Nat) (Z0 : n0 ≤ h0.size) (O0 : Old Z n0 h0) (S_UNMARKED : sk10 Z Z.heap (.ref w)) :
    M30 l ws (rmk 0 0 0 0) Z #[(.int 5)] h0 (Q_enc_5 Z w h0 n0) := by
  refine own_go "com/example/provenir/provenir/TextEncodingDecodePinLaw" rfl (plainFor_of_name pn_1) (fun m => ef_enc_5 m ) (fun p e s m below meth c s₁ hx hby hml hown hnm hlk hret hZ X0 e0 => ?_)
  have N0 := Fr.nil n0
  show gs s₁ m 0 #[vi 5] []
  refine oiloadN X0 hx hby d1_0 rfl ?_
  refine own_st (fun _ kS => XS.ifYes X0.here hx rfl (pc0 := 1) (pc' := 8) rfl (hb hby d1_1) rfl ((if0 _ _).trans (feq (by decide : ¬ ((5 : Int32) = (0 : Int32)))).2) (by decide) (by decide) kS) ?_
  show gs s₁ m 8 #[vi 5] []
  refine oiloadN X0 hx hby d1_8 rfl ?_
  refine oiconst X0 hx hby d1_9 ?_
  refine own_st (fun _ kS => XS.icmpYes X0.here hx rfl (pc0 := 10) (pc' := 17) rfl (hb hby d1_10) rfl (feq (by decide : ¬ ((5 : Int32) = (1 : Int32)))).2 (by decide) (by decide) kS) ?_
  show gs s₁ m 17 #[vi 5] []
  refine oiloadN X0 hx hby d1_17 rfl ?_
  refine oiconst X0 hx hby d1_18 ?_
  refine own_st (fun _ kS => XS.icmpYes X0.here hx rfl (pc0 := 19) (pc' := 26) rfl (hb hby d1_19) rfl (feq (by decide : ¬ ((5 : Int32) = (2 : Int32)))).2 (by decide) (by decide) kS) ?_
  show gs s₁ m 26 #[vi 5] []
  refine oiloadN X0 hx hby d1_26 rfl ?_
  refine oiconst X0 hx hby d1_27 ?_
  refine own_st (fun _ kS => XS.icmpYes X0.here hx rfl (pc0 := 28) (pc' := 35) rfl (hb hby d1_28) rfl (feq (by decide : ¬ ((5 : Int32) = (3 : Int32)))).2 (by decide) (by decide) kS) ?_
  show gs s₁ m 35 #[vi 5] []
  refine oiloadN X0 hx hby d1_35 rfl ?_
  refine oiconst X0 hx hby d1_36 ?_
  refine own_st (fun _ kS => XS.icmpYes X0.here hx rfl (pc0 := 37) (pc' := 44) rfl (hb hby d1_37) rfl (feq (by decide : ¬ ((5 : Int32) = (4 : Int32)))).2 (by decide) (by decide) kS) ?_
  show gs s₁ m 44 #[vi 5] []
  obtain ⟨T1, X1, e1, st1⟩ := getS2 X0 hx hZ hown (host := "") (Or.inl (own_w hw 214 rfl)) Via.refl e0 (Sta.ext O0.2 S_UNMARKED) (g := (mkF m 44 #[vi 5] [])) rfl (hb hby d1_44)
  refine own_st st1 ?_
  show gs T1 m 47 #[vi 5] [(.ref w)]
  exact own_retA X1 hx hlk hret rfl rfl (hb hby d1_47) (by decide) (by decide) (by rw [e1]; exact ⟨rfl, N0, rfl⟩)
theorem ef_unitAt (m : MethodId) (x0 : Addr) (x1 : Addr) (x2 : Int32) : entryFrame m #[(.ref x0), (.ref x1), (.int x2)] 5 = mkF m 0 #[.val (.ref x0), .val (.ref x1), .val (.int x2), .unset, .unset] [] := by first | (simp [entryFrame, mkF, argsToLocals, Value.category]; done) | rfl
def Q_unitAt (Z : State) (a1 : Addr) (a2 : Addr) (cB : Cell) (at1 : Int32) (w : Int32) (le : Int32) (u : Int32) (h0 : Heap) (n0 : Nat) (v : Option Value) (h : Heap) (L : List Loc) : Prop := v = some (.int u) ∧ Fr n0 L ∧ h = h0
theorem rm_unitAt (l : Launch) (Z : State) (a0 : Array Value) (hw : HW a0 Z) (ws : List Jvm.Cond) (a1 : Addr) (a2 : Addr) (cB : Cell) (at1 : Int32) (w : Int32) (le : Int32) (u : Int32) (h0 : Heap) (n0 : Nat) (Z0 : n0 ≤ h0.size) (O0 : Old Z n0 h0) (Fw : fk17 Z Z.heap a1 (.int w)) (Fl : fk18 Z Z.heap a1 (.int le)) (Tb : Tab Z h0 a2 cB .byte (8 : Int32)) (hbd : 0 ≤ at1.toInt ∧ at1.toInt + w.toInt ≤ 8) (hwl : own_wl w le cB at1 u) :
    M28 l ws (rmk 0 0 0 0) Z #[(.ref a1), (.ref a2), (.int at1)] h0 (Q_unitAt Z a1 a2 cB at1 w le u h0 n0) := by
  rcases hwl with ⟨rfl, rfl, rfl⟩ | ⟨rfl, rfl, rfl⟩ | ⟨rfl, rfl, rfl⟩ | ⟨rfl, rfl, rfl⟩ | ⟨rfl, rfl, rfl⟩
  · exact rm_unitAt_1_0 l Z a0 hw ws a1 a2 cB at1 h0 n0 Z0 O0 Fw Tb (own_bc1 hbd)
  · exact rm_unitAt_4_0 l Z a0 hw ws a1 a2 cB at1 h0 n0 Z0 O0 Fw Fl Tb (own_bc4 hbd)
  · exact rm_unitAt_4_1 l Z a0 hw ws a1 a2 cB at1 h0 n0 Z0 O0 Fw Fl Tb (own_bc4 hbd)
  · exact rm_unitAt_2_0 l Z a0 hw ws a1 a2 cB at1 h0 n0 Z0 O0 Fw Fl Tb (own_bc2 hbd)
  · exact rm_unitAt_2_1 l Z a0 hw ws a1 a2 cB at1 h0 n0 Z0 O0 Fw Fl Tb (own_bc2 hbd)
theorem ef_expected (m : MethodId) (x0 : Addr) (x1 : Int32) (x2 : Int32) (x3 : Int32) : entryFrame m #[(.ref x0), (.int x1), (.int x2), (.int x3)] 8 = mkF m 0 #[.val (.ref x0), .val (.int x1), .val (.int x2), .val (.int x3), .unset, .unset, .unset, .unset] [] := by first | (simp [entryFrame, mkF, argsToLocals, Value.category]; done) | rfl
def Q_expected (Z : State) (a2 : Addr) (cB : Cell) (at1 : Int32) (w : Int32) (le : Int32) (u : Int32) (h0 : Heap) (n0 : Nat) (v : Option Value) (h : Heap) (L : List Loc) : Prop := v = some (.int (own_chr u)) ∧ Fr n0 L ∧ h = h0
theorem rm_expected (l : Launch) (Z : State) (a0 : Array Value) (hw : HW a0 Z) (ws : List Jvm.Cond) (a2 : Addr) (cB : Cell) (at1 : Int32) (w : Int32) (le : Int32) (u : Int32) (h0 : Heap) (n0 : Nat) (Z0 : n0 ≤ h0.size) (Tb : Tab Z h0 a2 cB .byte (8 : Int32)) (hbd : 0 ≤ at1.toInt ∧ at1.toInt + w.toInt ≤ 8) (hwl : own_wl w le cB at1 u) :
    M29 l ws (rmk 0 0 0 0) Z #[(.ref a2), (.int at1), (.int w), (.int le)] h0 (Q_expected Z a2 cB at1 w le u h0 n0) := by
  rcases hwl with ⟨rfl, rfl, rfl⟩ | ⟨rfl, rfl, rfl⟩ | ⟨rfl, rfl, rfl⟩ | ⟨rfl, rfl, rfl⟩ | ⟨rfl, rfl, rfl⟩
  · rw [show Q_expected Z a2 cB at1 1 0 (own_un1_0 cB at1) h0 n0 = Q_expected_1_0 Z a2 cB at1 h0 n0 by funext v h L; unfold Q_expected Q_expected_1_0; rw [own_eq1_0]]
    exact rm_expected_1_0 l Z a0 hw ws a2 cB at1 h0 n0 Z0 Tb (own_bc1 hbd)
  · rw [show Q_expected Z a2 cB at1 4 0 (own_un4_0 cB at1) h0 n0 = Q_expected_4_0 Z a2 cB at1 h0 n0 by funext v h L; unfold Q_expected Q_expected_4_0; rw [own_eq4_0]]
    exact rm_expected_4_0 l Z a0 hw ws a2 cB at1 h0 n0 Z0 Tb (own_bc4 hbd)
  · rw [show Q_expected Z a2 cB at1 4 1 (own_un4_1 cB at1) h0 n0 = Q_expected_4_1 Z a2 cB at1 h0 n0 by funext v h L; unfold Q_expected Q_expected_4_1; rw [own_eq4_1]]
    exact rm_expected_4_1 l Z a0 hw ws a2 cB at1 h0 n0 Z0 Tb (own_bc4 hbd)
  · rw [show Q_expected Z a2 cB at1 2 0 (own_un2_0 cB at1) h0 n0 = Q_expected_2_0 Z a2 cB at1 h0 n0 by funext v h L; unfold Q_expected Q_expected_2_0; rw [own_eq2_0]]
    exact rm_expected_2_0 l Z a0 hw ws a2 cB at1 h0 n0 Z0 Tb (own_bc2 hbd)
  · rw [show Q_expected Z a2 cB at1 2 1 (own_un2_1 cB at1) h0 n0 = Q_expected_2_1 Z a2 cB at1 h0 n0 by funext v h L; unfold Q_expected Q_expected_2_1; rw [own_eq2_1]]
    exact rm_expected_2_1 l Z a0 hw ws a2 cB at1 h0 n0 Z0 Tb (own_bc2 hbd)
theorem d2_0 : dk B31 0 (.new 95) 3 := by decide +kernel
theorem d2_3 : dk B31 3 (.dup) 1 := by decide +kernel
theorem d2_4 : dk B31 4 (.iload_n 3) 1 := by decide +kernel
theorem d2_5 : dk B31 5 (.iload_n 2) 1 := by decide +kernel
theorem d2_6 : dk B31 6 (.isub) 1 := by decide +kernel
theorem d2_7 : dk B31 7 (.aload_n 0) 1 := by decide +kernel
theorem d2_8 : dk B31 8 (.getfield 41) 3 := by decide +kernel
theorem d2_11 : dk B31 11 (.idiv) 1 := by decide +kernel
theorem d2_12 : dk B31 12 (.invokespecial 97) 3 := by decide +kernel
theorem d2_15 : dk B31 15 (.astore 4) 2 := by decide +kernel
theorem d2_17 : dk B31 17 (.iload_n 2) 1 := by decide +kernel
theorem d2_18 : dk B31 18 (.istore 5) 2 := by decide +kernel
theorem d2_20 : dk B31 20 (.iload 5) 2 := by decide +kernel
theorem d2_22 : dk B31 22 (.iload_n 3) 1 := by decide +kernel
theorem d2_23 : dk B31 23 (.if_icmp .ge 50) 3 := by decide +kernel
theorem d2_26 : dk B31 26 (.aload_n 0) 1 := by decide +kernel
theorem d2_27 : dk B31 27 (.aload_n 1) 1 := by decide +kernel
theorem d2_28 : dk B31 28 (.iload 5) 2 := by decide +kernel
theorem d2_30 : dk B31 30 (.invokevirtual 100) 3 := by decide +kernel
theorem d2_33 : dk B31 33 (.istore 6) 2 := by decide +kernel
theorem d2_35 : dk B31 35 (.aload 4) 2 := by decide +kernel
theorem d2_37 : dk B31 37 (.iload 6) 2 := by decide +kernel
theorem d2_39 : dk B31 39 (.ifCond .lt 16) 3 := by decide +kernel
theorem d2_42 : dk B31 42 (.iload 6) 2 := by decide +kernel
theorem d2_44 : dk B31 44 (.ldc 106) 2 := by decide +kernel
theorem d2_46 : dk B31 46 (.if_icmp .gt 9) 3 := by decide +kernel
theorem d2_49 : dk B31 49 (.iload 6) 2 := by decide +kernel
theorem d2_51 : dk B31 51 (.i2c) 1 := by decide +kernel
theorem d2_52 : dk B31 52 (.goto 5) 3 := by decide +kernel
theorem d2_55 : dk B31 55 (.ldc 107) 2 := by decide +kernel
theorem d2_57 : dk B31 57 (.invokevirtual 108) 3 := by decide +kernel
theorem d2_60 : dk B31 60 (.pop) 1 := by decide +kernel
theorem d2_61 : dk B31 61 (.iload 5) 2 := by decide +kernel
theorem d2_63 : dk B31 63 (.aload_n 0) 1 := by decide +kernel
theorem d2_64 : dk B31 64 (.getfield 41) 3 := by decide +kernel
theorem d2_67 : dk B31 67 (.iadd) 1 := by decide +kernel
theorem d2_68 : dk B31 68 (.istore 5) 2 := by decide +kernel
theorem d2_70 : dk B31 70 (.goto (-50)) 3 := by decide +kernel
theorem d2_73 : dk B31 73 (.aload 4) 2 := by decide +kernel
theorem d2_75 : dk B31 75 (.invokevirtual 112) 3 := by decide +kernel
theorem d2_78 : dk B31 78 (.areturn) 1 := by decide +kernel
theorem pn_2 : plainName "com/example/provenir/provenir/TextEncoding" = true := by first | (simp [plainName, overriddenIn]; done) | decide +kernel
theorem own_pd21 : parseMethodDescriptor "()Ljava/lang/String;" = some ⟨[], some (.object "java/lang/String")⟩ := by decide +kernel
theorem ef_dec_0_E (m : MethodId) (x0 : Addr) (x1 : Addr) (x2 : Int32) (x3 : Int32) : entryFrame m #[(.ref x0), (.ref x1), (.int x2), (.int x3)] 7 = mkF m 0 #[.val (.ref x0), .val (.ref x1), .val (.int x2), .val (.int x3), .unset, .unset, .unset] [] := by first | (simp [entryFrame, mkF, argsToLocals, Value.category]; done) | rfl
def Q_dec_0_E (Z : State) (a1 : Addr) (a2 : Addr) (cB : Cell) (at1 : Int32) (t1 : Int32) (w : Int32) (le : Int32) (zCS : Int32) (fm : Value) (h0 : Heap) (n0 : Nat) (v : Option Value) (h : Heap) (L : List Loc) : Prop := ∃ bS : Addr, ∃ tN : Addr, ∃ kN : ClassId, v = some (.ref bS) ∧ Fr n0 L ∧ Keep h0 h [] ∧ ek21 Z h bS ∧ fk15 Z h bS (.int 0) ∧ fk16 Z h bS (.ref tN) ∧ Arv Z h tN kN .byte (0 : Int32) [] (.int 0)
theorem rm_dec_0_E (l : Launch) (Z : State) (a0 : Array Value) (hw : HW a0 Z) (ws : List Jvm.Cond) (a1 : Addr) (a2 : Addr) (cB : Cell) (at1 : Int32) (t1 : Int32) (w : Int32) (le : Int32) (zCS : Int32) (fm : Value) (h0 : Heap) (n0 : Nat) (Z0 : n0 ≤ h0.size) (O0 : Old Z n0 h0) (E_e : ek22 Z Z.heap a1) (Fw : fk17 Z Z.heap a1 (.int w)) (Fl : fk18 Z Z.heap a1 (.int le)) (Tb : Tab Z h0 a2 cB .byte (8 : Int32)) (hr : own_rg (0 : Int32) w at1 t1) (S_CS : sk0 Z Z.heap (.int zCS)) (P_CS : ¬ zCS = 0) (S_SF : sk4 Z Z.heap fm) (P_SF : fm.isRef = true) (S_AD : sk1 Z Z.heap (.int 1)) (S_HI : sk2 Z Z.heap (.int 0)) (S_LO : sk3 Z Z.heap (.int 8)) :
    M31 l ws (rmk 5 4 8 71) Z #[(.ref a1), (.ref a2), (.int at1), (.int t1)] h0 (Q_dec_0_E Z a1 a2 cB at1 t1 w le zCS fm h0 n0) := by
  refine own_go "com/example/provenir/provenir/TextEncoding" rfl (plainFor_of_name pn_2) (fun m => ef_dec_0_E m a1 a2 at1 t1) (fun p e s m below meth c s₁ hx hby hml hown hnm hlk hret hZ X0 e0 => ?_)
  have N0 := Fr.nil n0
  have K0 := Keep.refl h0 []
  show gs s₁ m 0 #[vr a1, vr a2, vi at1, vi t1, .unset, .unset, .unset] []
  obtain ⟨T1, h1, X1, e1, E1, A1, D1, -, st1⟩ := newO X0 hx hZ hown (own_w hw 14 rfl) (own_w hw 15 rfl) (own_w hw 16 rfl) e0 (g := (mkF m 0 #[vr a1, vr a2, vi at1, vi t1, .unset, .unset, .unset] [])) rfl (hb hby d2_0) (by decide) (by decide)
  obtain ⟨b1, g1⟩ : ∃ z, z = h0.size := ⟨_, rfl⟩
  have ne_a2_b1 : a2 ≠ b1 := Nat.ne_of_lt (Nat.lt_of_lt_of_eq Tb.lt g1.symm)
  have ge_b1 : n0 ≤ b1 := Nat.le_trans Z0 (Nat.le_of_eq g1.symm)
  have sz_b1 : h0.size ≤ b1 := Nat.le_trans K0.1 (Nat.le_of_eq g1.symm)
  rw [← g1] at A1 D1 st1
  have K1 := K0.ext E1
  have O1 := O0.ext E1
  have F1_value : fk11 Z h1 b1 .null := D1 (Or.inl (own_w hw 34 rfl)) (ty := (.array .byte)) (by decide)
  have F1_coder : fk12 Z h1 b1 (.int 0) := D1 (Or.inl (own_w hw 36 rfl)) (ty := .byte) (by decide)
  have F1_count : fk13 Z h1 b1 (.int 0) := D1 (Or.inl (own_w hw 67 rfl)) (ty := .int) (by decide)
  have F1_maybeLatin1 : fk14 Z h1 b1 (.int 0) := D1 (Or.inl (own_w hw 204 rfl)) (ty := .boolean) (by decide)
  refine own_st st1 ?_
  show gs T1 m 3 #[vr a1, vr a2, vi at1, vi t1, .unset, .unset, .unset] [(.ref b1)]
  refine own_st (fun _ kS => XS.dup X1.here hx rfl (hb hby d2_3) rfl rfl kS) ?_
  refine oiloadN X1 hx hby d2_4 rfl ?_
  refine oiloadN X1 hx hby d2_5 rfl ?_
  refine own_st (fun _ kS => XS.isub X1.here hx rfl (hb hby d2_6) rfl kS) ?_
  refine oaloadN X1 hx hby d2_7 rfl rfl ?_
  obtain ⟨T2, X2, e2, st2⟩ := getF X1 hx hZ hown (host := "") (Or.inl (own_w hw 17 rfl)) Via.refl e1 (Fld.ext O1.2 Fw) (g := (mkF m 8 #[vr a1, vr a2, vi at1, vi t1, .unset, .unset, .unset] [(.ref a1), (.int (t1 - at1)), (.ref b1), (.ref b1)])) rfl rfl (hb hby d2_8)
  refine own_st st2 ?_
  show gs T2 m 11 #[vr a1, vr a2, vi at1, vi t1, .unset, .unset, .unset] [(.int w), (.int (t1 - at1)), (.ref b1), (.ref b1)]
  refine own_st (fun _ kS => XS.idiv X2.here hx rfl (hb hby d2_11) rfl (own_wne hr) kS) ?_
  show gs T2 m 12 #[vr a1, vr a2, vi at1, vi t1, .unset, .unset, .unset] [(.int ((t1 - at1) / w)), (.ref b1), (.ref b1)]
  rw [own_div hr (by decide)]
  show gs T2 m 12 #[vr a1, vr a2, vi at1, vi t1, .unset, .unset, .unset] [(.int 0), (.ref b1), (.ref b1)]
  refine oN 1 X2 hx hZ hby hml hown (own_w hw 19 rfl) (own_w hw 20 rfl) (own_w hw 16 rfl) (own_w hw 21 rfl) (rm_sbInit_0 l Z a0 hw [] b1 zCS h1 n0 (Nat.le_trans Z0 E1.1) O1 A1 ge_b1 F1_value F1_coder F1_count F1_maybeLatin1 S_CS P_CS) e2 rfl (by decide) own_pd0 d2_12 rfl rfl rfl (fun T3 L3 v3 X3 hQ3 => ?_)
  obtain ⟨tN_3, kN_3, rfl, Nq3, Kc3, P3_0, P3_1, P3_2, P3_3, P3_4, P3_5, P3_6, P3_7⟩ := hQ3
  have N3 := Fr.app N0 Nq3
  have ne_a2_tN_3 : a2 ≠ tN_3 := Nat.ne_of_lt (Nat.lt_of_lt_of_le (Tab.ext Tb E1).lt P3_0)
  have ne_b1_tN_3 : b1 ≠ tN_3 := Nat.ne_of_lt (Nat.lt_of_lt_of_le A1.lt P3_0)
  have ge_tN_3 : n0 ≤ tN_3 := Nat.le_trans (Nat.le_trans Z0 E1.1) P3_0
  have sz_tN_3 : h0.size ≤ tN_3 := Nat.le_trans K1.1 P3_0
  have K3 := K1.trans Kc3 (allS (Or.inr sz_b1) all0)
  have O3 := O1.keep Kc3 (allS ge_b1 all0)
  show gs T3 m 15 #[vr a1, vr a2, vi at1, vi t1, .unset, .unset, .unset] [(.ref b1)]
  refine own_st (fun _ kS => XS.astore X3.here hx rfl (hb hby d2_15) rfl rfl (l' := #[vr a1, vr a2, vi at1, vi t1, vr b1, .unset, .unset]) rfl kS) ?_
  refine oiloadN X3 hx hby d2_17 rfl ?_
  refine own_st (fun _ kS => XS.istore X3.here hx rfl (hb hby d2_18) rfl (l' := #[vr a1, vr a2, vi at1, vi t1, vr b1, vi at1, .unset]) rfl kS) ?_
  refine oiload X3 hx hby d2_20 rfl ?_
  refine oiloadN X3 hx hby d2_22 rfl ?_
  refine own_st (fun _ kS => XS.icmpYes X3.here hx rfl (pc0 := 23) (pc' := 73) rfl (hb hby d2_23) rfl (flt (own_lz hr : ¬ (at1 < t1))).2.1 (by decide) (by decide) kS) ?_
  show gs T3 m 73 #[vr a1, vr a2, vi at1, vi t1, vr b1, vi at1, .unset] []
  refine oaload X3 hx hby d2_73 rfl rfl ?_
  refine oV 0 X3 hx hZ hby hml hown (own_w hw 37 rfl) (own_w hw 38 rfl) (own_w hw 40 rfl) (own_w hw 39 rfl) (rm_toStr_0_0 l Z a0 hw [] b1 tN_3 kN_3 zCS T3.heap n0 (Nat.le_trans (Nat.le_trans Z0 E1.1) Kc3.1) O3 P3_2 P3_3 P3_4 P3_5 P3_6 P3_7 P3_1 S_CS P_CS) (own_w hw 41 rfl) (own_w hw 16 rfl) rfl P3_2 (by decide) own_pd21 d2_75 rfl rfl rfl (fun T4 L4 v4 X4 hQ4 => ?_)
  obtain ⟨bS_4, tN_4, rfl, Nq4, Kc4, P4_0, P4_1, P4_2, P4_3, P4_4, P4_5, P4_6⟩ := hQ4
  have N4 := Fr.app N3 Nq4
  have ne_a2_bS_4 : a2 ≠ bS_4 := Nat.ne_of_lt (Nat.lt_of_lt_of_le (own_tabk (Tab.ext Tb E1) Kc3 (ninS ne_a2_b1 nin0)).lt P4_0)
  have ne_b1_bS_4 : b1 ≠ bS_4 := Nat.ne_of_lt (Nat.lt_of_lt_of_le P3_2.lt P4_0)
  have ne_tN_3_bS_4 : tN_3 ≠ bS_4 := Nat.ne_of_lt (Nat.lt_of_lt_of_le P3_1.lt P4_0)
  have ge_bS_4 : n0 ≤ bS_4 := Nat.le_trans (Nat.le_trans (Nat.le_trans Z0 E1.1) Kc3.1) P4_0
  have sz_bS_4 : h0.size ≤ bS_4 := Nat.le_trans K3.1 P4_0
  have ne_a2_tN_4 : a2 ≠ tN_4 := Nat.ne_of_lt (Nat.lt_of_lt_of_le (own_tabk (Tab.ext Tb E1) Kc3 (ninS ne_a2_b1 nin0)).lt P4_1)
  have ne_b1_tN_4 : b1 ≠ tN_4 := Nat.ne_of_lt (Nat.lt_of_lt_of_le P3_2.lt P4_1)
  have ne_tN_3_tN_4 : tN_3 ≠ tN_4 := Nat.ne_of_lt (Nat.lt_of_lt_of_le P3_1.lt P4_1)
  have ge_tN_4 : n0 ≤ tN_4 := Nat.le_trans (Nat.le_trans (Nat.le_trans Z0 E1.1) Kc3.1) P4_1
  have sz_tN_4 : h0.size ≤ tN_4 := Nat.le_trans K3.1 P4_1
  have K4 := K3.trans Kc4 all0
  have O4 := O3.keep Kc4 all0
  show gs T4 m 78 #[vr a1, vr a2, vi at1, vi t1, vr b1, vi at1, .unset] [(.ref bS_4)]
  exact own_retA X4 hx hlk hret rfl rfl (hb hby d2_78) (by decide) (by decide) (show Q_dec_0_E Z a1 a2 cB at1 t1 w le zCS fm h0 n0 _ _ _ from ⟨bS_4, tN_4, kN_3, ⟨rfl, N4, K4, P4_3, P4_4, P4_5, P4_6⟩⟩)
theorem d15_0 : dk B32 0 (.getstatic 38) 3 := by decide +kernel
theorem d15_3 : dk B32 3 (.ifCond .eq 10) 3 := by decide +kernel
theorem d15_6 : dk B32 6 (.aload_n 0) 1 := by decide +kernel
theorem d15_7 : dk B32 7 (.getfield 15) 3 := by decide +kernel
theorem d15_10 : dk B32 10 (.goto 4) 3 := by decide +kernel
theorem d15_13 : dk B32 13 (.iconst 1) 1 := by decide +kernel
theorem d15_14 : dk B32 14 (.ireturn) 1 := by decide +kernel
theorem pn_15 : plainName "java/lang/String" = true := by first | (simp [plainName, overriddenIn]; done) | decide +kernel
theorem ef_coder_0 (m : MethodId) (x0 : Addr) : entryFrame m #[(.ref x0)] 1 = mkF m 0 #[.val (.ref x0)] [] := by first | (simp [entryFrame, mkF, argsToLocals, Value.category]; done) | rfl
def Q_coder_0 (Z : State) (aS : Addr) (zCS : Int32) (h0 : Heap) (n0 : Nat) (v : Option Value) (h : Heap) (L : List Loc) : Prop := v = some (.int 0) ∧ Fr n0 L ∧ h = h0
theorem rm_coder_0 (l : Launch) (Z : State) (a0 : Array Value) (hw : HW a0 Z) (ws : List Jvm.Cond) (aS : Addr) (zCS : Int32) (h0 : Heap) (n0 : Nat) (Z0 : n0 ≤ h0.size) (O0 : Old Z n0 h0) (S_CS : sk0 Z Z.heap (.int zCS)) (P_CS : ¬ zCS = 0) (F0c : fk15 Z h0 aS (.int 0)) :
    M32 l ws (rmk 0 0 0 0) Z #[(.ref aS)] h0 (Q_coder_0 Z aS zCS h0 n0) := by
  refine own_go "java/lang/String" rfl (plainFor_of_name pn_15) (fun m => ef_coder_0 m aS) (fun p e s m below meth c s₁ hx hby hml hown hnm hlk hret hZ X0 e0 => ?_)
  have N0 := Fr.nil n0
  show gs s₁ m 0 #[vr aS] []
  obtain ⟨T1, X1, e1, st1⟩ := getS2 X0 hx hZ hown (host := "") (Or.inl (own_w hw 100 rfl)) Via.refl e0 (Sta.ext O0.2 S_CS) (g := (mkF m 0 #[vr aS] [])) rfl (hb hby d15_0)
  refine own_st st1 ?_
  show gs T1 m 3 #[vr aS] [(.int zCS)]
  refine own_st (fun _ kS => XS.ifNo X1.here hx rfl (hb hby d15_3) rfl ((if0 _ _).trans (feq (P_CS : ¬ (zCS = (0 : Int32)))).1) kS) ?_
  show gs T1 m 6 #[vr aS] []
  refine oaloadN X1 hx hby d15_6 rfl rfl ?_
  obtain ⟨T2, X2, e2, st2⟩ := getF X1 hx hZ hown (host := "") (Or.inl (own_w hw 73 rfl)) Via.refl e1 F0c (g := (mkF m 7 #[vr aS] [(.ref aS)])) rfl rfl (hb hby d15_7)
  refine own_st st2 ?_
  show gs T2 m 10 #[vr aS] [(.int 0)]
  refine own_st (fun _ kS => XS.goto X2.here hx rfl (pc0 := 10) (pc' := 14) rfl (hb hby d15_10) (by decide) (by decide) kS) ?_
  show gs T2 m 14 #[vr aS] [(.int 0)]
  exact own_retN X2 hx hlk (t := .byte) hret (by simp) (hb hby d15_14) (by decide) (by decide) (v' := (0 : Int32)) rfl (by rw [e2]; exact ⟨rfl, N0, rfl⟩)
theorem d14_0 : dk B33 0 (.aload_n 0) 1 := by decide +kernel
theorem d14_1 : dk B33 1 (.getfield 9) 3 := by decide +kernel
theorem d14_4 : dk B33 4 (.arraylength) 1 := by decide +kernel
theorem d14_5 : dk B33 5 (.aload_n 0) 1 := by decide +kernel
theorem d14_6 : dk B33 6 (.invokevirtual 335) 3 := by decide +kernel
theorem d14_9 : dk B33 9 (.ishr) 1 := by decide +kernel
theorem d14_10 : dk B33 10 (.ireturn) 1 := by decide +kernel
theorem pn_14 : plainName "java/lang/String" = true := by first | (simp [plainName, overriddenIn]; done) | decide +kernel
theorem own_pd22 : parseMethodDescriptor "()B" = some ⟨[], some .byte⟩ := by decide +kernel
theorem ef_sLen_0_0 (m : MethodId) (x0 : Addr) : entryFrame m #[(.ref x0)] 1 = mkF m 0 #[.val (.ref x0)] [] := by first | (simp [entryFrame, mkF, argsToLocals, Value.category]; done) | rfl
def Q_sLen_0_0 (Z : State) (aS : Addr) (tA : Addr) (kA : ClassId) (zCS : Int32) (h0 : Heap) (n0 : Nat) (v : Option Value) (h : Heap) (L : List Loc) : Prop := v = some (.int 0) ∧ Fr n0 L ∧ h = h0
theorem rm_sLen_0_0 (l : Launch) (Z : State) (a0 : Array Value) (hw : HW a0 Z) (ws : List Jvm.Cond) (aS : Addr) (tA : Addr) (kA : ClassId) (zCS : Int32) (h0 : Heap) (n0 : Nat) (Z0 : n0 ≤ h0.size) (O0 : Old Z n0 h0) (E_0 : ek21 Z h0 aS) (F0v : fk16 Z h0 aS (.ref tA)) (F0c : fk15 Z h0 aS (.int 0)) (R_A : Arv Z h0 tA kA .byte (0 : Int32) [] (.int 0)) (S_CS : sk0 Z Z.heap (.int zCS)) (P_CS : ¬ zCS = 0) :
    M33 l ws (rmk 1 0 0 13) Z #[(.ref aS)] h0 (Q_sLen_0_0 Z aS tA kA zCS h0 n0) := by
  refine own_go "java/lang/String" rfl (plainFor_of_name pn_14) (fun m => ef_sLen_0_0 m aS) (fun p e s m below meth c s₁ hx hby hml hown hnm hlk hret hZ X0 e0 => ?_)
  have N0 := Fr.nil n0
  show gs s₁ m 0 #[vr aS] []
  refine oaloadN X0 hx hby d14_0 rfl rfl ?_
  obtain ⟨T1, X1, e1, st1⟩ := getF X0 hx hZ hown (host := "") (Or.inl (own_w hw 88 rfl)) Via.refl e0 F0v (g := (mkF m 1 #[vr aS] [(.ref aS)])) rfl rfl (hb hby d14_1)
  refine own_st st1 ?_
  show gs T1 m 4 #[vr aS] [(.ref tA)]
  obtain ⟨cl2, Ar2, qa2, qs2, qn2, qh2, qg2⟩ := id R_A
  refine own_st (fun _ kS => X1.arraylength hx (by rw [e1]; exact Ar2.1) (State.isArrayOf_alike hZ.alike Ar2.2.1) (g := (mkF m 4 #[vr aS] [(.ref tA)])) rfl rfl (hb hby d14_4) _ kS) ?_
  rw [len_of qs2 qn2]
  show gs T1 m 5 #[vr aS] [(.int 0)]
  refine oaloadN X1 hx hby d14_5 rfl rfl ?_
  refine oV 1 X1 hx hZ hby hml hown (own_w hw 95 rfl) (own_w hw 96 rfl) (own_w hw 98 rfl) (own_w hw 97 rfl) (rm_coder_0 l Z a0 hw [] aS zCS h0 n0 Z0 O0 S_CS P_CS F0c) (own_w hw 99 rfl) (own_w hw 32 rfl) e1 E_0 (by decide) own_pd22 d14_6 rfl rfl rfl (fun T3 L3 v3 X3 hQ3 => ?_)
  obtain ⟨rfl, Nq3, eq3⟩ := hQ3
  have N3 := Fr.app N0 Nq3
  show gs T3 m 9 #[vr aS] [(.int 0), (.int 0)]
  refine own_st (fun _ kS => XT.ishr X3.here hx rfl (hb hby d14_9) rfl kS) ?_
  show gs T3 m 10 #[vr aS] [(.int 0)]
  exact own_retI X3 hx hlk hret (hb hby d14_10) (by decide) (by decide) (by rw [eq3]; exact ⟨rfl, N3, rfl⟩)
theorem own_pd23 : parseMethodDescriptor "([BI)I" = some ⟨[(.array .byte), .int], some .int⟩ := by decide +kernel
theorem own_pd24 : parseMethodDescriptor "(C)Ljava/lang/StringBuilder;" = some ⟨[.char], some (.object "java/lang/StringBuilder")⟩ := by decide +kernel
theorem ef_dec_1_L (m : MethodId) (x0 : Addr) (x1 : Addr) (x2 : Int32) (x3 : Int32) : entryFrame m #[(.ref x0), (.ref x1), (.int x2), (.int x3)] 7 = mkF m 0 #[.val (.ref x0), .val (.ref x1), .val (.int x2), .val (.int x3), .unset, .unset, .unset] [] := by first | (simp [entryFrame, mkF, argsToLocals, Value.category]; done) | rfl
def Q_dec_1_L (Z : State) (a1 : Addr) (a2 : Addr) (cB : Cell) (at1 : Int32) (t1 : Int32) (w : Int32) (le : Int32) (u0 : Int32) (zCS : Int32) (fm : Value) (h0 : Heap) (n0 : Nat) (v : Option Value) (h : Heap) (L : List Loc) : Prop := ∃ bS : Addr, ∃ tN : Addr, ∃ kN : ClassId, v = some (.ref bS) ∧ Fr n0 L ∧ Keep h0 h [] ∧ ek21 Z h bS ∧ fk15 Z h bS (.int 0) ∧ fk16 Z h bS (.ref tN) ∧ Arv Z h tN kN .byte (1 : Int32) [(.int (nar .byte ((own_chr u0).toInt8.toInt32)))] (.int 0)
theorem rm_dec_1_L (l : Launch) (Z : State) (a0 : Array Value) (hw : HW a0 Z) (ws : List Jvm.Cond) (a1 : Addr) (a2 : Addr) (cB : Cell) (at1 : Int32) (t1 : Int32) (w : Int32) (le : Int32) (u0 : Int32) (zCS : Int32) (fm : Value) (h0 : Heap) (n0 : Nat) (Z0 : n0 ≤ h0.size) (O0 : Old Z n0 h0) (E_e : ek22 Z Z.heap a1) (Fw : fk17 Z Z.heap a1 (.int w)) (Fl : fk18 Z Z.heap a1 (.int le)) (Tb : Tab Z h0 a2 cB .byte (8 : Int32)) (hr : own_rg (1 : Int32) w at1 t1) (hwl0 : own_wl w le cB at1 u0) (hC0 : ¬ ((255 : Int32) < (own_chr u0))) (S_CS : sk0 Z Z.heap (.int zCS)) (P_CS : ¬ zCS = 0) (S_SF : sk4 Z Z.heap fm) (P_SF : fm.isRef = true) (S_AD : sk1 Z Z.heap (.int 1)) (S_HI : sk2 Z Z.heap (.int 0)) (S_LO : sk3 Z Z.heap (.int 8)) :
    M31 l ws (rmk 5 4 10 71) Z #[(.ref a1), (.ref a2), (.int at1), (.int t1)] h0 (Q_dec_1_L Z a1 a2 cB at1 t1 w le u0 zCS fm h0 n0) := by
  refine own_go "com/example/provenir/provenir/TextEncoding" rfl (plainFor_of_name pn_2) (fun m => ef_dec_1_L m a1 a2 at1 t1) (fun p e s m below meth c s₁ hx hby hml hown hnm hlk hret hZ X0 e0 => ?_)
  have N0 := Fr.nil n0
  have K0 := Keep.refl h0 []
  show gs s₁ m 0 #[vr a1, vr a2, vi at1, vi t1, .unset, .unset, .unset] []
  obtain ⟨T1, h1, X1, e1, E1, A1, D1, -, st1⟩ := newO X0 hx hZ hown (own_w hw 14 rfl) (own_w hw 15 rfl) (own_w hw 16 rfl) e0 (g := (mkF m 0 #[vr a1, vr a2, vi at1, vi t1, .unset, .unset, .unset] [])) rfl (hb hby d2_0) (by decide) (by decide)
  obtain ⟨b1, g1⟩ : ∃ z, z = h0.size := ⟨_, rfl⟩
  have ne_a2_b1 : a2 ≠ b1 := Nat.ne_of_lt (Nat.lt_of_lt_of_eq Tb.lt g1.symm)
  have ge_b1 : n0 ≤ b1 := Nat.le_trans Z0 (Nat.le_of_eq g1.symm)
  have sz_b1 : h0.size ≤ b1 := Nat.le_trans K0.1 (Nat.le_of_eq g1.symm)
  rw [← g1] at A1 D1 st1
  have K1 := K0.ext E1
  have O1 := O0.ext E1
  have F1_value : fk11 Z h1 b1 .null := D1 (Or.inl (own_w hw 34 rfl)) (ty := (.array .byte)) (by decide)
  have F1_coder : fk12 Z h1 b1 (.int 0) := D1 (Or.inl (own_w hw 36 rfl)) (ty := .byte) (by decide)
  have F1_count : fk13 Z h1 b1 (.int 0) := D1 (Or.inl (own_w hw 67 rfl)) (ty := .int) (by decide)
  have F1_maybeLatin1 : fk14 Z h1 b1 (.int 0) := D1 (Or.inl (own_w hw 204 rfl)) (ty := .boolean) (by decide)
  refine own_st st1 ?_
  show gs T1 m 3 #[vr a1, vr a2, vi at1, vi t1, .unset, .unset, .unset] [(.ref b1)]
  refine own_st (fun _ kS => XS.dup X1.here hx rfl (hb hby d2_3) rfl rfl kS) ?_
  refine oiloadN X1 hx hby d2_4 rfl ?_
  refine oiloadN X1 hx hby d2_5 rfl ?_
  refine own_st (fun _ kS => XS.isub X1.here hx rfl (hb hby d2_6) rfl kS) ?_
  refine oaloadN X1 hx hby d2_7 rfl rfl ?_
  obtain ⟨T2, X2, e2, st2⟩ := getF X1 hx hZ hown (host := "") (Or.inl (own_w hw 17 rfl)) Via.refl e1 (Fld.ext O1.2 Fw) (g := (mkF m 8 #[vr a1, vr a2, vi at1, vi t1, .unset, .unset, .unset] [(.ref a1), (.int (t1 - at1)), (.ref b1), (.ref b1)])) rfl rfl (hb hby d2_8)
  refine own_st st2 ?_
  show gs T2 m 11 #[vr a1, vr a2, vi at1, vi t1, .unset, .unset, .unset] [(.int w), (.int (t1 - at1)), (.ref b1), (.ref b1)]
  refine own_st (fun _ kS => XS.idiv X2.here hx rfl (hb hby d2_11) rfl (own_wne hr) kS) ?_
  show gs T2 m 12 #[vr a1, vr a2, vi at1, vi t1, .unset, .unset, .unset] [(.int ((t1 - at1) / w)), (.ref b1), (.ref b1)]
  rw [own_div hr (by decide)]
  show gs T2 m 12 #[vr a1, vr a2, vi at1, vi t1, .unset, .unset, .unset] [(.int 1), (.ref b1), (.ref b1)]
  refine oN 1 X2 hx hZ hby hml hown (own_w hw 19 rfl) (own_w hw 20 rfl) (own_w hw 16 rfl) (own_w hw 21 rfl) (rm_sbInit_1 l Z a0 hw [] b1 zCS h1 n0 (Nat.le_trans Z0 E1.1) O1 A1 ge_b1 F1_value F1_coder F1_count F1_maybeLatin1 S_CS P_CS) e2 rfl (by decide) own_pd0 d2_12 rfl rfl rfl (fun T3 L3 v3 X3 hQ3 => ?_)
  obtain ⟨tN_3, kN_3, rfl, Nq3, Kc3, P3_0, P3_1, P3_2, P3_3, P3_4, P3_5, P3_6, P3_7⟩ := hQ3
  have N3 := Fr.app N0 Nq3
  have ne_a2_tN_3 : a2 ≠ tN_3 := Nat.ne_of_lt (Nat.lt_of_lt_of_le (Tab.ext Tb E1).lt P3_0)
  have ne_b1_tN_3 : b1 ≠ tN_3 := Nat.ne_of_lt (Nat.lt_of_lt_of_le A1.lt P3_0)
  have ge_tN_3 : n0 ≤ tN_3 := Nat.le_trans (Nat.le_trans Z0 E1.1) P3_0
  have sz_tN_3 : h0.size ≤ tN_3 := Nat.le_trans K1.1 P3_0
  have K3 := K1.trans Kc3 (allS (Or.inr sz_b1) all0)
  have O3 := O1.keep Kc3 (allS ge_b1 all0)
  show gs T3 m 15 #[vr a1, vr a2, vi at1, vi t1, .unset, .unset, .unset] [(.ref b1)]
  refine own_st (fun _ kS => XS.astore X3.here hx rfl (hb hby d2_15) rfl rfl (l' := #[vr a1, vr a2, vi at1, vi t1, vr b1, .unset, .unset]) rfl kS) ?_
  refine oiloadN X3 hx hby d2_17 rfl ?_
  refine own_st (fun _ kS => XS.istore X3.here hx rfl (hb hby d2_18) rfl (l' := #[vr a1, vr a2, vi at1, vi t1, vr b1, vi at1, .unset]) rfl kS) ?_
  refine oiload X3 hx hby d2_20 rfl ?_
  refine oiloadN X3 hx hby d2_22 rfl ?_
  refine own_st (fun _ kS => XS.icmpNo X3.here hx rfl (hb hby d2_23) rfl (tlt (own_l1 hr : at1 < t1)).2.1 kS) ?_
  show gs T3 m 26 #[vr a1, vr a2, vi at1, vi t1, vr b1, vi at1, .unset] []
  refine oaloadN X3 hx hby d2_26 rfl rfl ?_
  refine oaloadN X3 hx hby d2_27 rfl rfl ?_
  refine oiload X3 hx hby d2_28 rfl ?_
  refine oV 0 X3 hx hZ hby hml hown (own_w hw 107 rfl) (own_w hw 108 rfl) (own_w hw 110 rfl) (own_w hw 109 rfl) (rm_unitAt l Z a0 hw [] a1 a2 cB at1 w le u0 T3.heap n0 (Nat.le_trans (Nat.le_trans Z0 E1.1) Kc3.1) O3 Fw Fl (own_tabk (Tab.ext Tb E1) Kc3 (ninS ne_a2_b1 nin0)) (own_g1 hr) hwl0) (own_w hw 111 rfl) (own_w hw 6 rfl) rfl (Exa.ext O3.2 E_e) (by decide) own_pd23 d2_30 rfl rfl rfl (fun T4 L4 v4 X4 hQ4 => ?_)
  obtain ⟨rfl, Nq4, eq4⟩ := hQ4
  have N4 := Fr.app N3 Nq4
  show gs T4 m 33 #[vr a1, vr a2, vi at1, vi t1, vr b1, vi at1, .unset] [(.int u0)]
  refine own_st (fun _ kS => XS.istore X4.here hx rfl (hb hby d2_33) rfl (l' := #[vr a1, vr a2, vi at1, vi t1, vr b1, vi at1, vi u0]) rfl kS) ?_
  refine oaload X4 hx hby d2_35 rfl rfl ?_
  show gs T4 m 37 #[vr a1, vr a2, vi at1, vi t1, vr b1, vi at1, vi u0] [(.ref b1)]
  suffices hJ5 : own_G p.tables e below _ (T4.setTop (mkF m 57 #[vr a1, vr a2, vi at1, vi t1, vr b1, vi at1, vi u0] [(.int (own_chr u0)), (.ref b1)])) by
    by_cases hu5 : u0 < (0 : Int32)
    · skip
      refine oiload X4 hx hby d2_37 rfl ?_
      refine own_st (fun _ kS => XS.ifYes X4.here hx rfl (pc0 := 39) (pc' := 55) rfl (hb hby d2_39) rfl ((if0 _ _).trans (tlt (hu5 : u0 < (0 : Int32))).1) (by decide) (by decide) kS) ?_
      show gs T4 m 55 #[vr a1, vr a2, vi at1, vi t1, vr b1, vi at1, vi u0] [(.ref b1)]
      refine own_st (fun _ kS => X4.ldcInt hx hown (mvT hZ (own_w hw 158 rfl)) (g := (mkF m 55 #[vr a1, vr a2, vi at1, vi t1, vr b1, vi at1, vi u0] [(.ref b1)])) rfl (hb hby d2_55) _ kS) ?_
      show gs T4 m 57 #[vr a1, vr a2, vi at1, vi t1, vr b1, vi at1, vi u0] [(.int 65533), (.ref b1)]
      rw [own_chr, if_pos hu5] at hJ5
      exact hJ5
    · skip
      by_cases hv5 : (65535 : Int32) < u0
      · skip
        refine oiload X4 hx hby d2_37 rfl ?_
        refine own_st (fun _ kS => XS.ifNo X4.here hx rfl (hb hby d2_39) rfl ((if0 _ _).trans (flt (hu5 : ¬ (u0 < (0 : Int32)))).1) kS) ?_
        show gs T4 m 42 #[vr a1, vr a2, vi at1, vi t1, vr b1, vi at1, vi u0] [(.ref b1)]
        refine oiload X4 hx hby d2_42 rfl ?_
        show gs T4 m 44 #[vr a1, vr a2, vi at1, vi t1, vr b1, vi at1, vi u0] [(.int u0), (.ref b1)]
        refine own_st (fun _ kS => X4.ldcInt hx hown (mvT hZ (own_w hw 112 rfl)) (g := (mkF m 44 #[vr a1, vr a2, vi at1, vi t1, vr b1, vi at1, vi u0] [(.int u0), (.ref b1)])) rfl (hb hby d2_44) _ kS) ?_
        show gs T4 m 46 #[vr a1, vr a2, vi at1, vi t1, vr b1, vi at1, vi u0] [(.int 65535), (.int u0), (.ref b1)]
        refine own_st (fun _ kS => XS.icmpYes X4.here hx rfl (pc0 := 46) (pc' := 55) rfl (hb hby d2_46) rfl (tlt (hv5 : (65535 : Int32) < u0)).2.2.1 (by decide) (by decide) kS) ?_
        show gs T4 m 55 #[vr a1, vr a2, vi at1, vi t1, vr b1, vi at1, vi u0] [(.ref b1)]
        refine own_st (fun _ kS => X4.ldcInt hx hown (mvT hZ (own_w hw 158 rfl)) (g := (mkF m 55 #[vr a1, vr a2, vi at1, vi t1, vr b1, vi at1, vi u0] [(.ref b1)])) rfl (hb hby d2_55) _ kS) ?_
        show gs T4 m 57 #[vr a1, vr a2, vi at1, vi t1, vr b1, vi at1, vi u0] [(.int 65533), (.ref b1)]
        rw [own_chr, if_neg hu5, if_pos hv5] at hJ5
        exact hJ5
      · skip
        refine oiload X4 hx hby d2_37 rfl ?_
        refine own_st (fun _ kS => XS.ifNo X4.here hx rfl (hb hby d2_39) rfl ((if0 _ _).trans (flt (hu5 : ¬ (u0 < (0 : Int32)))).1) kS) ?_
        show gs T4 m 42 #[vr a1, vr a2, vi at1, vi t1, vr b1, vi at1, vi u0] [(.ref b1)]
        refine oiload X4 hx hby d2_42 rfl ?_
        show gs T4 m 44 #[vr a1, vr a2, vi at1, vi t1, vr b1, vi at1, vi u0] [(.int u0), (.ref b1)]
        refine own_st (fun _ kS => X4.ldcInt hx hown (mvT hZ (own_w hw 112 rfl)) (g := (mkF m 44 #[vr a1, vr a2, vi at1, vi t1, vr b1, vi at1, vi u0] [(.int u0), (.ref b1)])) rfl (hb hby d2_44) _ kS) ?_
        show gs T4 m 46 #[vr a1, vr a2, vi at1, vi t1, vr b1, vi at1, vi u0] [(.int 65535), (.int u0), (.ref b1)]
        refine own_st (fun _ kS => XS.icmpNo X4.here hx rfl (hb hby d2_46) rfl (flt (hv5 : ¬ ((65535 : Int32) < u0))).2.2.1 kS) ?_
        show gs T4 m 49 #[vr a1, vr a2, vi at1, vi t1, vr b1, vi at1, vi u0] [(.ref b1)]
        refine oiload X4 hx hby d2_49 rfl ?_
        refine own_st (fun _ kS => XT.i2c X4.here hx rfl (hb hby d2_51) rfl kS) ?_
        refine own_st (fun _ kS => XS.goto X4.here hx rfl (pc0 := 52) (pc' := 57) rfl (hb hby d2_52) (by decide) (by decide) kS) ?_
        show gs T4 m 57 #[vr a1, vr a2, vi at1, vi t1, vr b1, vi at1, vi u0] [(.int (u0.toUInt32.toUInt16.toUInt32.toInt32)), (.ref b1)]
        rw [own_chr, if_neg hu5, if_neg hv5] at hJ5
        exact hJ5
  show gs T4 m 57 #[vr a1, vr a2, vi at1, vi t1, vr b1, vi at1, vi u0] [(.int (own_chr u0)), (.ref b1)]
  refine oV 0 X4 hx hZ hby hml hown (own_w hw 113 rfl) (own_w hw 114 rfl) (own_w hw 116 rfl) (own_w hw 115 rfl) (rm_sbApp_1_0_0_L l Z a0 hw [] b1 tN_3 kN_3 (own_chr u0) (0 : Int32) zCS fm T3.heap n0 (Nat.le_trans (Nat.le_trans Z0 E1.1) Kc3.1) O3 P3_2 ge_b1 P3_3 P3_4 P3_5 P3_6 ne_b1_tN_3 P3_7 ge_tN_3 S_CS P_CS S_SF P_SF S_AD S_HI S_LO hC0) (own_w hw 117 rfl) (own_w hw 16 rfl) eq4 P3_2 (by decide) own_pd24 d2_57 rfl rfl rfl (fun T6 L6 v6 X6 hQ6 => ?_)
  obtain ⟨rfl, Nq6, Kc6, P6_0, P6_1, P6_2, P6_3, P6_4, P6_5⟩ := hQ6
  have N6 := Fr.app N4 Nq6
  have K6 := K3.trans Kc6 (allS (Or.inr sz_b1) (allS (Or.inr sz_tN_3) all0))
  have O6 := O3.keep Kc6 (allS ge_b1 (allS ge_tN_3 all0))
  show gs T6 m 60 #[vr a1, vr a2, vi at1, vi t1, vr b1, vi at1, vi u0] [(.ref b1)]
  refine own_st (fun _ kS => XT.pop X6.here hx rfl (hb hby d2_60) rfl rfl kS) ?_
  refine oiload X6 hx hby d2_61 rfl ?_
  refine oaloadN X6 hx hby d2_63 rfl rfl ?_
  obtain ⟨T7, X7, e7, st7⟩ := getF X6 hx hZ hown (host := "") (Or.inl (own_w hw 17 rfl)) Via.refl rfl (Fld.ext O6.2 Fw) (g := (mkF m 64 #[vr a1, vr a2, vi at1, vi t1, vr b1, vi at1, vi u0] [(.ref a1), (.int at1)])) rfl rfl (hb hby d2_64)
  refine own_st st7 ?_
  show gs T7 m 67 #[vr a1, vr a2, vi at1, vi t1, vr b1, vi at1, vi u0] [(.int w), (.int at1)]
  refine own_st (fun _ kS => XS.iadd X7.here hx rfl (hb hby d2_67) rfl kS) ?_
  refine own_st (fun _ kS => XS.istore X7.here hx rfl (hb hby d2_68) rfl (l' := #[vr a1, vr a2, vi at1, vi t1, vr b1, vi (at1 + w), vi u0]) rfl kS) ?_
  refine own_st (fun _ kS => XS.goto X7.here hx rfl (pc0 := 70) (pc' := 20) rfl (hb hby d2_70) (by decide) (by decide) kS) ?_
  refine oiload X7 hx hby d2_20 rfl ?_
  refine oiloadN X7 hx hby d2_22 rfl ?_
  refine own_st (fun _ kS => XS.icmpYes X7.here hx rfl (pc0 := 23) (pc' := 73) rfl (hb hby d2_23) rfl (flt (own_m1 hr : ¬ ((at1 + w) < t1))).2.1 (by decide) (by decide) kS) ?_
  show gs T7 m 73 #[vr a1, vr a2, vi at1, vi t1, vr b1, vi (at1 + w), vi u0] []
  refine oaload X7 hx hby d2_73 rfl rfl ?_
  refine oV 0 X7 hx hZ hby hml hown (own_w hw 37 rfl) (own_w hw 38 rfl) (own_w hw 40 rfl) (own_w hw 39 rfl) (rm_toStr_1_0 l Z a0 hw [] b1 tN_3 kN_3 (nar .byte ((own_chr u0).toInt8.toInt32)) zCS T6.heap n0 (Nat.le_trans (Nat.le_trans (Nat.le_trans Z0 E1.1) Kc3.1) Kc6.1) O6 P6_0 P6_1 P6_2 P6_3 P6_4 P6_5 (P3_1.keep Kc6) S_CS P_CS) (own_w hw 41 rfl) (own_w hw 16 rfl) e7 P6_0 (by decide) own_pd21 d2_75 rfl rfl rfl (fun T8 L8 v8 X8 hQ8 => ?_)
  obtain ⟨bS_8, tN_8, rfl, Nq8, Kc8, P8_0, P8_1, P8_2, P8_3, P8_4, P8_5, P8_6⟩ := hQ8
  have N8 := Fr.app N6 Nq8
  have ne_a2_bS_8 : a2 ≠ bS_8 := Nat.ne_of_lt (Nat.lt_of_lt_of_le (own_tabk (own_tabk (Tab.ext Tb E1) Kc3 (ninS ne_a2_b1 nin0)) Kc6 (ninS ne_a2_b1 (ninS ne_a2_tN_3 nin0))).lt P8_0)
  have ne_b1_bS_8 : b1 ≠ bS_8 := Nat.ne_of_lt (Nat.lt_of_lt_of_le P6_0.lt P8_0)
  have ne_tN_3_bS_8 : tN_3 ≠ bS_8 := Nat.ne_of_lt (Nat.lt_of_lt_of_le (P3_1.keep Kc6).lt P8_0)
  have ge_bS_8 : n0 ≤ bS_8 := Nat.le_trans (Nat.le_trans (Nat.le_trans (Nat.le_trans Z0 E1.1) Kc3.1) Kc6.1) P8_0
  have sz_bS_8 : h0.size ≤ bS_8 := Nat.le_trans K6.1 P8_0
  have ne_a2_tN_8 : a2 ≠ tN_8 := Nat.ne_of_lt (Nat.lt_of_lt_of_le (own_tabk (own_tabk (Tab.ext Tb E1) Kc3 (ninS ne_a2_b1 nin0)) Kc6 (ninS ne_a2_b1 (ninS ne_a2_tN_3 nin0))).lt P8_1)
  have ne_b1_tN_8 : b1 ≠ tN_8 := Nat.ne_of_lt (Nat.lt_of_lt_of_le P6_0.lt P8_1)
  have ne_tN_3_tN_8 : tN_3 ≠ tN_8 := Nat.ne_of_lt (Nat.lt_of_lt_of_le (P3_1.keep Kc6).lt P8_1)
  have ge_tN_8 : n0 ≤ tN_8 := Nat.le_trans (Nat.le_trans (Nat.le_trans (Nat.le_trans Z0 E1.1) Kc3.1) Kc6.1) P8_1
  have sz_tN_8 : h0.size ≤ tN_8 := Nat.le_trans K6.1 P8_1
  have K8 := K6.trans Kc8 all0
  have O8 := O6.keep Kc8 all0
  show gs T8 m 78 #[vr a1, vr a2, vi at1, vi t1, vr b1, vi (at1 + w), vi u0] [(.ref bS_8)]
  exact own_retA X8 hx hlk hret rfl rfl (hb hby d2_78) (by decide) (by decide) (show Q_dec_1_L Z a1 a2 cB at1 t1 w le u0 zCS fm h0 n0 _ _ _ from ⟨bS_8, tN_8, kN_3, ⟨rfl, N8, K8, P8_3, P8_4, P8_5, P8_6⟩⟩)
theorem ef_sLen_1_0 (m : MethodId) (x0 : Addr) : entryFrame m #[(.ref x0)] 1 = mkF m 0 #[.val (.ref x0)] [] := by first | (simp [entryFrame, mkF, argsToLocals, Value.category]; done) | rfl
def Q_sLen_1_0 (Z : State) (aS : Addr) (tA : Addr) (kA : ClassId) (y0 : Int32) (zCS : Int32) (h0 : Heap) (n0 : Nat) (v : Option Value) (h : Heap) (L : List Loc) : Prop := v = some (.int 1) ∧ Fr n0 L ∧ h = h0
theorem rm_sLen_1_0 (l : Launch) (Z : State) (a0 : Array Value) (hw : HW a0 Z) (ws : List Jvm.Cond) (aS : Addr) (tA : Addr) (kA : ClassId) (y0 : Int32) (zCS : Int32) (h0 : Heap) (n0 : Nat) (Z0 : n0 ≤ h0.size) (O0 : Old Z n0 h0) (E_0 : ek21 Z h0 aS) (F0v : fk16 Z h0 aS (.ref tA)) (F0c : fk15 Z h0 aS (.int 0)) (R_A : Arv Z h0 tA kA .byte (1 : Int32) [(.int y0)] (.int 0)) (S_CS : sk0 Z Z.heap (.int zCS)) (P_CS : ¬ zCS = 0) :
    M33 l ws (rmk 1 0 0 13) Z #[(.ref aS)] h0 (Q_sLen_1_0 Z aS tA kA y0 zCS h0 n0) := by
  refine own_go "java/lang/String" rfl (plainFor_of_name pn_14) (fun m => ef_sLen_1_0 m aS) (fun p e s m below meth c s₁ hx hby hml hown hnm hlk hret hZ X0 e0 => ?_)
  have N0 := Fr.nil n0
  show gs s₁ m 0 #[vr aS] []
  refine oaloadN X0 hx hby d14_0 rfl rfl ?_
  obtain ⟨T1, X1, e1, st1⟩ := getF X0 hx hZ hown (host := "") (Or.inl (own_w hw 88 rfl)) Via.refl e0 F0v (g := (mkF m 1 #[vr aS] [(.ref aS)])) rfl rfl (hb hby d14_1)
  refine own_st st1 ?_
  show gs T1 m 4 #[vr aS] [(.ref tA)]
  obtain ⟨cl2, Ar2, qa2, qs2, qn2, qh2, qg2⟩ := id R_A
  refine own_st (fun _ kS => X1.arraylength hx (by rw [e1]; exact Ar2.1) (State.isArrayOf_alike hZ.alike Ar2.2.1) (g := (mkF m 4 #[vr aS] [(.ref tA)])) rfl rfl (hb hby d14_4) _ kS) ?_
  rw [len_of qs2 qn2]
  show gs T1 m 5 #[vr aS] [(.int 1)]
  refine oaloadN X1 hx hby d14_5 rfl rfl ?_
  refine oV 1 X1 hx hZ hby hml hown (own_w hw 95 rfl) (own_w hw 96 rfl) (own_w hw 98 rfl) (own_w hw 97 rfl) (rm_coder_0 l Z a0 hw [] aS zCS h0 n0 Z0 O0 S_CS P_CS F0c) (own_w hw 99 rfl) (own_w hw 32 rfl) e1 E_0 (by decide) own_pd22 d14_6 rfl rfl rfl (fun T3 L3 v3 X3 hQ3 => ?_)
  obtain ⟨rfl, Nq3, eq3⟩ := hQ3
  have N3 := Fr.app N0 Nq3
  show gs T3 m 9 #[vr aS] [(.int 0), (.int 1)]
  refine own_st (fun _ kS => XT.ishr X3.here hx rfl (hb hby d14_9) rfl kS) ?_
  show gs T3 m 10 #[vr aS] [(.int 1)]
  exact own_retI X3 hx hlk hret (hb hby d14_10) (by decide) (by decide) (by rw [eq3]; exact ⟨rfl, N3, rfl⟩)
theorem d23_0 : dk B34 0 (.iload_n 1) 1 := by decide +kernel
theorem d23_1 : dk B34 1 (.aload_n 0) 1 := by decide +kernel
theorem d23_2 : dk B34 2 (.arraylength) 1 := by decide +kernel
theorem d23_3 : dk B34 3 (.invokestatic 9) 3 := by decide +kernel
theorem d23_6 : dk B34 6 (.aload_n 0) 1 := by decide +kernel
theorem d23_7 : dk B34 7 (.iload_n 1) 1 := by decide +kernel
theorem d23_8 : dk B34 8 (.baload) 1 := by decide +kernel
theorem d23_9 : dk B34 9 (.sipush 255) 3 := by decide +kernel
theorem d23_12 : dk B34 12 (.iand) 1 := by decide +kernel
theorem d23_13 : dk B34 13 (.i2c) 1 := by decide +kernel
theorem d23_14 : dk B34 14 (.ireturn) 1 := by decide +kernel
theorem pn_23 : plainName "java/lang/StringLatin1" = true := by first | (simp [plainName, overriddenIn]; done) | decide +kernel
theorem ef_l1chat_1_0 (m : MethodId) (x0 : Addr) : entryFrame m #[(.ref x0), (.int 0)] 2 = mkF m 0 #[.val (.ref x0), .val (.int 0)] [] := by first | (simp [entryFrame, mkF, argsToLocals, Value.category]; done) | rfl
def Q_l1chat_1_0 (Z : State) (tA : Addr) (kA : ClassId) (y0 : Int32) (fm : Value) (h0 : Heap) (n0 : Nat) (v : Option Value) (h : Heap) (L : List Loc) : Prop := v = some (.int (own_lat y0)) ∧ Fr n0 L ∧ h = h0
theorem rm_l1chat_1_0 (l : Launch) (Z : State) (a0 : Array Value) (hw : HW a0 Z) (ws : List Jvm.Cond) (tA : Addr) (kA : ClassId) (y0 : Int32) (fm : Value) (h0 : Heap) (n0 : Nat) (Z0 : n0 ≤ h0.size) (O0 : Old Z n0 h0) (R_A : Arv Z h0 tA kA .byte (1 : Int32) [(.int y0)] (.int 0)) (S_SF : sk4 Z Z.heap fm) (P_SF : fm.isRef = true) :
    M34 l ws (rmk 2 0 0 27) Z #[(.ref tA), (.int 0)] h0 (Q_l1chat_1_0 Z tA kA y0 fm h0 n0) := by
  refine own_go "java/lang/StringLatin1" rfl (plainFor_of_name pn_23) (fun m => ef_l1chat_1_0 m tA) (fun p e s m below meth c s₁ hx hby hml hown hnm hlk hret hZ X0 e0 => ?_)
  have N0 := Fr.nil n0
  show gs s₁ m 0 #[vr tA, vi 0] []
  refine oiloadN X0 hx hby d23_0 rfl ?_
  refine oaloadN X0 hx hby d23_1 rfl rfl ?_
  show gs s₁ m 2 #[vr tA, vi 0] [(.ref tA), (.int 0)]
  obtain ⟨cl1, Ar1, qa1, qs1, qn1, qh1, qg1⟩ := id R_A
  refine own_st (fun _ kS => X0.arraylength hx (by rw [e0]; exact Ar1.1) (State.isArrayOf_alike hZ.alike Ar1.2.1) (g := (mkF m 2 #[vr tA, vi 0] [(.ref tA), (.int 0)])) rfl rfl (hb hby d23_2) _ kS) ?_
  rw [len_of qs1 qn1]
  show gs s₁ m 3 #[vr tA, vi 0] [(.int 1), (.int 0)]
  refine oS 0 X0 hx hZ hby hml hown (own_w hw 145 rfl) (own_w hw 146 rfl) (own_w hw 32 rfl) (own_w hw 147 rfl) (rm_chk_0_1 l Z a0 hw [] fm h0 n0 Z0 O0 S_SF P_SF) e0 (by decide) own_pd3 d23_3 rfl rfl rfl (fun T2 L2 v2 X2 hQ2 => ?_)
  obtain ⟨rfl, Nq2, eq2⟩ := hQ2
  have N2 := Fr.app N0 Nq2
  show gs T2 m 6 #[vr tA, vi 0] []
  refine oaloadN X2 hx hby d23_6 rfl rfl ?_
  refine oiloadN X2 hx hby d23_7 rfl ?_
  show gs T2 m 8 #[vr tA, vi 0] [(.int 0), (.ref tA)]
  obtain ⟨cl3, Ar3, qa3, qs3, qn3, qh3, qg3⟩ := id R_A
  refine own_st (fun _ kS => X2.baloadBytes hx (j := (0 : Int32)) (v := (.int y0)) (by rw [eq2]; exact Ar3.1) (State.isArrayOf_alike hZ.alike Ar3.2.1) Ar3.2.2 (inb_of qs3 ⟨by decide, by decide⟩) (qh3.at (inb_of qs3 ⟨by decide, by decide⟩) rfl) (g := (mkF m 8 #[vr tA, vi 0] [(.int 0), (.ref tA)])) rfl rfl (hb hby d23_8) _ kS) ?_
  show gs T2 m 9 #[vr tA, vi 0] [(.int y0)]
  refine own_st (fun _ kS => XS.sipush X2.here hx rfl (hb hby d23_9) kS) ?_
  refine own_st (fun _ kS => XS.iand X2.here hx rfl (hb hby d23_12) rfl kS) ?_
  refine own_st (fun _ kS => XT.i2c X2.here hx rfl (hb hby d23_13) rfl kS) ?_
  show gs T2 m 14 #[vr tA, vi 0] [(.int ((y0 &&& (255 : Int32)).toUInt32.toUInt16.toUInt32.toInt32))]
  exact own_retN X2 hx hlk (t := .char) hret (by simp) (hb hby d23_14) (by decide) (by decide) (v' := (own_lat y0)) rfl (by rw [eq2]; exact ⟨(by simp [P_SF]), N2, rfl⟩)
theorem d22_0 : dk B35 0 (.getstatic 38) 3 := by decide +kernel
theorem d22_3 : dk B35 3 (.ifCond .eq 14) 3 := by decide +kernel
theorem d22_6 : dk B35 6 (.aload_n 0) 1 := by decide +kernel
theorem d22_7 : dk B35 7 (.getfield 15) 3 := by decide +kernel
theorem d22_10 : dk B35 10 (.ifCond .ne 7) 3 := by decide +kernel
theorem d22_13 : dk B35 13 (.iconst 1) 1 := by decide +kernel
theorem d22_14 : dk B35 14 (.goto 4) 3 := by decide +kernel
theorem d22_17 : dk B35 17 (.iconst 0) 1 := by decide +kernel
theorem d22_18 : dk B35 18 (.ireturn) 1 := by decide +kernel
theorem pn_22 : plainName "java/lang/String" = true := by first | (simp [plainName, overriddenIn]; done) | decide +kernel
theorem ef_sLat_0 (m : MethodId) (x0 : Addr) : entryFrame m #[(.ref x0)] 1 = mkF m 0 #[.val (.ref x0)] [] := by first | (simp [entryFrame, mkF, argsToLocals, Value.category]; done) | rfl
def Q_sLat_0 (Z : State) (aS : Addr) (zCS : Int32) (h0 : Heap) (n0 : Nat) (v : Option Value) (h : Heap) (L : List Loc) : Prop := v = some (.int 1) ∧ Fr n0 L ∧ h = h0
theorem rm_sLat_0 (l : Launch) (Z : State) (a0 : Array Value) (hw : HW a0 Z) (ws : List Jvm.Cond) (aS : Addr) (zCS : Int32) (h0 : Heap) (n0 : Nat) (Z0 : n0 ≤ h0.size) (O0 : Old Z n0 h0) (S_CS : sk0 Z Z.heap (.int zCS)) (P_CS : ¬ zCS = 0) (F0c : fk15 Z h0 aS (.int 0)) :
    M35 l ws (rmk 0 0 0 0) Z #[(.ref aS)] h0 (Q_sLat_0 Z aS zCS h0 n0) := by
  refine own_go "java/lang/String" rfl (plainFor_of_name pn_22) (fun m => ef_sLat_0 m aS) (fun p e s m below meth c s₁ hx hby hml hown hnm hlk hret hZ X0 e0 => ?_)
  have N0 := Fr.nil n0
  show gs s₁ m 0 #[vr aS] []
  obtain ⟨T1, X1, e1, st1⟩ := getS2 X0 hx hZ hown (host := "") (Or.inl (own_w hw 100 rfl)) Via.refl e0 (Sta.ext O0.2 S_CS) (g := (mkF m 0 #[vr aS] [])) rfl (hb hby d22_0)
  refine own_st st1 ?_
  show gs T1 m 3 #[vr aS] [(.int zCS)]
  refine own_st (fun _ kS => XS.ifNo X1.here hx rfl (hb hby d22_3) rfl ((if0 _ _).trans (feq (P_CS : ¬ (zCS = (0 : Int32)))).1) kS) ?_
  show gs T1 m 6 #[vr aS] []
  refine oaloadN X1 hx hby d22_6 rfl rfl ?_
  obtain ⟨T2, X2, e2, st2⟩ := getF X1 hx hZ hown (host := "") (Or.inl (own_w hw 73 rfl)) Via.refl e1 F0c (g := (mkF m 7 #[vr aS] [(.ref aS)])) rfl rfl (hb hby d22_7)
  refine own_st st2 ?_
  show gs T2 m 10 #[vr aS] [(.int 0)]
  refine own_st (fun _ kS => XS.ifNo X2.here hx rfl (hb hby d22_10) rfl ((if0 _ _).trans (teq (by decide : (0 : Int32) = (0 : Int32))).2) kS) ?_
  show gs T2 m 13 #[vr aS] []
  refine oiconst X2 hx hby d22_13 ?_
  refine own_st (fun _ kS => XS.goto X2.here hx rfl (pc0 := 14) (pc' := 18) rfl (hb hby d22_14) (by decide) (by decide) kS) ?_
  show gs T2 m 18 #[vr aS] [(.int 1)]
  exact own_retN X2 hx hlk (t := .boolean) hret (by simp) (hb hby d22_18) (by decide) (by decide) (v' := (1 : Int32)) rfl (by rw [e2]; exact ⟨rfl, N0, rfl⟩)
theorem d21_0 : dk B36 0 (.aload_n 0) 1 := by decide +kernel
theorem d21_1 : dk B36 1 (.invokevirtual 492) 3 := by decide +kernel
theorem d21_4 : dk B36 4 (.ifCond .eq 12) 3 := by decide +kernel
theorem d21_7 : dk B36 7 (.aload_n 0) 1 := by decide +kernel
theorem d21_8 : dk B36 8 (.getfield 9) 3 := by decide +kernel
theorem d21_11 : dk B36 11 (.iload_n 1) 1 := by decide +kernel
theorem d21_12 : dk B36 12 (.invokestatic 495) 3 := by decide +kernel
theorem d21_15 : dk B36 15 (.ireturn) 1 := by decide +kernel
theorem d21_16 : dk B36 16 (.aload_n 0) 1 := by decide +kernel
theorem d21_17 : dk B36 17 (.getfield 9) 3 := by decide +kernel
theorem d21_20 : dk B36 20 (.iload_n 1) 1 := by decide +kernel
theorem d21_21 : dk B36 21 (.invokestatic 498) 3 := by decide +kernel
theorem d21_24 : dk B36 24 (.ireturn) 1 := by decide +kernel
theorem pn_21 : plainName "java/lang/String" = true := by first | (simp [plainName, overriddenIn]; done) | decide +kernel
theorem own_pd25 : parseMethodDescriptor "([BI)C" = some ⟨[(.array .byte), .int], some .char⟩ := by decide +kernel
theorem ef_chAt_1_0_0 (m : MethodId) (x0 : Addr) : entryFrame m #[(.ref x0), (.int 0)] 2 = mkF m 0 #[.val (.ref x0), .val (.int 0)] [] := by first | (simp [entryFrame, mkF, argsToLocals, Value.category]; done) | rfl
def Q_chAt_1_0_0 (Z : State) (aS : Addr) (tA : Addr) (kA : ClassId) (y0 : Int32) (zCS : Int32) (fm : Value) (h0 : Heap) (n0 : Nat) (v : Option Value) (h : Heap) (L : List Loc) : Prop := v = some (.int (own_lat y0)) ∧ Fr n0 L ∧ h = h0
theorem rm_chAt_1_0_0 (l : Launch) (Z : State) (a0 : Array Value) (hw : HW a0 Z) (ws : List Jvm.Cond) (aS : Addr) (tA : Addr) (kA : ClassId) (y0 : Int32) (zCS : Int32) (fm : Value) (h0 : Heap) (n0 : Nat) (Z0 : n0 ≤ h0.size) (O0 : Old Z n0 h0) (E_0 : ek21 Z h0 aS) (F0v : fk16 Z h0 aS (.ref tA)) (F0c : fk15 Z h0 aS (.int 0)) (R_A : Arv Z h0 tA kA .byte (1 : Int32) [(.int y0)] (.int 0)) (S_CS : sk0 Z Z.heap (.int zCS)) (P_CS : ¬ zCS = 0) (S_SF : sk4 Z Z.heap fm) (P_SF : fm.isRef = true) :
    M36 l ws (rmk 3 0 0 40) Z #[(.ref aS), (.int 0)] h0 (Q_chAt_1_0_0 Z aS tA kA y0 zCS fm h0 n0) := by
  refine own_go "java/lang/String" rfl (plainFor_of_name pn_21) (fun m => ef_chAt_1_0_0 m aS) (fun p e s m below meth c s₁ hx hby hml hown hnm hlk hret hZ X0 e0 => ?_)
  have N0 := Fr.nil n0
  show gs s₁ m 0 #[vr aS, vi 0] []
  refine oaloadN X0 hx hby d21_0 rfl rfl ?_
  refine oV 0 X0 hx hZ hby hml hown (own_w hw 137 rfl) (own_w hw 138 rfl) (own_w hw 140 rfl) (own_w hw 139 rfl) (rm_sLat_0 l Z a0 hw [] aS zCS h0 n0 Z0 O0 S_CS P_CS F0c) (own_w hw 141 rfl) (own_w hw 32 rfl) e0 E_0 (by decide) own_pd11 d21_1 rfl rfl rfl (fun T1 L1 v1 X1 hQ1 => ?_)
  obtain ⟨rfl, Nq1, eq1⟩ := hQ1
  have N1 := Fr.app N0 Nq1
  show gs T1 m 4 #[vr aS, vi 0] [(.int 1)]
  refine own_st (fun _ kS => XS.ifNo X1.here hx rfl (hb hby d21_4) rfl ((if0 _ _).trans (feq (by decide : ¬ ((1 : Int32) = (0 : Int32)))).1) kS) ?_
  show gs T1 m 7 #[vr aS, vi 0] []
  refine oaloadN X1 hx hby d21_7 rfl rfl ?_
  obtain ⟨T2, X2, e2, st2⟩ := getF X1 hx hZ hown (host := "") (Or.inl (own_w hw 88 rfl)) Via.refl eq1 F0v (g := (mkF m 8 #[vr aS, vi 0] [(.ref aS)])) rfl rfl (hb hby d21_8)
  refine own_st st2 ?_
  show gs T2 m 11 #[vr aS, vi 0] [(.ref tA)]
  refine oiloadN X2 hx hby d21_11 rfl ?_
  refine oS 0 X2 hx hZ hby hml hown (own_w hw 142 rfl) (own_w hw 143 rfl) (own_w hw 130 rfl) (own_w hw 144 rfl) (rm_l1chat_1_0 l Z a0 hw [] tA kA y0 fm h0 n0 Z0 O0 R_A S_SF P_SF) e2 (by decide) own_pd25 d21_12 rfl rfl rfl (fun T3 L3 v3 X3 hQ3 => ?_)
  obtain ⟨rfl, Nq3, eq3⟩ := hQ3
  have N3 := Fr.app N1 Nq3
  show gs T3 m 15 #[vr aS, vi 0] [(.int (own_lat y0))]
  exact own_retN X3 hx hlk (t := .char) hret (by simp) (hb hby d21_15) (by decide) (by decide) (v' := (own_lat y0)) (own_nlat _) (by rw [eq3]; exact ⟨rfl, N3, rfl⟩)
theorem ef_dec_1_U (m : MethodId) (x0 : Addr) (x1 : Addr) (x2 : Int32) (x3 : Int32) : entryFrame m #[(.ref x0), (.ref x1), (.int x2), (.int x3)] 7 = mkF m 0 #[.val (.ref x0), .val (.ref x1), .val (.int x2), .val (.int x3), .unset, .unset, .unset] [] := by first | (simp [entryFrame, mkF, argsToLocals, Value.category]; done) | rfl
def Q_dec_1_U (Z : State) (a1 : Addr) (a2 : Addr) (cB : Cell) (at1 : Int32) (t1 : Int32) (w : Int32) (le : Int32) (u0 : Int32) (zCS : Int32) (fm : Value) (h0 : Heap) (n0 : Nat) (v : Option Value) (h : Heap) (L : List Loc) : Prop := ∃ bS : Addr, ∃ tN : Addr, ∃ kN : ClassId, v = some (.ref bS) ∧ Fr n0 L ∧ Keep h0 h [] ∧ ek21 Z h bS ∧ fk15 Z h bS (.int 1) ∧ fk16 Z h bS (.ref tN) ∧ Arv Z h tN kN .byte (2 : Int32) [(.int (nar .byte (((own_chr u0) >>> ((0 : Int32) &&& 31)).toInt8.toInt32))), (.int (nar .byte (((own_chr u0) >>> ((8 : Int32) &&& 31)).toInt8.toInt32)))] (.int 0)
theorem rm_dec_1_U (l : Launch) (Z : State) (a0 : Array Value) (hw : HW a0 Z) (ws : List Jvm.Cond) (a1 : Addr) (a2 : Addr) (cB : Cell) (at1 : Int32) (t1 : Int32) (w : Int32) (le : Int32) (u0 : Int32) (zCS : Int32) (fm : Value) (h0 : Heap) (n0 : Nat) (Z0 : n0 ≤ h0.size) (O0 : Old Z n0 h0) (E_e : ek22 Z Z.heap a1) (Fw : fk17 Z Z.heap a1 (.int w)) (Fl : fk18 Z Z.heap a1 (.int le)) (Tb : Tab Z h0 a2 cB .byte (8 : Int32)) (hr : own_rg (1 : Int32) w at1 t1) (hwl0 : own_wl w le cB at1 u0) (hC0 : (255 : Int32) < (own_chr u0)) (S_CS : sk0 Z Z.heap (.int zCS)) (P_CS : ¬ zCS = 0) (S_SF : sk4 Z Z.heap fm) (P_SF : fm.isRef = true) (S_AD : sk1 Z Z.heap (.int 1)) (S_HI : sk2 Z Z.heap (.int 0)) (S_LO : sk3 Z Z.heap (.int 8)) :
    M31 l ws (rmk 8 5 13 115) Z #[(.ref a1), (.ref a2), (.int at1), (.int t1)] h0 (Q_dec_1_U Z a1 a2 cB at1 t1 w le u0 zCS fm h0 n0) := by
  refine own_go "com/example/provenir/provenir/TextEncoding" rfl (plainFor_of_name pn_2) (fun m => ef_dec_1_U m a1 a2 at1 t1) (fun p e s m below meth c s₁ hx hby hml hown hnm hlk hret hZ X0 e0 => ?_)
  have N0 := Fr.nil n0
  have K0 := Keep.refl h0 []
  show gs s₁ m 0 #[vr a1, vr a2, vi at1, vi t1, .unset, .unset, .unset] []
  obtain ⟨T1, h1, X1, e1, E1, A1, D1, -, st1⟩ := newO X0 hx hZ hown (own_w hw 14 rfl) (own_w hw 15 rfl) (own_w hw 16 rfl) e0 (g := (mkF m 0 #[vr a1, vr a2, vi at1, vi t1, .unset, .unset, .unset] [])) rfl (hb hby d2_0) (by decide) (by decide)
  obtain ⟨b1, g1⟩ : ∃ z, z = h0.size := ⟨_, rfl⟩
  have ne_a2_b1 : a2 ≠ b1 := Nat.ne_of_lt (Nat.lt_of_lt_of_eq Tb.lt g1.symm)
  have ge_b1 : n0 ≤ b1 := Nat.le_trans Z0 (Nat.le_of_eq g1.symm)
  have sz_b1 : h0.size ≤ b1 := Nat.le_trans K0.1 (Nat.le_of_eq g1.symm)
  rw [← g1] at A1 D1 st1
  have K1 := K0.ext E1
  have O1 := O0.ext E1
  have F1_value : fk11 Z h1 b1 .null := D1 (Or.inl (own_w hw 34 rfl)) (ty := (.array .byte)) (by decide)
  have F1_coder : fk12 Z h1 b1 (.int 0) := D1 (Or.inl (own_w hw 36 rfl)) (ty := .byte) (by decide)
  have F1_count : fk13 Z h1 b1 (.int 0) := D1 (Or.inl (own_w hw 67 rfl)) (ty := .int) (by decide)
  have F1_maybeLatin1 : fk14 Z h1 b1 (.int 0) := D1 (Or.inl (own_w hw 204 rfl)) (ty := .boolean) (by decide)
  refine own_st st1 ?_
  show gs T1 m 3 #[vr a1, vr a2, vi at1, vi t1, .unset, .unset, .unset] [(.ref b1)]
  refine own_st (fun _ kS => XS.dup X1.here hx rfl (hb hby d2_3) rfl rfl kS) ?_
  refine oiloadN X1 hx hby d2_4 rfl ?_
  refine oiloadN X1 hx hby d2_5 rfl ?_
  refine own_st (fun _ kS => XS.isub X1.here hx rfl (hb hby d2_6) rfl kS) ?_
  refine oaloadN X1 hx hby d2_7 rfl rfl ?_
  obtain ⟨T2, X2, e2, st2⟩ := getF X1 hx hZ hown (host := "") (Or.inl (own_w hw 17 rfl)) Via.refl e1 (Fld.ext O1.2 Fw) (g := (mkF m 8 #[vr a1, vr a2, vi at1, vi t1, .unset, .unset, .unset] [(.ref a1), (.int (t1 - at1)), (.ref b1), (.ref b1)])) rfl rfl (hb hby d2_8)
  refine own_st st2 ?_
  show gs T2 m 11 #[vr a1, vr a2, vi at1, vi t1, .unset, .unset, .unset] [(.int w), (.int (t1 - at1)), (.ref b1), (.ref b1)]
  refine own_st (fun _ kS => XS.idiv X2.here hx rfl (hb hby d2_11) rfl (own_wne hr) kS) ?_
  show gs T2 m 12 #[vr a1, vr a2, vi at1, vi t1, .unset, .unset, .unset] [(.int ((t1 - at1) / w)), (.ref b1), (.ref b1)]
  rw [own_div hr (by decide)]
  show gs T2 m 12 #[vr a1, vr a2, vi at1, vi t1, .unset, .unset, .unset] [(.int 1), (.ref b1), (.ref b1)]
  refine oN 1 X2 hx hZ hby hml hown (own_w hw 19 rfl) (own_w hw 20 rfl) (own_w hw 16 rfl) (own_w hw 21 rfl) (rm_sbInit_1 l Z a0 hw [] b1 zCS h1 n0 (Nat.le_trans Z0 E1.1) O1 A1 ge_b1 F1_value F1_coder F1_count F1_maybeLatin1 S_CS P_CS) e2 rfl (by decide) own_pd0 d2_12 rfl rfl rfl (fun T3 L3 v3 X3 hQ3 => ?_)
  obtain ⟨tN_3, kN_3, rfl, Nq3, Kc3, P3_0, P3_1, P3_2, P3_3, P3_4, P3_5, P3_6, P3_7⟩ := hQ3
  have N3 := Fr.app N0 Nq3
  have ne_a2_tN_3 : a2 ≠ tN_3 := Nat.ne_of_lt (Nat.lt_of_lt_of_le (Tab.ext Tb E1).lt P3_0)
  have ne_b1_tN_3 : b1 ≠ tN_3 := Nat.ne_of_lt (Nat.lt_of_lt_of_le A1.lt P3_0)
  have ge_tN_3 : n0 ≤ tN_3 := Nat.le_trans (Nat.le_trans Z0 E1.1) P3_0
  have sz_tN_3 : h0.size ≤ tN_3 := Nat.le_trans K1.1 P3_0
  have K3 := K1.trans Kc3 (allS (Or.inr sz_b1) all0)
  have O3 := O1.keep Kc3 (allS ge_b1 all0)
  show gs T3 m 15 #[vr a1, vr a2, vi at1, vi t1, .unset, .unset, .unset] [(.ref b1)]
  refine own_st (fun _ kS => XS.astore X3.here hx rfl (hb hby d2_15) rfl rfl (l' := #[vr a1, vr a2, vi at1, vi t1, vr b1, .unset, .unset]) rfl kS) ?_
  refine oiloadN X3 hx hby d2_17 rfl ?_
  refine own_st (fun _ kS => XS.istore X3.here hx rfl (hb hby d2_18) rfl (l' := #[vr a1, vr a2, vi at1, vi t1, vr b1, vi at1, .unset]) rfl kS) ?_
  refine oiload X3 hx hby d2_20 rfl ?_
  refine oiloadN X3 hx hby d2_22 rfl ?_
  refine own_st (fun _ kS => XS.icmpNo X3.here hx rfl (hb hby d2_23) rfl (tlt (own_l1 hr : at1 < t1)).2.1 kS) ?_
  show gs T3 m 26 #[vr a1, vr a2, vi at1, vi t1, vr b1, vi at1, .unset] []
  refine oaloadN X3 hx hby d2_26 rfl rfl ?_
  refine oaloadN X3 hx hby d2_27 rfl rfl ?_
  refine oiload X3 hx hby d2_28 rfl ?_
  refine oV 0 X3 hx hZ hby hml hown (own_w hw 107 rfl) (own_w hw 108 rfl) (own_w hw 110 rfl) (own_w hw 109 rfl) (rm_unitAt l Z a0 hw [] a1 a2 cB at1 w le u0 T3.heap n0 (Nat.le_trans (Nat.le_trans Z0 E1.1) Kc3.1) O3 Fw Fl (own_tabk (Tab.ext Tb E1) Kc3 (ninS ne_a2_b1 nin0)) (own_g1 hr) hwl0) (own_w hw 111 rfl) (own_w hw 6 rfl) rfl (Exa.ext O3.2 E_e) (by decide) own_pd23 d2_30 rfl rfl rfl (fun T4 L4 v4 X4 hQ4 => ?_)
  obtain ⟨rfl, Nq4, eq4⟩ := hQ4
  have N4 := Fr.app N3 Nq4
  show gs T4 m 33 #[vr a1, vr a2, vi at1, vi t1, vr b1, vi at1, .unset] [(.int u0)]
  refine own_st (fun _ kS => XS.istore X4.here hx rfl (hb hby d2_33) rfl (l' := #[vr a1, vr a2, vi at1, vi t1, vr b1, vi at1, vi u0]) rfl kS) ?_
  refine oaload X4 hx hby d2_35 rfl rfl ?_
  show gs T4 m 37 #[vr a1, vr a2, vi at1, vi t1, vr b1, vi at1, vi u0] [(.ref b1)]
  suffices hJ5 : own_G p.tables e below _ (T4.setTop (mkF m 57 #[vr a1, vr a2, vi at1, vi t1, vr b1, vi at1, vi u0] [(.int (own_chr u0)), (.ref b1)])) by
    by_cases hu5 : u0 < (0 : Int32)
    · skip
      refine oiload X4 hx hby d2_37 rfl ?_
      refine own_st (fun _ kS => XS.ifYes X4.here hx rfl (pc0 := 39) (pc' := 55) rfl (hb hby d2_39) rfl ((if0 _ _).trans (tlt (hu5 : u0 < (0 : Int32))).1) (by decide) (by decide) kS) ?_
      show gs T4 m 55 #[vr a1, vr a2, vi at1, vi t1, vr b1, vi at1, vi u0] [(.ref b1)]
      refine own_st (fun _ kS => X4.ldcInt hx hown (mvT hZ (own_w hw 158 rfl)) (g := (mkF m 55 #[vr a1, vr a2, vi at1, vi t1, vr b1, vi at1, vi u0] [(.ref b1)])) rfl (hb hby d2_55) _ kS) ?_
      show gs T4 m 57 #[vr a1, vr a2, vi at1, vi t1, vr b1, vi at1, vi u0] [(.int 65533), (.ref b1)]
      rw [own_chr, if_pos hu5] at hJ5
      exact hJ5
    · skip
      by_cases hv5 : (65535 : Int32) < u0
      · skip
        refine oiload X4 hx hby d2_37 rfl ?_
        refine own_st (fun _ kS => XS.ifNo X4.here hx rfl (hb hby d2_39) rfl ((if0 _ _).trans (flt (hu5 : ¬ (u0 < (0 : Int32)))).1) kS) ?_
        show gs T4 m 42 #[vr a1, vr a2, vi at1, vi t1, vr b1, vi at1, vi u0] [(.ref b1)]
        refine oiload X4 hx hby d2_42 rfl ?_
        show gs T4 m 44 #[vr a1, vr a2, vi at1, vi t1, vr b1, vi at1, vi u0] [(.int u0), (.ref b1)]
        refine own_st (fun _ kS => X4.ldcInt hx hown (mvT hZ (own_w hw 112 rfl)) (g := (mkF m 44 #[vr a1, vr a2, vi at1, vi t1, vr b1, vi at1, vi u0] [(.int u0), (.ref b1)])) rfl (hb hby d2_44) _ kS) ?_
        show gs T4 m 46 #[vr a1, vr a2, vi at1, vi t1, vr b1, vi at1, vi u0] [(.int 65535), (.int u0), (.ref b1)]
        refine own_st (fun _ kS => XS.icmpYes X4.here hx rfl (pc0 := 46) (pc' := 55) rfl (hb hby d2_46) rfl (tlt (hv5 : (65535 : Int32) < u0)).2.2.1 (by decide) (by decide) kS) ?_
        show gs T4 m 55 #[vr a1, vr a2, vi at1, vi t1, vr b1, vi at1, vi u0] [(.ref b1)]
        refine own_st (fun _ kS => X4.ldcInt hx hown (mvT hZ (own_w hw 158 rfl)) (g := (mkF m 55 #[vr a1, vr a2, vi at1, vi t1, vr b1, vi at1, vi u0] [(.ref b1)])) rfl (hb hby d2_55) _ kS) ?_
        show gs T4 m 57 #[vr a1, vr a2, vi at1, vi t1, vr b1, vi at1, vi u0] [(.int 65533), (.ref b1)]
        rw [own_chr, if_neg hu5, if_pos hv5] at hJ5
        exact hJ5
      · skip
        refine oiload X4 hx hby d2_37 rfl ?_
        refine own_st (fun _ kS => XS.ifNo X4.here hx rfl (hb hby d2_39) rfl ((if0 _ _).trans (flt (hu5 : ¬ (u0 < (0 : Int32)))).1) kS) ?_
        show gs T4 m 42 #[vr a1, vr a2, vi at1, vi t1, vr b1, vi at1, vi u0] [(.ref b1)]
        refine oiload X4 hx hby d2_42 rfl ?_
        show gs T4 m 44 #[vr a1, vr a2, vi at1, vi t1, vr b1, vi at1, vi u0] [(.int u0), (.ref b1)]
        refine own_st (fun _ kS => X4.ldcInt hx hown (mvT hZ (own_w hw 112 rfl)) (g := (mkF m 44 #[vr a1, vr a2, vi at1, vi t1, vr b1, vi at1, vi u0] [(.int u0), (.ref b1)])) rfl (hb hby d2_44) _ kS) ?_
        show gs T4 m 46 #[vr a1, vr a2, vi at1, vi t1, vr b1, vi at1, vi u0] [(.int 65535), (.int u0), (.ref b1)]
        refine own_st (fun _ kS => XS.icmpNo X4.here hx rfl (hb hby d2_46) rfl (flt (hv5 : ¬ ((65535 : Int32) < u0))).2.2.1 kS) ?_
        show gs T4 m 49 #[vr a1, vr a2, vi at1, vi t1, vr b1, vi at1, vi u0] [(.ref b1)]
        refine oiload X4 hx hby d2_49 rfl ?_
        refine own_st (fun _ kS => XT.i2c X4.here hx rfl (hb hby d2_51) rfl kS) ?_
        refine own_st (fun _ kS => XS.goto X4.here hx rfl (pc0 := 52) (pc' := 57) rfl (hb hby d2_52) (by decide) (by decide) kS) ?_
        show gs T4 m 57 #[vr a1, vr a2, vi at1, vi t1, vr b1, vi at1, vi u0] [(.int (u0.toUInt32.toUInt16.toUInt32.toInt32)), (.ref b1)]
        rw [own_chr, if_neg hu5, if_neg hv5] at hJ5
        exact hJ5
  show gs T4 m 57 #[vr a1, vr a2, vi at1, vi t1, vr b1, vi at1, vi u0] [(.int (own_chr u0)), (.ref b1)]
  refine oV 0 X4 hx hZ hby hml hown (own_w hw 113 rfl) (own_w hw 114 rfl) (own_w hw 116 rfl) (own_w hw 115 rfl) (rm_sbApp_1_0_0_U l Z a0 hw [] b1 tN_3 kN_3 (own_chr u0) (0 : Int32) zCS fm T3.heap n0 (Nat.le_trans (Nat.le_trans Z0 E1.1) Kc3.1) O3 P3_2 ge_b1 P3_3 P3_4 P3_5 P3_6 ne_b1_tN_3 P3_7 ge_tN_3 S_CS P_CS S_SF P_SF S_AD S_HI S_LO hC0) (own_w hw 117 rfl) (own_w hw 16 rfl) eq4 P3_2 (by decide) own_pd24 d2_57 rfl rfl rfl (fun T6 L6 v6 X6 hQ6 => ?_)
  obtain ⟨tN_6, kN_6, rfl, Nq6, Kc6, P6_0, P6_1, P6_2, P6_3, P6_4, P6_5, P6_6, P6_7⟩ := hQ6
  have N6 := Fr.app N4 Nq6
  have ne_a2_tN_6 : a2 ≠ tN_6 := Nat.ne_of_lt (Nat.lt_of_lt_of_le (own_tabk (Tab.ext Tb E1) Kc3 (ninS ne_a2_b1 nin0)).lt P6_0)
  have ne_b1_tN_6 : b1 ≠ tN_6 := Nat.ne_of_lt (Nat.lt_of_lt_of_le P3_2.lt P6_0)
  have ne_tN_3_tN_6 : tN_3 ≠ tN_6 := Nat.ne_of_lt (Nat.lt_of_lt_of_le P3_1.lt P6_0)
  have ge_tN_6 : n0 ≤ tN_6 := Nat.le_trans (Nat.le_trans (Nat.le_trans Z0 E1.1) Kc3.1) P6_0
  have sz_tN_6 : h0.size ≤ tN_6 := Nat.le_trans K3.1 P6_0
  have K6 := K3.trans Kc6 (allS (Or.inr sz_b1) all0)
  have O6 := O3.keep Kc6 (allS ge_b1 all0)
  show gs T6 m 60 #[vr a1, vr a2, vi at1, vi t1, vr b1, vi at1, vi u0] [(.ref b1)]
  refine own_st (fun _ kS => XT.pop X6.here hx rfl (hb hby d2_60) rfl rfl kS) ?_
  refine oiload X6 hx hby d2_61 rfl ?_
  refine oaloadN X6 hx hby d2_63 rfl rfl ?_
  obtain ⟨T7, X7, e7, st7⟩ := getF X6 hx hZ hown (host := "") (Or.inl (own_w hw 17 rfl)) Via.refl rfl (Fld.ext O6.2 Fw) (g := (mkF m 64 #[vr a1, vr a2, vi at1, vi t1, vr b1, vi at1, vi u0] [(.ref a1), (.int at1)])) rfl rfl (hb hby d2_64)
  refine own_st st7 ?_
  show gs T7 m 67 #[vr a1, vr a2, vi at1, vi t1, vr b1, vi at1, vi u0] [(.int w), (.int at1)]
  refine own_st (fun _ kS => XS.iadd X7.here hx rfl (hb hby d2_67) rfl kS) ?_
  refine own_st (fun _ kS => XS.istore X7.here hx rfl (hb hby d2_68) rfl (l' := #[vr a1, vr a2, vi at1, vi t1, vr b1, vi (at1 + w), vi u0]) rfl kS) ?_
  refine own_st (fun _ kS => XS.goto X7.here hx rfl (pc0 := 70) (pc' := 20) rfl (hb hby d2_70) (by decide) (by decide) kS) ?_
  refine oiload X7 hx hby d2_20 rfl ?_
  refine oiloadN X7 hx hby d2_22 rfl ?_
  refine own_st (fun _ kS => XS.icmpYes X7.here hx rfl (pc0 := 23) (pc' := 73) rfl (hb hby d2_23) rfl (flt (own_m1 hr : ¬ ((at1 + w) < t1))).2.1 (by decide) (by decide) kS) ?_
  show gs T7 m 73 #[vr a1, vr a2, vi at1, vi t1, vr b1, vi (at1 + w), vi u0] []
  refine oaload X7 hx hby d2_73 rfl rfl ?_
  refine oV 0 X7 hx hZ hby hml hown (own_w hw 37 rfl) (own_w hw 38 rfl) (own_w hw 40 rfl) (own_w hw 39 rfl) (rm_toStr_1_1 l Z a0 hw [] b1 tN_6 kN_6 (nar .byte (((own_chr u0) >>> ((0 : Int32) &&& 31)).toInt8.toInt32)) (nar .byte (((own_chr u0) >>> ((8 : Int32) &&& 31)).toInt8.toInt32)) zCS T6.heap n0 (Nat.le_trans (Nat.le_trans (Nat.le_trans Z0 E1.1) Kc3.1) Kc6.1) O6 P6_2 P6_3 P6_4 P6_5 P6_6 P6_7 P6_1 S_CS P_CS) (own_w hw 41 rfl) (own_w hw 16 rfl) e7 P6_2 (by decide) own_pd21 d2_75 rfl rfl rfl (fun T8 L8 v8 X8 hQ8 => ?_)
  obtain ⟨bS_8, tN_8, rfl, Nq8, Kc8, P8_0, P8_1, P8_2, P8_3, P8_4, P8_5, P8_6⟩ := hQ8
  have N8 := Fr.app N6 Nq8
  have ne_a2_bS_8 : a2 ≠ bS_8 := Nat.ne_of_lt (Nat.lt_of_lt_of_le (own_tabk (own_tabk (Tab.ext Tb E1) Kc3 (ninS ne_a2_b1 nin0)) Kc6 (ninS ne_a2_b1 nin0)).lt P8_0)
  have ne_b1_bS_8 : b1 ≠ bS_8 := Nat.ne_of_lt (Nat.lt_of_lt_of_le P6_2.lt P8_0)
  have ne_tN_3_bS_8 : tN_3 ≠ bS_8 := Nat.ne_of_lt (Nat.lt_of_lt_of_le (P3_1.keep Kc6).lt P8_0)
  have ne_tN_6_bS_8 : tN_6 ≠ bS_8 := Nat.ne_of_lt (Nat.lt_of_lt_of_le P6_1.lt P8_0)
  have ge_bS_8 : n0 ≤ bS_8 := Nat.le_trans (Nat.le_trans (Nat.le_trans (Nat.le_trans Z0 E1.1) Kc3.1) Kc6.1) P8_0
  have sz_bS_8 : h0.size ≤ bS_8 := Nat.le_trans K6.1 P8_0
  have ne_a2_tN_8 : a2 ≠ tN_8 := Nat.ne_of_lt (Nat.lt_of_lt_of_le (own_tabk (own_tabk (Tab.ext Tb E1) Kc3 (ninS ne_a2_b1 nin0)) Kc6 (ninS ne_a2_b1 nin0)).lt P8_1)
  have ne_b1_tN_8 : b1 ≠ tN_8 := Nat.ne_of_lt (Nat.lt_of_lt_of_le P6_2.lt P8_1)
  have ne_tN_3_tN_8 : tN_3 ≠ tN_8 := Nat.ne_of_lt (Nat.lt_of_lt_of_le (P3_1.keep Kc6).lt P8_1)
  have ne_tN_6_tN_8 : tN_6 ≠ tN_8 := Nat.ne_of_lt (Nat.lt_of_lt_of_le P6_1.lt P8_1)
  have ge_tN_8 : n0 ≤ tN_8 := Nat.le_trans (Nat.le_trans (Nat.le_trans (Nat.le_trans Z0 E1.1) Kc3.1) Kc6.1) P8_1
  have sz_tN_8 : h0.size ≤ tN_8 := Nat.le_trans K6.1 P8_1
  have K8 := K6.trans Kc8 all0
  have O8 := O6.keep Kc8 all0
  show gs T8 m 78 #[vr a1, vr a2, vi at1, vi t1, vr b1, vi (at1 + w), vi u0] [(.ref bS_8)]
  exact own_retA X8 hx hlk hret rfl rfl (hb hby d2_78) (by decide) (by decide) (show Q_dec_1_U Z a1 a2 cB at1 t1 w le u0 zCS fm h0 n0 _ _ _ from ⟨bS_8, tN_8, kN_6, ⟨rfl, N8, K8, P8_3, P8_4, P8_5, P8_6⟩⟩)
theorem ef_coder_1 (m : MethodId) (x0 : Addr) : entryFrame m #[(.ref x0)] 1 = mkF m 0 #[.val (.ref x0)] [] := by first | (simp [entryFrame, mkF, argsToLocals, Value.category]; done) | rfl
def Q_coder_1 (Z : State) (aS : Addr) (zCS : Int32) (h0 : Heap) (n0 : Nat) (v : Option Value) (h : Heap) (L : List Loc) : Prop := v = some (.int 1) ∧ Fr n0 L ∧ h = h0
theorem rm_coder_1 (l : Launch) (Z : State) (a0 : Array Value) (hw : HW a0 Z) (ws : List Jvm.Cond) (aS : Addr) (zCS : Int32) (h0 : Heap) (n0 : Nat) (Z0 : n0 ≤ h0.size) (O0 : Old Z n0 h0) (S_CS : sk0 Z Z.heap (.int zCS)) (P_CS : ¬ zCS = 0) (F0c : fk15 Z h0 aS (.int 1)) :
    M32 l ws (rmk 0 0 0 0) Z #[(.ref aS)] h0 (Q_coder_1 Z aS zCS h0 n0) := by
  refine own_go "java/lang/String" rfl (plainFor_of_name pn_15) (fun m => ef_coder_1 m aS) (fun p e s m below meth c s₁ hx hby hml hown hnm hlk hret hZ X0 e0 => ?_)
  have N0 := Fr.nil n0
  show gs s₁ m 0 #[vr aS] []
  obtain ⟨T1, X1, e1, st1⟩ := getS2 X0 hx hZ hown (host := "") (Or.inl (own_w hw 100 rfl)) Via.refl e0 (Sta.ext O0.2 S_CS) (g := (mkF m 0 #[vr aS] [])) rfl (hb hby d15_0)
  refine own_st st1 ?_
  show gs T1 m 3 #[vr aS] [(.int zCS)]
  refine own_st (fun _ kS => XS.ifNo X1.here hx rfl (hb hby d15_3) rfl ((if0 _ _).trans (feq (P_CS : ¬ (zCS = (0 : Int32)))).1) kS) ?_
  show gs T1 m 6 #[vr aS] []
  refine oaloadN X1 hx hby d15_6 rfl rfl ?_
  obtain ⟨T2, X2, e2, st2⟩ := getF X1 hx hZ hown (host := "") (Or.inl (own_w hw 73 rfl)) Via.refl e1 F0c (g := (mkF m 7 #[vr aS] [(.ref aS)])) rfl rfl (hb hby d15_7)
  refine own_st st2 ?_
  show gs T2 m 10 #[vr aS] [(.int 1)]
  refine own_st (fun _ kS => XS.goto X2.here hx rfl (pc0 := 10) (pc' := 14) rfl (hb hby d15_10) (by decide) (by decide) kS) ?_
  show gs T2 m 14 #[vr aS] [(.int 1)]
  exact own_retN X2 hx hlk (t := .byte) hret (by simp) (hb hby d15_14) (by decide) (by decide) (v' := (1 : Int32)) rfl (by rw [e2]; exact ⟨rfl, N0, rfl⟩)
theorem ef_sLen_1_1 (m : MethodId) (x0 : Addr) : entryFrame m #[(.ref x0)] 1 = mkF m 0 #[.val (.ref x0)] [] := by first | (simp [entryFrame, mkF, argsToLocals, Value.category]; done) | rfl
def Q_sLen_1_1 (Z : State) (aS : Addr) (tA : Addr) (kA : ClassId) (y0 : Int32) (y1 : Int32) (zCS : Int32) (h0 : Heap) (n0 : Nat) (v : Option Value) (h : Heap) (L : List Loc) : Prop := v = some (.int 1) ∧ Fr n0 L ∧ h = h0
theorem rm_sLen_1_1 (l : Launch) (Z : State) (a0 : Array Value) (hw : HW a0 Z) (ws : List Jvm.Cond) (aS : Addr) (tA : Addr) (kA : ClassId) (y0 : Int32) (y1 : Int32) (zCS : Int32) (h0 : Heap) (n0 : Nat) (Z0 : n0 ≤ h0.size) (O0 : Old Z n0 h0) (E_0 : ek21 Z h0 aS) (F0v : fk16 Z h0 aS (.ref tA)) (F0c : fk15 Z h0 aS (.int 1)) (R_A : Arv Z h0 tA kA .byte (2 : Int32) [(.int y0), (.int y1)] (.int 0)) (S_CS : sk0 Z Z.heap (.int zCS)) (P_CS : ¬ zCS = 0) :
    M33 l ws (rmk 1 0 0 13) Z #[(.ref aS)] h0 (Q_sLen_1_1 Z aS tA kA y0 y1 zCS h0 n0) := by
  refine own_go "java/lang/String" rfl (plainFor_of_name pn_14) (fun m => ef_sLen_1_1 m aS) (fun p e s m below meth c s₁ hx hby hml hown hnm hlk hret hZ X0 e0 => ?_)
  have N0 := Fr.nil n0
  show gs s₁ m 0 #[vr aS] []
  refine oaloadN X0 hx hby d14_0 rfl rfl ?_
  obtain ⟨T1, X1, e1, st1⟩ := getF X0 hx hZ hown (host := "") (Or.inl (own_w hw 88 rfl)) Via.refl e0 F0v (g := (mkF m 1 #[vr aS] [(.ref aS)])) rfl rfl (hb hby d14_1)
  refine own_st st1 ?_
  show gs T1 m 4 #[vr aS] [(.ref tA)]
  obtain ⟨cl2, Ar2, qa2, qs2, qn2, qh2, qg2⟩ := id R_A
  refine own_st (fun _ kS => X1.arraylength hx (by rw [e1]; exact Ar2.1) (State.isArrayOf_alike hZ.alike Ar2.2.1) (g := (mkF m 4 #[vr aS] [(.ref tA)])) rfl rfl (hb hby d14_4) _ kS) ?_
  rw [len_of qs2 qn2]
  show gs T1 m 5 #[vr aS] [(.int 2)]
  refine oaloadN X1 hx hby d14_5 rfl rfl ?_
  refine oV 1 X1 hx hZ hby hml hown (own_w hw 95 rfl) (own_w hw 96 rfl) (own_w hw 98 rfl) (own_w hw 97 rfl) (rm_coder_1 l Z a0 hw [] aS zCS h0 n0 Z0 O0 S_CS P_CS F0c) (own_w hw 99 rfl) (own_w hw 32 rfl) e1 E_0 (by decide) own_pd22 d14_6 rfl rfl rfl (fun T3 L3 v3 X3 hQ3 => ?_)
  obtain ⟨rfl, Nq3, eq3⟩ := hQ3
  have N3 := Fr.app N0 Nq3
  show gs T3 m 9 #[vr aS] [(.int 1), (.int 2)]
  refine own_st (fun _ kS => XT.ishr X3.here hx rfl (hb hby d14_9) rfl kS) ?_
  show gs T3 m 10 #[vr aS] [(.int 1)]
  exact own_retI X3 hx hlk hret (hb hby d14_10) (by decide) (by decide) (by rw [eq3]; exact ⟨rfl, N3, rfl⟩)
theorem d40_0 : dk B37 0 (.getstatic 44) 3 := by decide +kernel
theorem d40_3 : dk B37 3 (.ifCond .ne 25) 3 := by decide +kernel
theorem d40_6 : dk B37 6 (.iload_n 1) 1 := by decide +kernel
theorem d40_7 : dk B37 7 (.ifCond .lt 11) 3 := by decide +kernel
theorem d40_10 : dk B37 10 (.iload_n 1) 1 := by decide +kernel
theorem d40_11 : dk B37 11 (.aload_n 0) 1 := by decide +kernel
theorem d40_12 : dk B37 12 (.invokestatic 48) 3 := by decide +kernel
theorem d40_15 : dk B37 15 (.if_icmp .lt 13) 3 := by decide +kernel
theorem d40_18 : dk B37 18 (.new 52) 3 := by decide +kernel
theorem d40_21 : dk B37 21 (.dup) 1 := by decide +kernel
theorem d40_22 : dk B37 22 (.ldc 54) 2 := by decide +kernel
theorem d40_24 : dk B37 24 (.invokespecial 56) 3 := by decide +kernel
theorem d40_27 : dk B37 27 (.athrow) 1 := by decide +kernel
theorem d40_28 : dk B37 28 (.iload_n 1) 1 := by decide +kernel
theorem d40_29 : dk B37 29 (.iconst 1) 1 := by decide +kernel
theorem d40_30 : dk B37 30 (.ishl) 1 := by decide +kernel
theorem d40_31 : dk B37 31 (.istore_n 1) 1 := by decide +kernel
theorem d40_32 : dk B37 32 (.aload_n 0) 1 := by decide +kernel
theorem d40_33 : dk B37 33 (.iload_n 1) 1 := by decide +kernel
theorem d40_34 : dk B37 34 (.iinc 1 1) 3 := by decide +kernel
theorem d40_37 : dk B37 37 (.baload) 1 := by decide +kernel
theorem d40_38 : dk B37 38 (.sipush 255) 3 := by decide +kernel
theorem d40_41 : dk B37 41 (.iand) 1 := by decide +kernel
theorem d40_42 : dk B37 42 (.getstatic 59) 3 := by decide +kernel
theorem d40_45 : dk B37 45 (.ishl) 1 := by decide +kernel
theorem d40_46 : dk B37 46 (.aload_n 0) 1 := by decide +kernel
theorem d40_47 : dk B37 47 (.iload_n 1) 1 := by decide +kernel
theorem d40_48 : dk B37 48 (.baload) 1 := by decide +kernel
theorem d40_49 : dk B37 49 (.sipush 255) 3 := by decide +kernel
theorem d40_52 : dk B37 52 (.iand) 1 := by decide +kernel
theorem d40_53 : dk B37 53 (.getstatic 63) 3 := by decide +kernel
theorem d40_56 : dk B37 56 (.ishl) 1 := by decide +kernel
theorem d40_57 : dk B37 57 (.ior) 1 := by decide +kernel
theorem d40_58 : dk B37 58 (.i2c) 1 := by decide +kernel
theorem d40_59 : dk B37 59 (.ireturn) 1 := by decide +kernel
theorem pn_40 : plainName "java/lang/StringUTF16" = true := by first | (simp [plainName, overriddenIn]; done) | decide +kernel
theorem ef_getc_1_0 (m : MethodId) (x0 : Addr) : entryFrame m #[(.ref x0), (.int 0)] 2 = mkF m 0 #[.val (.ref x0), .val (.int 0)] [] := by first | (simp [entryFrame, mkF, argsToLocals, Value.category]; done) | rfl
def Q_getc_1_0 (Z : State) (tA : Addr) (kA : ClassId) (y0 : Int32) (y1 : Int32) (h0 : Heap) (n0 : Nat) (v : Option Value) (h : Heap) (L : List Loc) : Prop := v = some (.int (own_u16 y0 y1)) ∧ Fr n0 L ∧ h = h0
theorem rm_getc_1_0 (l : Launch) (Z : State) (a0 : Array Value) (hw : HW a0 Z) (ws : List Jvm.Cond) (tA : Addr) (kA : ClassId) (y0 : Int32) (y1 : Int32) (h0 : Heap) (n0 : Nat) (Z0 : n0 ≤ h0.size) (O0 : Old Z n0 h0) (R_A : Arv Z h0 tA kA .byte (2 : Int32) [(.int y0), (.int y1)] (.int 0)) (S_AD : sk1 Z Z.heap (.int 1)) (S_HI : sk2 Z Z.heap (.int 0)) (S_LO : sk3 Z Z.heap (.int 8)) :
    M37 l ws (rmk 0 0 0 0) Z #[(.ref tA), (.int 0)] h0 (Q_getc_1_0 Z tA kA y0 y1 h0 n0) := by
  refine own_go "java/lang/StringUTF16" rfl (plainFor_of_name pn_40) (fun m => ef_getc_1_0 m tA) (fun p e s m below meth c s₁ hx hby hml hown hnm hlk hret hZ X0 e0 => ?_)
  have N0 := Fr.nil n0
  show gs s₁ m 0 #[vr tA, vi 0] []
  obtain ⟨T1, X1, e1, st1⟩ := getS2 X0 hx hZ hown (host := "") (Or.inl (own_w hw 200 rfl)) Via.refl e0 (Sta.ext O0.2 S_AD) (g := (mkF m 0 #[vr tA, vi 0] [])) rfl (hb hby d40_0)
  refine own_st st1 ?_
  show gs T1 m 3 #[vr tA, vi 0] [(.int 1)]
  refine own_st (fun _ kS => XS.ifYes X1.here hx rfl (pc0 := 3) (pc' := 28) rfl (hb hby d40_3) rfl ((if0 _ _).trans (feq (by decide : ¬ ((1 : Int32) = (0 : Int32)))).2) (by decide) (by decide) kS) ?_
  show gs T1 m 28 #[vr tA, vi 0] []
  refine oiloadN X1 hx hby d40_28 rfl ?_
  refine oiconst X1 hx hby d40_29 ?_
  refine own_st (fun _ kS => XT.ishl X1.here hx rfl (hb hby d40_30) rfl kS) ?_
  refine own_st (fun _ kS => XS.istoreN X1.here hx rfl (hb hby d40_31) rfl (l' := #[vr tA, vi 0]) rfl kS) ?_
  refine oaloadN X1 hx hby d40_32 rfl rfl ?_
  refine oiloadN X1 hx hby d40_33 rfl ?_
  refine own_st (fun _ kS => XS.iinc X1.here hx rfl (hb hby d40_34) rfl (l' := #[vr tA, vi 1]) rfl kS) ?_
  show gs T1 m 37 #[vr tA, vi 1] [(.int 0), (.ref tA)]
  obtain ⟨cl2, Ar2, qa2, qs2, qn2, qh2, qg2⟩ := id R_A
  refine own_st (fun _ kS => X1.baloadBytes hx (j := (0 : Int32)) (v := (.int y0)) (by rw [e1]; exact Ar2.1) (State.isArrayOf_alike hZ.alike Ar2.2.1) Ar2.2.2 (inb_of qs2 ⟨by decide, by decide⟩) (qh2.at (inb_of qs2 ⟨by decide, by decide⟩) rfl) (g := (mkF m 37 #[vr tA, vi 1] [(.int 0), (.ref tA)])) rfl rfl (hb hby d40_37) _ kS) ?_
  show gs T1 m 38 #[vr tA, vi 1] [(.int y0)]
  refine own_st (fun _ kS => XS.sipush X1.here hx rfl (hb hby d40_38) kS) ?_
  refine own_st (fun _ kS => XS.iand X1.here hx rfl (hb hby d40_41) rfl kS) ?_
  show gs T1 m 42 #[vr tA, vi 1] [(.int (y0 &&& (255 : Int32)))]
  obtain ⟨T3, X3, e3, st3⟩ := getS2 X1 hx hZ hown (host := "") (Or.inl (own_w hw 201 rfl)) Via.refl e1 (Sta.ext O0.2 S_HI) (g := (mkF m 42 #[vr tA, vi 1] [(.int (y0 &&& (255 : Int32)))])) rfl (hb hby d40_42)
  refine own_st st3 ?_
  show gs T3 m 45 #[vr tA, vi 1] [(.int 0), (.int (y0 &&& (255 : Int32)))]
  refine own_st (fun _ kS => XT.ishl X3.here hx rfl (hb hby d40_45) rfl kS) ?_
  refine oaloadN X3 hx hby d40_46 rfl rfl ?_
  refine oiloadN X3 hx hby d40_47 rfl ?_
  show gs T3 m 48 #[vr tA, vi 1] [(.int 1), (.ref tA), (.int ((y0 &&& (255 : Int32)) <<< ((0 : Int32) &&& 31)))]
  obtain ⟨cl4, Ar4, qa4, qs4, qn4, qh4, qg4⟩ := id R_A
  refine own_st (fun _ kS => X3.baloadBytes hx (j := (1 : Int32)) (v := (.int y1)) (by rw [e3]; exact Ar4.1) (State.isArrayOf_alike hZ.alike Ar4.2.1) Ar4.2.2 (inb_of qs4 ⟨by decide, by decide⟩) (qh4.at (inb_of qs4 ⟨by decide, by decide⟩) rfl) (g := (mkF m 48 #[vr tA, vi 1] [(.int 1), (.ref tA), (.int ((y0 &&& (255 : Int32)) <<< ((0 : Int32) &&& 31)))])) rfl rfl (hb hby d40_48) _ kS) ?_
  show gs T3 m 49 #[vr tA, vi 1] [(.int y1), (.int ((y0 &&& (255 : Int32)) <<< ((0 : Int32) &&& 31)))]
  refine own_st (fun _ kS => XS.sipush X3.here hx rfl (hb hby d40_49) kS) ?_
  refine own_st (fun _ kS => XS.iand X3.here hx rfl (hb hby d40_52) rfl kS) ?_
  show gs T3 m 53 #[vr tA, vi 1] [(.int (y1 &&& (255 : Int32))), (.int ((y0 &&& (255 : Int32)) <<< ((0 : Int32) &&& 31)))]
  obtain ⟨T5, X5, e5, st5⟩ := getS2 X3 hx hZ hown (host := "") (Or.inl (own_w hw 202 rfl)) Via.refl e3 (Sta.ext O0.2 S_LO) (g := (mkF m 53 #[vr tA, vi 1] [(.int (y1 &&& (255 : Int32))), (.int ((y0 &&& (255 : Int32)) <<< ((0 : Int32) &&& 31)))])) rfl (hb hby d40_53)
  refine own_st st5 ?_
  show gs T5 m 56 #[vr tA, vi 1] [(.int 8), (.int (y1 &&& (255 : Int32))), (.int ((y0 &&& (255 : Int32)) <<< ((0 : Int32) &&& 31)))]
  refine own_st (fun _ kS => XT.ishl X5.here hx rfl (hb hby d40_56) rfl kS) ?_
  refine own_st (fun _ kS => XT.ior X5.here hx rfl (hb hby d40_57) rfl kS) ?_
  refine own_st (fun _ kS => XT.i2c X5.here hx rfl (hb hby d40_58) rfl kS) ?_
  show gs T5 m 59 #[vr tA, vi 1] [(.int ((((y0 &&& (255 : Int32)) <<< ((0 : Int32) &&& 31)) ||| ((y1 &&& (255 : Int32)) <<< ((8 : Int32) &&& 31))).toUInt32.toUInt16.toUInt32.toInt32))]
  exact own_retN X5 hx hlk (t := .char) hret (by simp) (hb hby d40_59) (by decide) (by decide) (v' := (own_u16 y0 y1)) rfl (by rw [e5]; exact ⟨(by simp []), N0, rfl⟩)
theorem d39_0 : dk B38 0 (.iload_n 1) 1 := by decide +kernel
theorem d39_1 : dk B38 1 (.aload_n 0) 1 := by decide +kernel
theorem d39_2 : dk B38 2 (.invokestatic 67) 3 := by decide +kernel
theorem d39_5 : dk B38 5 (.aload_n 0) 1 := by decide +kernel
theorem d39_6 : dk B38 6 (.iload_n 1) 1 := by decide +kernel
theorem d39_7 : dk B38 7 (.invokestatic 71) 3 := by decide +kernel
theorem d39_10 : dk B38 10 (.ireturn) 1 := by decide +kernel
theorem pn_39 : plainName "java/lang/StringUTF16" = true := by first | (simp [plainName, overriddenIn]; done) | decide +kernel
theorem ef_u16chat_1_0 (m : MethodId) (x0 : Addr) : entryFrame m #[(.ref x0), (.int 0)] 2 = mkF m 0 #[.val (.ref x0), .val (.int 0)] [] := by first | (simp [entryFrame, mkF, argsToLocals, Value.category]; done) | rfl
def Q_u16chat_1_0 (Z : State) (tA : Addr) (kA : ClassId) (y0 : Int32) (y1 : Int32) (fm : Value) (h0 : Heap) (n0 : Nat) (v : Option Value) (h : Heap) (L : List Loc) : Prop := v = some (.int (own_u16 y0 y1)) ∧ Fr n0 L ∧ h = h0
theorem rm_u16chat_1_0 (l : Launch) (Z : State) (a0 : Array Value) (hw : HW a0 Z) (ws : List Jvm.Cond) (tA : Addr) (kA : ClassId) (y0 : Int32) (y1 : Int32) (fm : Value) (h0 : Heap) (n0 : Nat) (Z0 : n0 ≤ h0.size) (O0 : Old Z n0 h0) (R_A : Arv Z h0 tA kA .byte (2 : Int32) [(.int y0), (.int y1)] (.int 0)) (S_SF : sk4 Z Z.heap fm) (P_SF : fm.isRef = true) (S_AD : sk1 Z Z.heap (.int 1)) (S_HI : sk2 Z Z.heap (.int 0)) (S_LO : sk3 Z Z.heap (.int 8)) :
    M38 l ws (rmk 3 0 0 40) Z #[(.ref tA), (.int 0)] h0 (Q_u16chat_1_0 Z tA kA y0 y1 fm h0 n0) := by
  refine own_go "java/lang/StringUTF16" rfl (plainFor_of_name pn_39) (fun m => ef_u16chat_1_0 m tA) (fun p e s m below meth c s₁ hx hby hml hown hnm hlk hret hZ X0 e0 => ?_)
  have N0 := Fr.nil n0
  show gs s₁ m 0 #[vr tA, vi 0] []
  refine oiloadN X0 hx hby d39_0 rfl ?_
  refine oaloadN X0 hx hby d39_1 rfl rfl ?_
  refine oS 0 X0 hx hZ hby hml hown (own_w hw 193 rfl) (own_w hw 194 rfl) (own_w hw 166 rfl) (own_w hw 195 rfl) (rm_uchk_0_1 l Z a0 hw [] tA kA y0 y1 fm h0 n0 Z0 O0 R_A S_SF P_SF) e0 (by decide) own_pd4 d39_2 rfl rfl rfl (fun T1 L1 v1 X1 hQ1 => ?_)
  obtain ⟨rfl, Nq1, eq1⟩ := hQ1
  have N1 := Fr.app N0 Nq1
  show gs T1 m 5 #[vr tA, vi 0] []
  refine oaloadN X1 hx hby d39_5 rfl rfl ?_
  refine oiloadN X1 hx hby d39_6 rfl ?_
  refine oS 0 X1 hx hZ hby hml hown (own_w hw 208 rfl) (own_w hw 209 rfl) (own_w hw 166 rfl) (own_w hw 210 rfl) (rm_getc_1_0 l Z a0 hw [] tA kA y0 y1 h0 n0 Z0 O0 R_A S_AD S_HI S_LO) eq1 (by decide) own_pd25 d39_7 rfl rfl rfl (fun T2 L2 v2 X2 hQ2 => ?_)
  obtain ⟨rfl, Nq2, eq2⟩ := hQ2
  have N2 := Fr.app N1 Nq2
  show gs T2 m 10 #[vr tA, vi 0] [(.int (own_u16 y0 y1))]
  exact own_retN X2 hx hlk (t := .char) hret (by simp) (hb hby d39_10) (by decide) (by decide) (v' := (own_u16 y0 y1)) (own_nu16 _ _) (by rw [eq2]; exact ⟨rfl, N2, rfl⟩)
theorem ef_sLat_1 (m : MethodId) (x0 : Addr) : entryFrame m #[(.ref x0)] 1 = mkF m 0 #[.val (.ref x0)] [] := by first | (simp [entryFrame, mkF, argsToLocals, Value.category]; done) | rfl
def Q_sLat_1 (Z : State) (aS : Addr) (zCS : Int32) (h0 : Heap) (n0 : Nat) (v : Option Value) (h : Heap) (L : List Loc) : Prop := v = some (.int 0) ∧ Fr n0 L ∧ h = h0
theorem rm_sLat_1 (l : Launch) (Z : State) (a0 : Array Value) (hw : HW a0 Z) (ws : List Jvm.Cond) (aS : Addr) (zCS : Int32) (h0 : Heap) (n0 : Nat) (Z0 : n0 ≤ h0.size) (O0 : Old Z n0 h0) (S_CS : sk0 Z Z.heap (.int zCS)) (P_CS : ¬ zCS = 0) (F0c : fk15 Z h0 aS (.int 1)) :
    M35 l ws (rmk 0 0 0 0) Z #[(.ref aS)] h0 (Q_sLat_1 Z aS zCS h0 n0) := by
  refine own_go "java/lang/String" rfl (plainFor_of_name pn_22) (fun m => ef_sLat_1 m aS) (fun p e s m below meth c s₁ hx hby hml hown hnm hlk hret hZ X0 e0 => ?_)
  have N0 := Fr.nil n0
  show gs s₁ m 0 #[vr aS] []
  obtain ⟨T1, X1, e1, st1⟩ := getS2 X0 hx hZ hown (host := "") (Or.inl (own_w hw 100 rfl)) Via.refl e0 (Sta.ext O0.2 S_CS) (g := (mkF m 0 #[vr aS] [])) rfl (hb hby d22_0)
  refine own_st st1 ?_
  show gs T1 m 3 #[vr aS] [(.int zCS)]
  refine own_st (fun _ kS => XS.ifNo X1.here hx rfl (hb hby d22_3) rfl ((if0 _ _).trans (feq (P_CS : ¬ (zCS = (0 : Int32)))).1) kS) ?_
  show gs T1 m 6 #[vr aS] []
  refine oaloadN X1 hx hby d22_6 rfl rfl ?_
  obtain ⟨T2, X2, e2, st2⟩ := getF X1 hx hZ hown (host := "") (Or.inl (own_w hw 73 rfl)) Via.refl e1 F0c (g := (mkF m 7 #[vr aS] [(.ref aS)])) rfl rfl (hb hby d22_7)
  refine own_st st2 ?_
  show gs T2 m 10 #[vr aS] [(.int 1)]
  refine own_st (fun _ kS => XS.ifYes X2.here hx rfl (pc0 := 10) (pc' := 17) rfl (hb hby d22_10) rfl ((if0 _ _).trans (feq (by decide : ¬ ((1 : Int32) = (0 : Int32)))).2) (by decide) (by decide) kS) ?_
  show gs T2 m 17 #[vr aS] []
  refine oiconst X2 hx hby d22_17 ?_
  exact own_retN X2 hx hlk (t := .boolean) hret (by simp) (hb hby d22_18) (by decide) (by decide) (v' := (0 : Int32)) rfl (by rw [e2]; exact ⟨rfl, N0, rfl⟩)
theorem ef_chAt_1_1_0 (m : MethodId) (x0 : Addr) : entryFrame m #[(.ref x0), (.int 0)] 2 = mkF m 0 #[.val (.ref x0), .val (.int 0)] [] := by first | (simp [entryFrame, mkF, argsToLocals, Value.category]; done) | rfl
def Q_chAt_1_1_0 (Z : State) (aS : Addr) (tA : Addr) (kA : ClassId) (y0 : Int32) (y1 : Int32) (zCS : Int32) (fm : Value) (h0 : Heap) (n0 : Nat) (v : Option Value) (h : Heap) (L : List Loc) : Prop := v = some (.int (own_u16 y0 y1)) ∧ Fr n0 L ∧ h = h0
theorem rm_chAt_1_1_0 (l : Launch) (Z : State) (a0 : Array Value) (hw : HW a0 Z) (ws : List Jvm.Cond) (aS : Addr) (tA : Addr) (kA : ClassId) (y0 : Int32) (y1 : Int32) (zCS : Int32) (fm : Value) (h0 : Heap) (n0 : Nat) (Z0 : n0 ≤ h0.size) (O0 : Old Z n0 h0) (E_0 : ek21 Z h0 aS) (F0v : fk16 Z h0 aS (.ref tA)) (F0c : fk15 Z h0 aS (.int 1)) (R_A : Arv Z h0 tA kA .byte (2 : Int32) [(.int y0), (.int y1)] (.int 0)) (S_CS : sk0 Z Z.heap (.int zCS)) (P_CS : ¬ zCS = 0) (S_SF : sk4 Z Z.heap fm) (P_SF : fm.isRef = true) (S_AD : sk1 Z Z.heap (.int 1)) (S_HI : sk2 Z Z.heap (.int 0)) (S_LO : sk3 Z Z.heap (.int 8)) :
    M36 l ws (rmk 4 0 0 53) Z #[(.ref aS), (.int 0)] h0 (Q_chAt_1_1_0 Z aS tA kA y0 y1 zCS fm h0 n0) := by
  refine own_go "java/lang/String" rfl (plainFor_of_name pn_21) (fun m => ef_chAt_1_1_0 m aS) (fun p e s m below meth c s₁ hx hby hml hown hnm hlk hret hZ X0 e0 => ?_)
  have N0 := Fr.nil n0
  show gs s₁ m 0 #[vr aS, vi 0] []
  refine oaloadN X0 hx hby d21_0 rfl rfl ?_
  refine oV 0 X0 hx hZ hby hml hown (own_w hw 137 rfl) (own_w hw 138 rfl) (own_w hw 140 rfl) (own_w hw 139 rfl) (rm_sLat_1 l Z a0 hw [] aS zCS h0 n0 Z0 O0 S_CS P_CS F0c) (own_w hw 141 rfl) (own_w hw 32 rfl) e0 E_0 (by decide) own_pd11 d21_1 rfl rfl rfl (fun T1 L1 v1 X1 hQ1 => ?_)
  obtain ⟨rfl, Nq1, eq1⟩ := hQ1
  have N1 := Fr.app N0 Nq1
  show gs T1 m 4 #[vr aS, vi 0] [(.int 0)]
  refine own_st (fun _ kS => XS.ifYes X1.here hx rfl (pc0 := 4) (pc' := 16) rfl (hb hby d21_4) rfl ((if0 _ _).trans (teq (by decide : (0 : Int32) = (0 : Int32))).1) (by decide) (by decide) kS) ?_
  show gs T1 m 16 #[vr aS, vi 0] []
  refine oaloadN X1 hx hby d21_16 rfl rfl ?_
  obtain ⟨T2, X2, e2, st2⟩ := getF X1 hx hZ hown (host := "") (Or.inl (own_w hw 88 rfl)) Via.refl eq1 F0v (g := (mkF m 17 #[vr aS, vi 0] [(.ref aS)])) rfl rfl (hb hby d21_17)
  refine own_st st2 ?_
  show gs T2 m 20 #[vr aS, vi 0] [(.ref tA)]
  refine oiloadN X2 hx hby d21_20 rfl ?_
  refine oS 0 X2 hx hZ hby hml hown (own_w hw 205 rfl) (own_w hw 206 rfl) (own_w hw 166 rfl) (own_w hw 207 rfl) (rm_u16chat_1_0 l Z a0 hw [] tA kA y0 y1 fm h0 n0 Z0 O0 R_A S_SF P_SF S_AD S_HI S_LO) e2 (by decide) own_pd25 d21_21 rfl rfl rfl (fun T3 L3 v3 X3 hQ3 => ?_)
  obtain ⟨rfl, Nq3, eq3⟩ := hQ3
  have N3 := Fr.app N1 Nq3
  show gs T3 m 24 #[vr aS, vi 0] [(.int (own_u16 y0 y1))]
  exact own_retN X3 hx hlk (t := .char) hret (by simp) (hb hby d21_24) (by decide) (by decide) (v' := (own_u16 y0 y1)) (own_nu16 _ _) (by rw [eq3]; exact ⟨rfl, N3, rfl⟩)
theorem ef_dec_2_LL (m : MethodId) (x0 : Addr) (x1 : Addr) (x2 : Int32) (x3 : Int32) : entryFrame m #[(.ref x0), (.ref x1), (.int x2), (.int x3)] 7 = mkF m 0 #[.val (.ref x0), .val (.ref x1), .val (.int x2), .val (.int x3), .unset, .unset, .unset] [] := by first | (simp [entryFrame, mkF, argsToLocals, Value.category]; done) | rfl
def Q_dec_2_LL (Z : State) (a1 : Addr) (a2 : Addr) (cB : Cell) (at1 : Int32) (t1 : Int32) (w : Int32) (le : Int32) (u0 : Int32) (u1 : Int32) (zCS : Int32) (fm : Value) (h0 : Heap) (n0 : Nat) (v : Option Value) (h : Heap) (L : List Loc) : Prop := ∃ bS : Addr, ∃ tN : Addr, ∃ kN : ClassId, v = some (.ref bS) ∧ Fr n0 L ∧ Keep h0 h [] ∧ ek21 Z h bS ∧ fk15 Z h bS (.int 0) ∧ fk16 Z h bS (.ref tN) ∧ Arv Z h tN kN .byte (2 : Int32) [(.int (nar .byte ((own_chr u0).toInt8.toInt32))), (.int (nar .byte ((own_chr u1).toInt8.toInt32)))] (.int 0)
theorem rm_dec_2_LL (l : Launch) (Z : State) (a0 : Array Value) (hw : HW a0 Z) (ws : List Jvm.Cond) (a1 : Addr) (a2 : Addr) (cB : Cell) (at1 : Int32) (t1 : Int32) (w : Int32) (le : Int32) (u0 : Int32) (u1 : Int32) (zCS : Int32) (fm : Value) (h0 : Heap) (n0 : Nat) (Z0 : n0 ≤ h0.size) (O0 : Old Z n0 h0) (E_e : ek22 Z Z.heap a1) (Fw : fk17 Z Z.heap a1 (.int w)) (Fl : fk18 Z Z.heap a1 (.int le)) (Tb : Tab Z h0 a2 cB .byte (8 : Int32)) (hr : own_rg (2 : Int32) w at1 t1) (hwl0 : own_wl w le cB at1 u0) (hwl1 : own_wl w le cB (at1 + w) u1) (hC0 : ¬ ((255 : Int32) < (own_chr u0))) (hC1 : ¬ ((255 : Int32) < (own_chr u1))) (S_CS : sk0 Z Z.heap (.int zCS)) (P_CS : ¬ zCS = 0) (S_SF : sk4 Z Z.heap fm) (P_SF : fm.isRef = true) (S_AD : sk1 Z Z.heap (.int 1)) (S_HI : sk2 Z Z.heap (.int 0)) (S_LO : sk3 Z Z.heap (.int 8)) :
    M31 l ws (rmk 5 4 12 71) Z #[(.ref a1), (.ref a2), (.int at1), (.int t1)] h0 (Q_dec_2_LL Z a1 a2 cB at1 t1 w le u0 u1 zCS fm h0 n0) := by
  refine own_go "com/example/provenir/provenir/TextEncoding" rfl (plainFor_of_name pn_2) (fun m => ef_dec_2_LL m a1 a2 at1 t1) (fun p e s m below meth c s₁ hx hby hml hown hnm hlk hret hZ X0 e0 => ?_)
  have N0 := Fr.nil n0
  have K0 := Keep.refl h0 []
  show gs s₁ m 0 #[vr a1, vr a2, vi at1, vi t1, .unset, .unset, .unset] []
  obtain ⟨T1, h1, X1, e1, E1, A1, D1, -, st1⟩ := newO X0 hx hZ hown (own_w hw 14 rfl) (own_w hw 15 rfl) (own_w hw 16 rfl) e0 (g := (mkF m 0 #[vr a1, vr a2, vi at1, vi t1, .unset, .unset, .unset] [])) rfl (hb hby d2_0) (by decide) (by decide)
  obtain ⟨b1, g1⟩ : ∃ z, z = h0.size := ⟨_, rfl⟩
  have ne_a2_b1 : a2 ≠ b1 := Nat.ne_of_lt (Nat.lt_of_lt_of_eq Tb.lt g1.symm)
  have ge_b1 : n0 ≤ b1 := Nat.le_trans Z0 (Nat.le_of_eq g1.symm)
  have sz_b1 : h0.size ≤ b1 := Nat.le_trans K0.1 (Nat.le_of_eq g1.symm)
  rw [← g1] at A1 D1 st1
  have K1 := K0.ext E1
  have O1 := O0.ext E1
  have F1_value : fk11 Z h1 b1 .null := D1 (Or.inl (own_w hw 34 rfl)) (ty := (.array .byte)) (by decide)
  have F1_coder : fk12 Z h1 b1 (.int 0) := D1 (Or.inl (own_w hw 36 rfl)) (ty := .byte) (by decide)
  have F1_count : fk13 Z h1 b1 (.int 0) := D1 (Or.inl (own_w hw 67 rfl)) (ty := .int) (by decide)
  have F1_maybeLatin1 : fk14 Z h1 b1 (.int 0) := D1 (Or.inl (own_w hw 204 rfl)) (ty := .boolean) (by decide)
  refine own_st st1 ?_
  show gs T1 m 3 #[vr a1, vr a2, vi at1, vi t1, .unset, .unset, .unset] [(.ref b1)]
  refine own_st (fun _ kS => XS.dup X1.here hx rfl (hb hby d2_3) rfl rfl kS) ?_
  refine oiloadN X1 hx hby d2_4 rfl ?_
  refine oiloadN X1 hx hby d2_5 rfl ?_
  refine own_st (fun _ kS => XS.isub X1.here hx rfl (hb hby d2_6) rfl kS) ?_
  refine oaloadN X1 hx hby d2_7 rfl rfl ?_
  obtain ⟨T2, X2, e2, st2⟩ := getF X1 hx hZ hown (host := "") (Or.inl (own_w hw 17 rfl)) Via.refl e1 (Fld.ext O1.2 Fw) (g := (mkF m 8 #[vr a1, vr a2, vi at1, vi t1, .unset, .unset, .unset] [(.ref a1), (.int (t1 - at1)), (.ref b1), (.ref b1)])) rfl rfl (hb hby d2_8)
  refine own_st st2 ?_
  show gs T2 m 11 #[vr a1, vr a2, vi at1, vi t1, .unset, .unset, .unset] [(.int w), (.int (t1 - at1)), (.ref b1), (.ref b1)]
  refine own_st (fun _ kS => XS.idiv X2.here hx rfl (hb hby d2_11) rfl (own_wne hr) kS) ?_
  show gs T2 m 12 #[vr a1, vr a2, vi at1, vi t1, .unset, .unset, .unset] [(.int ((t1 - at1) / w)), (.ref b1), (.ref b1)]
  rw [own_div hr (by decide)]
  show gs T2 m 12 #[vr a1, vr a2, vi at1, vi t1, .unset, .unset, .unset] [(.int 2), (.ref b1), (.ref b1)]
  refine oN 1 X2 hx hZ hby hml hown (own_w hw 19 rfl) (own_w hw 20 rfl) (own_w hw 16 rfl) (own_w hw 21 rfl) (rm_sbInit_2 l Z a0 hw [] b1 zCS h1 n0 (Nat.le_trans Z0 E1.1) O1 A1 ge_b1 F1_value F1_coder F1_count F1_maybeLatin1 S_CS P_CS) e2 rfl (by decide) own_pd0 d2_12 rfl rfl rfl (fun T3 L3 v3 X3 hQ3 => ?_)
  obtain ⟨tN_3, kN_3, rfl, Nq3, Kc3, P3_0, P3_1, P3_2, P3_3, P3_4, P3_5, P3_6, P3_7⟩ := hQ3
  have N3 := Fr.app N0 Nq3
  have ne_a2_tN_3 : a2 ≠ tN_3 := Nat.ne_of_lt (Nat.lt_of_lt_of_le (Tab.ext Tb E1).lt P3_0)
  have ne_b1_tN_3 : b1 ≠ tN_3 := Nat.ne_of_lt (Nat.lt_of_lt_of_le A1.lt P3_0)
  have ge_tN_3 : n0 ≤ tN_3 := Nat.le_trans (Nat.le_trans Z0 E1.1) P3_0
  have sz_tN_3 : h0.size ≤ tN_3 := Nat.le_trans K1.1 P3_0
  have K3 := K1.trans Kc3 (allS (Or.inr sz_b1) all0)
  have O3 := O1.keep Kc3 (allS ge_b1 all0)
  show gs T3 m 15 #[vr a1, vr a2, vi at1, vi t1, .unset, .unset, .unset] [(.ref b1)]
  refine own_st (fun _ kS => XS.astore X3.here hx rfl (hb hby d2_15) rfl rfl (l' := #[vr a1, vr a2, vi at1, vi t1, vr b1, .unset, .unset]) rfl kS) ?_
  refine oiloadN X3 hx hby d2_17 rfl ?_
  refine own_st (fun _ kS => XS.istore X3.here hx rfl (hb hby d2_18) rfl (l' := #[vr a1, vr a2, vi at1, vi t1, vr b1, vi at1, .unset]) rfl kS) ?_
  refine oiload X3 hx hby d2_20 rfl ?_
  refine oiloadN X3 hx hby d2_22 rfl ?_
  refine own_st (fun _ kS => XS.icmpNo X3.here hx rfl (hb hby d2_23) rfl (tlt (own_l2 hr : at1 < t1)).2.1 kS) ?_
  show gs T3 m 26 #[vr a1, vr a2, vi at1, vi t1, vr b1, vi at1, .unset] []
  refine oaloadN X3 hx hby d2_26 rfl rfl ?_
  refine oaloadN X3 hx hby d2_27 rfl rfl ?_
  refine oiload X3 hx hby d2_28 rfl ?_
  refine oV 0 X3 hx hZ hby hml hown (own_w hw 107 rfl) (own_w hw 108 rfl) (own_w hw 110 rfl) (own_w hw 109 rfl) (rm_unitAt l Z a0 hw [] a1 a2 cB at1 w le u0 T3.heap n0 (Nat.le_trans (Nat.le_trans Z0 E1.1) Kc3.1) O3 Fw Fl (own_tabk (Tab.ext Tb E1) Kc3 (ninS ne_a2_b1 nin0)) (own_g2 hr) hwl0) (own_w hw 111 rfl) (own_w hw 6 rfl) rfl (Exa.ext O3.2 E_e) (by decide) own_pd23 d2_30 rfl rfl rfl (fun T4 L4 v4 X4 hQ4 => ?_)
  obtain ⟨rfl, Nq4, eq4⟩ := hQ4
  have N4 := Fr.app N3 Nq4
  show gs T4 m 33 #[vr a1, vr a2, vi at1, vi t1, vr b1, vi at1, .unset] [(.int u0)]
  refine own_st (fun _ kS => XS.istore X4.here hx rfl (hb hby d2_33) rfl (l' := #[vr a1, vr a2, vi at1, vi t1, vr b1, vi at1, vi u0]) rfl kS) ?_
  refine oaload X4 hx hby d2_35 rfl rfl ?_
  show gs T4 m 37 #[vr a1, vr a2, vi at1, vi t1, vr b1, vi at1, vi u0] [(.ref b1)]
  suffices hJ5 : own_G p.tables e below _ (T4.setTop (mkF m 57 #[vr a1, vr a2, vi at1, vi t1, vr b1, vi at1, vi u0] [(.int (own_chr u0)), (.ref b1)])) by
    by_cases hu5 : u0 < (0 : Int32)
    · skip
      refine oiload X4 hx hby d2_37 rfl ?_
      refine own_st (fun _ kS => XS.ifYes X4.here hx rfl (pc0 := 39) (pc' := 55) rfl (hb hby d2_39) rfl ((if0 _ _).trans (tlt (hu5 : u0 < (0 : Int32))).1) (by decide) (by decide) kS) ?_
      show gs T4 m 55 #[vr a1, vr a2, vi at1, vi t1, vr b1, vi at1, vi u0] [(.ref b1)]
      refine own_st (fun _ kS => X4.ldcInt hx hown (mvT hZ (own_w hw 158 rfl)) (g := (mkF m 55 #[vr a1, vr a2, vi at1, vi t1, vr b1, vi at1, vi u0] [(.ref b1)])) rfl (hb hby d2_55) _ kS) ?_
      show gs T4 m 57 #[vr a1, vr a2, vi at1, vi t1, vr b1, vi at1, vi u0] [(.int 65533), (.ref b1)]
      rw [own_chr, if_pos hu5] at hJ5
      exact hJ5
    · skip
      by_cases hv5 : (65535 : Int32) < u0
      · skip
        refine oiload X4 hx hby d2_37 rfl ?_
        refine own_st (fun _ kS => XS.ifNo X4.here hx rfl (hb hby d2_39) rfl ((if0 _ _).trans (flt (hu5 : ¬ (u0 < (0 : Int32)))).1) kS) ?_
        show gs T4 m 42 #[vr a1, vr a2, vi at1, vi t1, vr b1, vi at1, vi u0] [(.ref b1)]
        refine oiload X4 hx hby d2_42 rfl ?_
        show gs T4 m 44 #[vr a1, vr a2, vi at1, vi t1, vr b1, vi at1, vi u0] [(.int u0), (.ref b1)]
        refine own_st (fun _ kS => X4.ldcInt hx hown (mvT hZ (own_w hw 112 rfl)) (g := (mkF m 44 #[vr a1, vr a2, vi at1, vi t1, vr b1, vi at1, vi u0] [(.int u0), (.ref b1)])) rfl (hb hby d2_44) _ kS) ?_
        show gs T4 m 46 #[vr a1, vr a2, vi at1, vi t1, vr b1, vi at1, vi u0] [(.int 65535), (.int u0), (.ref b1)]
        refine own_st (fun _ kS => XS.icmpYes X4.here hx rfl (pc0 := 46) (pc' := 55) rfl (hb hby d2_46) rfl (tlt (hv5 : (65535 : Int32) < u0)).2.2.1 (by decide) (by decide) kS) ?_
        show gs T4 m 55 #[vr a1, vr a2, vi at1, vi t1, vr b1, vi at1, vi u0] [(.ref b1)]
        refine own_st (fun _ kS => X4.ldcInt hx hown (mvT hZ (own_w hw 158 rfl)) (g := (mkF m 55 #[vr a1, vr a2, vi at1, vi t1, vr b1, vi at1, vi u0] [(.ref b1)])) rfl (hb hby d2_55) _ kS) ?_
        show gs T4 m 57 #[vr a1, vr a2, vi at1, vi t1, vr b1, vi at1, vi u0] [(.int 65533), (.ref b1)]
        rw [own_chr, if_neg hu5, if_pos hv5] at hJ5
        exact hJ5
      · skip
        refine oiload X4 hx hby d2_37 rfl ?_
        refine own_st (fun _ kS => XS.ifNo X4.here hx rfl (hb hby d2_39) rfl ((if0 _ _).trans (flt (hu5 : ¬ (u0 < (0 : Int32)))).1) kS) ?_
        show gs T4 m 42 #[vr a1, vr a2, vi at1, vi t1, vr b1, vi at1, vi u0] [(.ref b1)]
        refine oiload X4 hx hby d2_42 rfl ?_
        show gs T4 m 44 #[vr a1, vr a2, vi at1, vi t1, vr b1, vi at1, vi u0] [(.int u0), (.ref b1)]
        refine own_st (fun _ kS => X4.ldcInt hx hown (mvT hZ (own_w hw 112 rfl)) (g := (mkF m 44 #[vr a1, vr a2, vi at1, vi t1, vr b1, vi at1, vi u0] [(.int u0), (.ref b1)])) rfl (hb hby d2_44) _ kS) ?_
        show gs T4 m 46 #[vr a1, vr a2, vi at1, vi t1, vr b1, vi at1, vi u0] [(.int 65535), (.int u0), (.ref b1)]
        refine own_st (fun _ kS => XS.icmpNo X4.here hx rfl (hb hby d2_46) rfl (flt (hv5 : ¬ ((65535 : Int32) < u0))).2.2.1 kS) ?_
        show gs T4 m 49 #[vr a1, vr a2, vi at1, vi t1, vr b1, vi at1, vi u0] [(.ref b1)]
        refine oiload X4 hx hby d2_49 rfl ?_
        refine own_st (fun _ kS => XT.i2c X4.here hx rfl (hb hby d2_51) rfl kS) ?_
        refine own_st (fun _ kS => XS.goto X4.here hx rfl (pc0 := 52) (pc' := 57) rfl (hb hby d2_52) (by decide) (by decide) kS) ?_
        show gs T4 m 57 #[vr a1, vr a2, vi at1, vi t1, vr b1, vi at1, vi u0] [(.int (u0.toUInt32.toUInt16.toUInt32.toInt32)), (.ref b1)]
        rw [own_chr, if_neg hu5, if_neg hv5] at hJ5
        exact hJ5
  show gs T4 m 57 #[vr a1, vr a2, vi at1, vi t1, vr b1, vi at1, vi u0] [(.int (own_chr u0)), (.ref b1)]
  refine oV 0 X4 hx hZ hby hml hown (own_w hw 113 rfl) (own_w hw 114 rfl) (own_w hw 116 rfl) (own_w hw 115 rfl) (rm_sbApp_2_0_0_L l Z a0 hw [] b1 tN_3 kN_3 (own_chr u0) (0 : Int32) (0 : Int32) zCS fm T3.heap n0 (Nat.le_trans (Nat.le_trans Z0 E1.1) Kc3.1) O3 P3_2 ge_b1 P3_3 P3_4 P3_5 P3_6 ne_b1_tN_3 P3_7 ge_tN_3 S_CS P_CS S_SF P_SF S_AD S_HI S_LO hC0) (own_w hw 117 rfl) (own_w hw 16 rfl) eq4 P3_2 (by decide) own_pd24 d2_57 rfl rfl rfl (fun T6 L6 v6 X6 hQ6 => ?_)
  obtain ⟨rfl, Nq6, Kc6, P6_0, P6_1, P6_2, P6_3, P6_4, P6_5⟩ := hQ6
  have N6 := Fr.app N4 Nq6
  have K6 := K3.trans Kc6 (allS (Or.inr sz_b1) (allS (Or.inr sz_tN_3) all0))
  have O6 := O3.keep Kc6 (allS ge_b1 (allS ge_tN_3 all0))
  show gs T6 m 60 #[vr a1, vr a2, vi at1, vi t1, vr b1, vi at1, vi u0] [(.ref b1)]
  refine own_st (fun _ kS => XT.pop X6.here hx rfl (hb hby d2_60) rfl rfl kS) ?_
  refine oiload X6 hx hby d2_61 rfl ?_
  refine oaloadN X6 hx hby d2_63 rfl rfl ?_
  obtain ⟨T7, X7, e7, st7⟩ := getF X6 hx hZ hown (host := "") (Or.inl (own_w hw 17 rfl)) Via.refl rfl (Fld.ext O6.2 Fw) (g := (mkF m 64 #[vr a1, vr a2, vi at1, vi t1, vr b1, vi at1, vi u0] [(.ref a1), (.int at1)])) rfl rfl (hb hby d2_64)
  refine own_st st7 ?_
  show gs T7 m 67 #[vr a1, vr a2, vi at1, vi t1, vr b1, vi at1, vi u0] [(.int w), (.int at1)]
  refine own_st (fun _ kS => XS.iadd X7.here hx rfl (hb hby d2_67) rfl kS) ?_
  refine own_st (fun _ kS => XS.istore X7.here hx rfl (hb hby d2_68) rfl (l' := #[vr a1, vr a2, vi at1, vi t1, vr b1, vi (at1 + w), vi u0]) rfl kS) ?_
  refine own_st (fun _ kS => XS.goto X7.here hx rfl (pc0 := 70) (pc' := 20) rfl (hb hby d2_70) (by decide) (by decide) kS) ?_
  refine oiload X7 hx hby d2_20 rfl ?_
  refine oiloadN X7 hx hby d2_22 rfl ?_
  refine own_st (fun _ kS => XS.icmpNo X7.here hx rfl (hb hby d2_23) rfl (tlt (own_m2 hr : (at1 + w) < t1)).2.1 kS) ?_
  show gs T7 m 26 #[vr a1, vr a2, vi at1, vi t1, vr b1, vi (at1 + w), vi u0] []
  refine oaloadN X7 hx hby d2_26 rfl rfl ?_
  refine oaloadN X7 hx hby d2_27 rfl rfl ?_
  refine oiload X7 hx hby d2_28 rfl ?_
  refine oV 0 X7 hx hZ hby hml hown (own_w hw 107 rfl) (own_w hw 108 rfl) (own_w hw 110 rfl) (own_w hw 109 rfl) (rm_unitAt l Z a0 hw [] a1 a2 cB (at1 + w) w le u1 T6.heap n0 (Nat.le_trans (Nat.le_trans (Nat.le_trans Z0 E1.1) Kc3.1) Kc6.1) O6 Fw Fl (own_tabk (own_tabk (Tab.ext Tb E1) Kc3 (ninS ne_a2_b1 nin0)) Kc6 (ninS ne_a2_b1 (ninS ne_a2_tN_3 nin0))) (own_g3 hr) hwl1) (own_w hw 111 rfl) (own_w hw 6 rfl) e7 (Exa.ext O6.2 E_e) (by decide) own_pd23 d2_30 rfl rfl rfl (fun T8 L8 v8 X8 hQ8 => ?_)
  obtain ⟨rfl, Nq8, eq8⟩ := hQ8
  have N8 := Fr.app N6 Nq8
  show gs T8 m 33 #[vr a1, vr a2, vi at1, vi t1, vr b1, vi (at1 + w), vi u0] [(.int u1)]
  refine own_st (fun _ kS => XS.istore X8.here hx rfl (hb hby d2_33) rfl (l' := #[vr a1, vr a2, vi at1, vi t1, vr b1, vi (at1 + w), vi u1]) rfl kS) ?_
  refine oaload X8 hx hby d2_35 rfl rfl ?_
  show gs T8 m 37 #[vr a1, vr a2, vi at1, vi t1, vr b1, vi (at1 + w), vi u1] [(.ref b1)]
  suffices hJ9 : own_G p.tables e below _ (T8.setTop (mkF m 57 #[vr a1, vr a2, vi at1, vi t1, vr b1, vi (at1 + w), vi u1] [(.int (own_chr u1)), (.ref b1)])) by
    by_cases hu9 : u1 < (0 : Int32)
    · skip
      refine oiload X8 hx hby d2_37 rfl ?_
      refine own_st (fun _ kS => XS.ifYes X8.here hx rfl (pc0 := 39) (pc' := 55) rfl (hb hby d2_39) rfl ((if0 _ _).trans (tlt (hu9 : u1 < (0 : Int32))).1) (by decide) (by decide) kS) ?_
      show gs T8 m 55 #[vr a1, vr a2, vi at1, vi t1, vr b1, vi (at1 + w), vi u1] [(.ref b1)]
      refine own_st (fun _ kS => X8.ldcInt hx hown (mvT hZ (own_w hw 158 rfl)) (g := (mkF m 55 #[vr a1, vr a2, vi at1, vi t1, vr b1, vi (at1 + w), vi u1] [(.ref b1)])) rfl (hb hby d2_55) _ kS) ?_
      show gs T8 m 57 #[vr a1, vr a2, vi at1, vi t1, vr b1, vi (at1 + w), vi u1] [(.int 65533), (.ref b1)]
      rw [own_chr, if_pos hu9] at hJ9
      exact hJ9
    · skip
      by_cases hv9 : (65535 : Int32) < u1
      · skip
        refine oiload X8 hx hby d2_37 rfl ?_
        refine own_st (fun _ kS => XS.ifNo X8.here hx rfl (hb hby d2_39) rfl ((if0 _ _).trans (flt (hu9 : ¬ (u1 < (0 : Int32)))).1) kS) ?_
        show gs T8 m 42 #[vr a1, vr a2, vi at1, vi t1, vr b1, vi (at1 + w), vi u1] [(.ref b1)]
        refine oiload X8 hx hby d2_42 rfl ?_
        show gs T8 m 44 #[vr a1, vr a2, vi at1, vi t1, vr b1, vi (at1 + w), vi u1] [(.int u1), (.ref b1)]
        refine own_st (fun _ kS => X8.ldcInt hx hown (mvT hZ (own_w hw 112 rfl)) (g := (mkF m 44 #[vr a1, vr a2, vi at1, vi t1, vr b1, vi (at1 + w), vi u1] [(.int u1), (.ref b1)])) rfl (hb hby d2_44) _ kS) ?_
        show gs T8 m 46 #[vr a1, vr a2, vi at1, vi t1, vr b1, vi (at1 + w), vi u1] [(.int 65535), (.int u1), (.ref b1)]
        refine own_st (fun _ kS => XS.icmpYes X8.here hx rfl (pc0 := 46) (pc' := 55) rfl (hb hby d2_46) rfl (tlt (hv9 : (65535 : Int32) < u1)).2.2.1 (by decide) (by decide) kS) ?_
        show gs T8 m 55 #[vr a1, vr a2, vi at1, vi t1, vr b1, vi (at1 + w), vi u1] [(.ref b1)]
        refine own_st (fun _ kS => X8.ldcInt hx hown (mvT hZ (own_w hw 158 rfl)) (g := (mkF m 55 #[vr a1, vr a2, vi at1, vi t1, vr b1, vi (at1 + w), vi u1] [(.ref b1)])) rfl (hb hby d2_55) _ kS) ?_
        show gs T8 m 57 #[vr a1, vr a2, vi at1, vi t1, vr b1, vi (at1 + w), vi u1] [(.int 65533), (.ref b1)]
        rw [own_chr, if_neg hu9, if_pos hv9] at hJ9
        exact hJ9
      · skip
        refine oiload X8 hx hby d2_37 rfl ?_
        refine own_st (fun _ kS => XS.ifNo X8.here hx rfl (hb hby d2_39) rfl ((if0 _ _).trans (flt (hu9 : ¬ (u1 < (0 : Int32)))).1) kS) ?_
        show gs T8 m 42 #[vr a1, vr a2, vi at1, vi t1, vr b1, vi (at1 + w), vi u1] [(.ref b1)]
        refine oiload X8 hx hby d2_42 rfl ?_
        show gs T8 m 44 #[vr a1, vr a2, vi at1, vi t1, vr b1, vi (at1 + w), vi u1] [(.int u1), (.ref b1)]
        refine own_st (fun _ kS => X8.ldcInt hx hown (mvT hZ (own_w hw 112 rfl)) (g := (mkF m 44 #[vr a1, vr a2, vi at1, vi t1, vr b1, vi (at1 + w), vi u1] [(.int u1), (.ref b1)])) rfl (hb hby d2_44) _ kS) ?_
        show gs T8 m 46 #[vr a1, vr a2, vi at1, vi t1, vr b1, vi (at1 + w), vi u1] [(.int 65535), (.int u1), (.ref b1)]
        refine own_st (fun _ kS => XS.icmpNo X8.here hx rfl (hb hby d2_46) rfl (flt (hv9 : ¬ ((65535 : Int32) < u1))).2.2.1 kS) ?_
        show gs T8 m 49 #[vr a1, vr a2, vi at1, vi t1, vr b1, vi (at1 + w), vi u1] [(.ref b1)]
        refine oiload X8 hx hby d2_49 rfl ?_
        refine own_st (fun _ kS => XT.i2c X8.here hx rfl (hb hby d2_51) rfl kS) ?_
        refine own_st (fun _ kS => XS.goto X8.here hx rfl (pc0 := 52) (pc' := 57) rfl (hb hby d2_52) (by decide) (by decide) kS) ?_
        show gs T8 m 57 #[vr a1, vr a2, vi at1, vi t1, vr b1, vi (at1 + w), vi u1] [(.int (u1.toUInt32.toUInt16.toUInt32.toInt32)), (.ref b1)]
        rw [own_chr, if_neg hu9, if_neg hv9] at hJ9
        exact hJ9
  show gs T8 m 57 #[vr a1, vr a2, vi at1, vi t1, vr b1, vi (at1 + w), vi u1] [(.int (own_chr u1)), (.ref b1)]
  refine oV 0 X8 hx hZ hby hml hown (own_w hw 113 rfl) (own_w hw 114 rfl) (own_w hw 116 rfl) (own_w hw 115 rfl) (rm_sbApp_2_1_0_L l Z a0 hw [] b1 tN_3 kN_3 (own_chr u1) (nar .byte ((own_chr u0).toInt8.toInt32)) (0 : Int32) zCS fm T6.heap n0 (Nat.le_trans (Nat.le_trans (Nat.le_trans Z0 E1.1) Kc3.1) Kc6.1) O6 P6_0 ge_b1 P6_1 P6_2 P6_3 P6_4 ne_b1_tN_3 P6_5 ge_tN_3 S_CS P_CS S_SF P_SF S_AD S_HI S_LO hC1) (own_w hw 117 rfl) (own_w hw 16 rfl) eq8 P6_0 (by decide) own_pd24 d2_57 rfl rfl rfl (fun T10 L10 v10 X10 hQ10 => ?_)
  obtain ⟨rfl, Nq10, Kc10, P10_0, P10_1, P10_2, P10_3, P10_4, P10_5⟩ := hQ10
  have N10 := Fr.app N8 Nq10
  have K10 := K6.trans Kc10 (allS (Or.inr sz_b1) (allS (Or.inr sz_tN_3) all0))
  have O10 := O6.keep Kc10 (allS ge_b1 (allS ge_tN_3 all0))
  show gs T10 m 60 #[vr a1, vr a2, vi at1, vi t1, vr b1, vi (at1 + w), vi u1] [(.ref b1)]
  refine own_st (fun _ kS => XT.pop X10.here hx rfl (hb hby d2_60) rfl rfl kS) ?_
  refine oiload X10 hx hby d2_61 rfl ?_
  refine oaloadN X10 hx hby d2_63 rfl rfl ?_
  obtain ⟨T11, X11, e11, st11⟩ := getF X10 hx hZ hown (host := "") (Or.inl (own_w hw 17 rfl)) Via.refl rfl (Fld.ext O10.2 Fw) (g := (mkF m 64 #[vr a1, vr a2, vi at1, vi t1, vr b1, vi (at1 + w), vi u1] [(.ref a1), (.int (at1 + w))])) rfl rfl (hb hby d2_64)
  refine own_st st11 ?_
  show gs T11 m 67 #[vr a1, vr a2, vi at1, vi t1, vr b1, vi (at1 + w), vi u1] [(.int w), (.int (at1 + w))]
  refine own_st (fun _ kS => XS.iadd X11.here hx rfl (hb hby d2_67) rfl kS) ?_
  refine own_st (fun _ kS => XS.istore X11.here hx rfl (hb hby d2_68) rfl (l' := #[vr a1, vr a2, vi at1, vi t1, vr b1, vi ((at1 + w) + w), vi u1]) rfl kS) ?_
  refine own_st (fun _ kS => XS.goto X11.here hx rfl (pc0 := 70) (pc' := 20) rfl (hb hby d2_70) (by decide) (by decide) kS) ?_
  refine oiload X11 hx hby d2_20 rfl ?_
  refine oiloadN X11 hx hby d2_22 rfl ?_
  refine own_st (fun _ kS => XS.icmpYes X11.here hx rfl (pc0 := 23) (pc' := 73) rfl (hb hby d2_23) rfl (flt (own_m3 hr : ¬ (((at1 + w) + w) < t1))).2.1 (by decide) (by decide) kS) ?_
  show gs T11 m 73 #[vr a1, vr a2, vi at1, vi t1, vr b1, vi ((at1 + w) + w), vi u1] []
  refine oaload X11 hx hby d2_73 rfl rfl ?_
  refine oV 0 X11 hx hZ hby hml hown (own_w hw 37 rfl) (own_w hw 38 rfl) (own_w hw 40 rfl) (own_w hw 39 rfl) (rm_toStr_2_0 l Z a0 hw [] b1 tN_3 kN_3 (nar .byte ((own_chr u0).toInt8.toInt32)) (nar .byte ((own_chr u1).toInt8.toInt32)) zCS T10.heap n0 (Nat.le_trans (Nat.le_trans (Nat.le_trans (Nat.le_trans Z0 E1.1) Kc3.1) Kc6.1) Kc10.1) O10 P10_0 P10_1 P10_2 P10_3 P10_4 P10_5 ((P3_1.keep Kc6).keep Kc10) S_CS P_CS) (own_w hw 41 rfl) (own_w hw 16 rfl) e11 P10_0 (by decide) own_pd21 d2_75 rfl rfl rfl (fun T12 L12 v12 X12 hQ12 => ?_)
  obtain ⟨bS_12, tN_12, rfl, Nq12, Kc12, P12_0, P12_1, P12_2, P12_3, P12_4, P12_5, P12_6⟩ := hQ12
  have N12 := Fr.app N10 Nq12
  have ne_a2_bS_12 : a2 ≠ bS_12 := Nat.ne_of_lt (Nat.lt_of_lt_of_le (own_tabk (own_tabk (own_tabk (Tab.ext Tb E1) Kc3 (ninS ne_a2_b1 nin0)) Kc6 (ninS ne_a2_b1 (ninS ne_a2_tN_3 nin0))) Kc10 (ninS ne_a2_b1 (ninS ne_a2_tN_3 nin0))).lt P12_0)
  have ne_b1_bS_12 : b1 ≠ bS_12 := Nat.ne_of_lt (Nat.lt_of_lt_of_le P10_0.lt P12_0)
  have ne_tN_3_bS_12 : tN_3 ≠ bS_12 := Nat.ne_of_lt (Nat.lt_of_lt_of_le ((P3_1.keep Kc6).keep Kc10).lt P12_0)
  have ge_bS_12 : n0 ≤ bS_12 := Nat.le_trans (Nat.le_trans (Nat.le_trans (Nat.le_trans (Nat.le_trans Z0 E1.1) Kc3.1) Kc6.1) Kc10.1) P12_0
  have sz_bS_12 : h0.size ≤ bS_12 := Nat.le_trans K10.1 P12_0
  have ne_a2_tN_12 : a2 ≠ tN_12 := Nat.ne_of_lt (Nat.lt_of_lt_of_le (own_tabk (own_tabk (own_tabk (Tab.ext Tb E1) Kc3 (ninS ne_a2_b1 nin0)) Kc6 (ninS ne_a2_b1 (ninS ne_a2_tN_3 nin0))) Kc10 (ninS ne_a2_b1 (ninS ne_a2_tN_3 nin0))).lt P12_1)
  have ne_b1_tN_12 : b1 ≠ tN_12 := Nat.ne_of_lt (Nat.lt_of_lt_of_le P10_0.lt P12_1)
  have ne_tN_3_tN_12 : tN_3 ≠ tN_12 := Nat.ne_of_lt (Nat.lt_of_lt_of_le ((P3_1.keep Kc6).keep Kc10).lt P12_1)
  have ge_tN_12 : n0 ≤ tN_12 := Nat.le_trans (Nat.le_trans (Nat.le_trans (Nat.le_trans (Nat.le_trans Z0 E1.1) Kc3.1) Kc6.1) Kc10.1) P12_1
  have sz_tN_12 : h0.size ≤ tN_12 := Nat.le_trans K10.1 P12_1
  have K12 := K10.trans Kc12 all0
  have O12 := O10.keep Kc12 all0
  show gs T12 m 78 #[vr a1, vr a2, vi at1, vi t1, vr b1, vi ((at1 + w) + w), vi u1] [(.ref bS_12)]
  exact own_retA X12 hx hlk hret rfl rfl (hb hby d2_78) (by decide) (by decide) (show Q_dec_2_LL Z a1 a2 cB at1 t1 w le u0 u1 zCS fm h0 n0 _ _ _ from ⟨bS_12, tN_12, kN_3, ⟨rfl, N12, K12, P12_3, P12_4, P12_5, P12_6⟩⟩)
theorem ef_sLen_2_0 (m : MethodId) (x0 : Addr) : entryFrame m #[(.ref x0)] 1 = mkF m 0 #[.val (.ref x0)] [] := by first | (simp [entryFrame, mkF, argsToLocals, Value.category]; done) | rfl
def Q_sLen_2_0 (Z : State) (aS : Addr) (tA : Addr) (kA : ClassId) (y0 : Int32) (y1 : Int32) (zCS : Int32) (h0 : Heap) (n0 : Nat) (v : Option Value) (h : Heap) (L : List Loc) : Prop := v = some (.int 2) ∧ Fr n0 L ∧ h = h0
theorem rm_sLen_2_0 (l : Launch) (Z : State) (a0 : Array Value) (hw : HW a0 Z) (ws : List Jvm.Cond) (aS : Addr) (tA : Addr) (kA : ClassId) (y0 : Int32) (y1 : Int32) (zCS : Int32) (h0 : Heap) (n0 : Nat) (Z0 : n0 ≤ h0.size) (O0 : Old Z n0 h0) (E_0 : ek21 Z h0 aS) (F0v : fk16 Z h0 aS (.ref tA)) (F0c : fk15 Z h0 aS (.int 0)) (R_A : Arv Z h0 tA kA .byte (2 : Int32) [(.int y0), (.int y1)] (.int 0)) (S_CS : sk0 Z Z.heap (.int zCS)) (P_CS : ¬ zCS = 0) :
    M33 l ws (rmk 1 0 0 13) Z #[(.ref aS)] h0 (Q_sLen_2_0 Z aS tA kA y0 y1 zCS h0 n0) := by
  refine own_go "java/lang/String" rfl (plainFor_of_name pn_14) (fun m => ef_sLen_2_0 m aS) (fun p e s m below meth c s₁ hx hby hml hown hnm hlk hret hZ X0 e0 => ?_)
  have N0 := Fr.nil n0
  show gs s₁ m 0 #[vr aS] []
  refine oaloadN X0 hx hby d14_0 rfl rfl ?_
  obtain ⟨T1, X1, e1, st1⟩ := getF X0 hx hZ hown (host := "") (Or.inl (own_w hw 88 rfl)) Via.refl e0 F0v (g := (mkF m 1 #[vr aS] [(.ref aS)])) rfl rfl (hb hby d14_1)
  refine own_st st1 ?_
  show gs T1 m 4 #[vr aS] [(.ref tA)]
  obtain ⟨cl2, Ar2, qa2, qs2, qn2, qh2, qg2⟩ := id R_A
  refine own_st (fun _ kS => X1.arraylength hx (by rw [e1]; exact Ar2.1) (State.isArrayOf_alike hZ.alike Ar2.2.1) (g := (mkF m 4 #[vr aS] [(.ref tA)])) rfl rfl (hb hby d14_4) _ kS) ?_
  rw [len_of qs2 qn2]
  show gs T1 m 5 #[vr aS] [(.int 2)]
  refine oaloadN X1 hx hby d14_5 rfl rfl ?_
  refine oV 1 X1 hx hZ hby hml hown (own_w hw 95 rfl) (own_w hw 96 rfl) (own_w hw 98 rfl) (own_w hw 97 rfl) (rm_coder_0 l Z a0 hw [] aS zCS h0 n0 Z0 O0 S_CS P_CS F0c) (own_w hw 99 rfl) (own_w hw 32 rfl) e1 E_0 (by decide) own_pd22 d14_6 rfl rfl rfl (fun T3 L3 v3 X3 hQ3 => ?_)
  obtain ⟨rfl, Nq3, eq3⟩ := hQ3
  have N3 := Fr.app N0 Nq3
  show gs T3 m 9 #[vr aS] [(.int 0), (.int 2)]
  refine own_st (fun _ kS => XT.ishr X3.here hx rfl (hb hby d14_9) rfl kS) ?_
  show gs T3 m 10 #[vr aS] [(.int 2)]
  exact own_retI X3 hx hlk hret (hb hby d14_10) (by decide) (by decide) (by rw [eq3]; exact ⟨rfl, N3, rfl⟩)
theorem ef_l1chat_2_0 (m : MethodId) (x0 : Addr) : entryFrame m #[(.ref x0), (.int 0)] 2 = mkF m 0 #[.val (.ref x0), .val (.int 0)] [] := by first | (simp [entryFrame, mkF, argsToLocals, Value.category]; done) | rfl
def Q_l1chat_2_0 (Z : State) (tA : Addr) (kA : ClassId) (y0 : Int32) (y1 : Int32) (fm : Value) (h0 : Heap) (n0 : Nat) (v : Option Value) (h : Heap) (L : List Loc) : Prop := v = some (.int (own_lat y0)) ∧ Fr n0 L ∧ h = h0
theorem rm_l1chat_2_0 (l : Launch) (Z : State) (a0 : Array Value) (hw : HW a0 Z) (ws : List Jvm.Cond) (tA : Addr) (kA : ClassId) (y0 : Int32) (y1 : Int32) (fm : Value) (h0 : Heap) (n0 : Nat) (Z0 : n0 ≤ h0.size) (O0 : Old Z n0 h0) (R_A : Arv Z h0 tA kA .byte (2 : Int32) [(.int y0), (.int y1)] (.int 0)) (S_SF : sk4 Z Z.heap fm) (P_SF : fm.isRef = true) :
    M34 l ws (rmk 2 0 0 27) Z #[(.ref tA), (.int 0)] h0 (Q_l1chat_2_0 Z tA kA y0 y1 fm h0 n0) := by
  refine own_go "java/lang/StringLatin1" rfl (plainFor_of_name pn_23) (fun m => ef_l1chat_2_0 m tA) (fun p e s m below meth c s₁ hx hby hml hown hnm hlk hret hZ X0 e0 => ?_)
  have N0 := Fr.nil n0
  show gs s₁ m 0 #[vr tA, vi 0] []
  refine oiloadN X0 hx hby d23_0 rfl ?_
  refine oaloadN X0 hx hby d23_1 rfl rfl ?_
  show gs s₁ m 2 #[vr tA, vi 0] [(.ref tA), (.int 0)]
  obtain ⟨cl1, Ar1, qa1, qs1, qn1, qh1, qg1⟩ := id R_A
  refine own_st (fun _ kS => X0.arraylength hx (by rw [e0]; exact Ar1.1) (State.isArrayOf_alike hZ.alike Ar1.2.1) (g := (mkF m 2 #[vr tA, vi 0] [(.ref tA), (.int 0)])) rfl rfl (hb hby d23_2) _ kS) ?_
  rw [len_of qs1 qn1]
  show gs s₁ m 3 #[vr tA, vi 0] [(.int 2), (.int 0)]
  refine oS 0 X0 hx hZ hby hml hown (own_w hw 145 rfl) (own_w hw 146 rfl) (own_w hw 32 rfl) (own_w hw 147 rfl) (rm_chk_0_2 l Z a0 hw [] fm h0 n0 Z0 O0 S_SF P_SF) e0 (by decide) own_pd3 d23_3 rfl rfl rfl (fun T2 L2 v2 X2 hQ2 => ?_)
  obtain ⟨rfl, Nq2, eq2⟩ := hQ2
  have N2 := Fr.app N0 Nq2
  show gs T2 m 6 #[vr tA, vi 0] []
  refine oaloadN X2 hx hby d23_6 rfl rfl ?_
  refine oiloadN X2 hx hby d23_7 rfl ?_
  show gs T2 m 8 #[vr tA, vi 0] [(.int 0), (.ref tA)]
  obtain ⟨cl3, Ar3, qa3, qs3, qn3, qh3, qg3⟩ := id R_A
  refine own_st (fun _ kS => X2.baloadBytes hx (j := (0 : Int32)) (v := (.int y0)) (by rw [eq2]; exact Ar3.1) (State.isArrayOf_alike hZ.alike Ar3.2.1) Ar3.2.2 (inb_of qs3 ⟨by decide, by decide⟩) (qh3.at (inb_of qs3 ⟨by decide, by decide⟩) rfl) (g := (mkF m 8 #[vr tA, vi 0] [(.int 0), (.ref tA)])) rfl rfl (hb hby d23_8) _ kS) ?_
  show gs T2 m 9 #[vr tA, vi 0] [(.int y0)]
  refine own_st (fun _ kS => XS.sipush X2.here hx rfl (hb hby d23_9) kS) ?_
  refine own_st (fun _ kS => XS.iand X2.here hx rfl (hb hby d23_12) rfl kS) ?_
  refine own_st (fun _ kS => XT.i2c X2.here hx rfl (hb hby d23_13) rfl kS) ?_
  show gs T2 m 14 #[vr tA, vi 0] [(.int ((y0 &&& (255 : Int32)).toUInt32.toUInt16.toUInt32.toInt32))]
  exact own_retN X2 hx hlk (t := .char) hret (by simp) (hb hby d23_14) (by decide) (by decide) (v' := (own_lat y0)) rfl (by rw [eq2]; exact ⟨(by simp [P_SF]), N2, rfl⟩)
theorem ef_chAt_2_0_0 (m : MethodId) (x0 : Addr) : entryFrame m #[(.ref x0), (.int 0)] 2 = mkF m 0 #[.val (.ref x0), .val (.int 0)] [] := by first | (simp [entryFrame, mkF, argsToLocals, Value.category]; done) | rfl
def Q_chAt_2_0_0 (Z : State) (aS : Addr) (tA : Addr) (kA : ClassId) (y0 : Int32) (y1 : Int32) (zCS : Int32) (fm : Value) (h0 : Heap) (n0 : Nat) (v : Option Value) (h : Heap) (L : List Loc) : Prop := v = some (.int (own_lat y0)) ∧ Fr n0 L ∧ h = h0
theorem rm_chAt_2_0_0 (l : Launch) (Z : State) (a0 : Array Value) (hw : HW a0 Z) (ws : List Jvm.Cond) (aS : Addr) (tA : Addr) (kA : ClassId) (y0 : Int32) (y1 : Int32) (zCS : Int32) (fm : Value) (h0 : Heap) (n0 : Nat) (Z0 : n0 ≤ h0.size) (O0 : Old Z n0 h0) (E_0 : ek21 Z h0 aS) (F0v : fk16 Z h0 aS (.ref tA)) (F0c : fk15 Z h0 aS (.int 0)) (R_A : Arv Z h0 tA kA .byte (2 : Int32) [(.int y0), (.int y1)] (.int 0)) (S_CS : sk0 Z Z.heap (.int zCS)) (P_CS : ¬ zCS = 0) (S_SF : sk4 Z Z.heap fm) (P_SF : fm.isRef = true) :
    M36 l ws (rmk 3 0 0 40) Z #[(.ref aS), (.int 0)] h0 (Q_chAt_2_0_0 Z aS tA kA y0 y1 zCS fm h0 n0) := by
  refine own_go "java/lang/String" rfl (plainFor_of_name pn_21) (fun m => ef_chAt_2_0_0 m aS) (fun p e s m below meth c s₁ hx hby hml hown hnm hlk hret hZ X0 e0 => ?_)
  have N0 := Fr.nil n0
  show gs s₁ m 0 #[vr aS, vi 0] []
  refine oaloadN X0 hx hby d21_0 rfl rfl ?_
  refine oV 0 X0 hx hZ hby hml hown (own_w hw 137 rfl) (own_w hw 138 rfl) (own_w hw 140 rfl) (own_w hw 139 rfl) (rm_sLat_0 l Z a0 hw [] aS zCS h0 n0 Z0 O0 S_CS P_CS F0c) (own_w hw 141 rfl) (own_w hw 32 rfl) e0 E_0 (by decide) own_pd11 d21_1 rfl rfl rfl (fun T1 L1 v1 X1 hQ1 => ?_)
  obtain ⟨rfl, Nq1, eq1⟩ := hQ1
  have N1 := Fr.app N0 Nq1
  show gs T1 m 4 #[vr aS, vi 0] [(.int 1)]
  refine own_st (fun _ kS => XS.ifNo X1.here hx rfl (hb hby d21_4) rfl ((if0 _ _).trans (feq (by decide : ¬ ((1 : Int32) = (0 : Int32)))).1) kS) ?_
  show gs T1 m 7 #[vr aS, vi 0] []
  refine oaloadN X1 hx hby d21_7 rfl rfl ?_
  obtain ⟨T2, X2, e2, st2⟩ := getF X1 hx hZ hown (host := "") (Or.inl (own_w hw 88 rfl)) Via.refl eq1 F0v (g := (mkF m 8 #[vr aS, vi 0] [(.ref aS)])) rfl rfl (hb hby d21_8)
  refine own_st st2 ?_
  show gs T2 m 11 #[vr aS, vi 0] [(.ref tA)]
  refine oiloadN X2 hx hby d21_11 rfl ?_
  refine oS 0 X2 hx hZ hby hml hown (own_w hw 142 rfl) (own_w hw 143 rfl) (own_w hw 130 rfl) (own_w hw 144 rfl) (rm_l1chat_2_0 l Z a0 hw [] tA kA y0 y1 fm h0 n0 Z0 O0 R_A S_SF P_SF) e2 (by decide) own_pd25 d21_12 rfl rfl rfl (fun T3 L3 v3 X3 hQ3 => ?_)
  obtain ⟨rfl, Nq3, eq3⟩ := hQ3
  have N3 := Fr.app N1 Nq3
  show gs T3 m 15 #[vr aS, vi 0] [(.int (own_lat y0))]
  exact own_retN X3 hx hlk (t := .char) hret (by simp) (hb hby d21_15) (by decide) (by decide) (v' := (own_lat y0)) (own_nlat _) (by rw [eq3]; exact ⟨rfl, N3, rfl⟩)
theorem ef_l1chat_2_1 (m : MethodId) (x0 : Addr) : entryFrame m #[(.ref x0), (.int 1)] 2 = mkF m 0 #[.val (.ref x0), .val (.int 1)] [] := by first | (simp [entryFrame, mkF, argsToLocals, Value.category]; done) | rfl
def Q_l1chat_2_1 (Z : State) (tA : Addr) (kA : ClassId) (y0 : Int32) (y1 : Int32) (fm : Value) (h0 : Heap) (n0 : Nat) (v : Option Value) (h : Heap) (L : List Loc) : Prop := v = some (.int (own_lat y1)) ∧ Fr n0 L ∧ h = h0
theorem rm_l1chat_2_1 (l : Launch) (Z : State) (a0 : Array Value) (hw : HW a0 Z) (ws : List Jvm.Cond) (tA : Addr) (kA : ClassId) (y0 : Int32) (y1 : Int32) (fm : Value) (h0 : Heap) (n0 : Nat) (Z0 : n0 ≤ h0.size) (O0 : Old Z n0 h0) (R_A : Arv Z h0 tA kA .byte (2 : Int32) [(.int y0), (.int y1)] (.int 0)) (S_SF : sk4 Z Z.heap fm) (P_SF : fm.isRef = true) :
    M34 l ws (rmk 2 0 0 27) Z #[(.ref tA), (.int 1)] h0 (Q_l1chat_2_1 Z tA kA y0 y1 fm h0 n0) := by
  refine own_go "java/lang/StringLatin1" rfl (plainFor_of_name pn_23) (fun m => ef_l1chat_2_1 m tA) (fun p e s m below meth c s₁ hx hby hml hown hnm hlk hret hZ X0 e0 => ?_)
  have N0 := Fr.nil n0
  show gs s₁ m 0 #[vr tA, vi 1] []
  refine oiloadN X0 hx hby d23_0 rfl ?_
  refine oaloadN X0 hx hby d23_1 rfl rfl ?_
  show gs s₁ m 2 #[vr tA, vi 1] [(.ref tA), (.int 1)]
  obtain ⟨cl1, Ar1, qa1, qs1, qn1, qh1, qg1⟩ := id R_A
  refine own_st (fun _ kS => X0.arraylength hx (by rw [e0]; exact Ar1.1) (State.isArrayOf_alike hZ.alike Ar1.2.1) (g := (mkF m 2 #[vr tA, vi 1] [(.ref tA), (.int 1)])) rfl rfl (hb hby d23_2) _ kS) ?_
  rw [len_of qs1 qn1]
  show gs s₁ m 3 #[vr tA, vi 1] [(.int 2), (.int 1)]
  refine oS 0 X0 hx hZ hby hml hown (own_w hw 145 rfl) (own_w hw 146 rfl) (own_w hw 32 rfl) (own_w hw 147 rfl) (rm_chk_1_2 l Z a0 hw [] fm h0 n0 Z0 O0 S_SF P_SF) e0 (by decide) own_pd3 d23_3 rfl rfl rfl (fun T2 L2 v2 X2 hQ2 => ?_)
  obtain ⟨rfl, Nq2, eq2⟩ := hQ2
  have N2 := Fr.app N0 Nq2
  show gs T2 m 6 #[vr tA, vi 1] []
  refine oaloadN X2 hx hby d23_6 rfl rfl ?_
  refine oiloadN X2 hx hby d23_7 rfl ?_
  show gs T2 m 8 #[vr tA, vi 1] [(.int 1), (.ref tA)]
  obtain ⟨cl3, Ar3, qa3, qs3, qn3, qh3, qg3⟩ := id R_A
  refine own_st (fun _ kS => X2.baloadBytes hx (j := (1 : Int32)) (v := (.int y1)) (by rw [eq2]; exact Ar3.1) (State.isArrayOf_alike hZ.alike Ar3.2.1) Ar3.2.2 (inb_of qs3 ⟨by decide, by decide⟩) (qh3.at (inb_of qs3 ⟨by decide, by decide⟩) rfl) (g := (mkF m 8 #[vr tA, vi 1] [(.int 1), (.ref tA)])) rfl rfl (hb hby d23_8) _ kS) ?_
  show gs T2 m 9 #[vr tA, vi 1] [(.int y1)]
  refine own_st (fun _ kS => XS.sipush X2.here hx rfl (hb hby d23_9) kS) ?_
  refine own_st (fun _ kS => XS.iand X2.here hx rfl (hb hby d23_12) rfl kS) ?_
  refine own_st (fun _ kS => XT.i2c X2.here hx rfl (hb hby d23_13) rfl kS) ?_
  show gs T2 m 14 #[vr tA, vi 1] [(.int ((y1 &&& (255 : Int32)).toUInt32.toUInt16.toUInt32.toInt32))]
  exact own_retN X2 hx hlk (t := .char) hret (by simp) (hb hby d23_14) (by decide) (by decide) (v' := (own_lat y1)) rfl (by rw [eq2]; exact ⟨(by simp [P_SF]), N2, rfl⟩)
theorem ef_chAt_2_0_1 (m : MethodId) (x0 : Addr) : entryFrame m #[(.ref x0), (.int 1)] 2 = mkF m 0 #[.val (.ref x0), .val (.int 1)] [] := by first | (simp [entryFrame, mkF, argsToLocals, Value.category]; done) | rfl
def Q_chAt_2_0_1 (Z : State) (aS : Addr) (tA : Addr) (kA : ClassId) (y0 : Int32) (y1 : Int32) (zCS : Int32) (fm : Value) (h0 : Heap) (n0 : Nat) (v : Option Value) (h : Heap) (L : List Loc) : Prop := v = some (.int (own_lat y1)) ∧ Fr n0 L ∧ h = h0
theorem rm_chAt_2_0_1 (l : Launch) (Z : State) (a0 : Array Value) (hw : HW a0 Z) (ws : List Jvm.Cond) (aS : Addr) (tA : Addr) (kA : ClassId) (y0 : Int32) (y1 : Int32) (zCS : Int32) (fm : Value) (h0 : Heap) (n0 : Nat) (Z0 : n0 ≤ h0.size) (O0 : Old Z n0 h0) (E_0 : ek21 Z h0 aS) (F0v : fk16 Z h0 aS (.ref tA)) (F0c : fk15 Z h0 aS (.int 0)) (R_A : Arv Z h0 tA kA .byte (2 : Int32) [(.int y0), (.int y1)] (.int 0)) (S_CS : sk0 Z Z.heap (.int zCS)) (P_CS : ¬ zCS = 0) (S_SF : sk4 Z Z.heap fm) (P_SF : fm.isRef = true) :
    M36 l ws (rmk 3 0 0 40) Z #[(.ref aS), (.int 1)] h0 (Q_chAt_2_0_1 Z aS tA kA y0 y1 zCS fm h0 n0) := by
  refine own_go "java/lang/String" rfl (plainFor_of_name pn_21) (fun m => ef_chAt_2_0_1 m aS) (fun p e s m below meth c s₁ hx hby hml hown hnm hlk hret hZ X0 e0 => ?_)
  have N0 := Fr.nil n0
  show gs s₁ m 0 #[vr aS, vi 1] []
  refine oaloadN X0 hx hby d21_0 rfl rfl ?_
  refine oV 0 X0 hx hZ hby hml hown (own_w hw 137 rfl) (own_w hw 138 rfl) (own_w hw 140 rfl) (own_w hw 139 rfl) (rm_sLat_0 l Z a0 hw [] aS zCS h0 n0 Z0 O0 S_CS P_CS F0c) (own_w hw 141 rfl) (own_w hw 32 rfl) e0 E_0 (by decide) own_pd11 d21_1 rfl rfl rfl (fun T1 L1 v1 X1 hQ1 => ?_)
  obtain ⟨rfl, Nq1, eq1⟩ := hQ1
  have N1 := Fr.app N0 Nq1
  show gs T1 m 4 #[vr aS, vi 1] [(.int 1)]
  refine own_st (fun _ kS => XS.ifNo X1.here hx rfl (hb hby d21_4) rfl ((if0 _ _).trans (feq (by decide : ¬ ((1 : Int32) = (0 : Int32)))).1) kS) ?_
  show gs T1 m 7 #[vr aS, vi 1] []
  refine oaloadN X1 hx hby d21_7 rfl rfl ?_
  obtain ⟨T2, X2, e2, st2⟩ := getF X1 hx hZ hown (host := "") (Or.inl (own_w hw 88 rfl)) Via.refl eq1 F0v (g := (mkF m 8 #[vr aS, vi 1] [(.ref aS)])) rfl rfl (hb hby d21_8)
  refine own_st st2 ?_
  show gs T2 m 11 #[vr aS, vi 1] [(.ref tA)]
  refine oiloadN X2 hx hby d21_11 rfl ?_
  refine oS 0 X2 hx hZ hby hml hown (own_w hw 142 rfl) (own_w hw 143 rfl) (own_w hw 130 rfl) (own_w hw 144 rfl) (rm_l1chat_2_1 l Z a0 hw [] tA kA y0 y1 fm h0 n0 Z0 O0 R_A S_SF P_SF) e2 (by decide) own_pd25 d21_12 rfl rfl rfl (fun T3 L3 v3 X3 hQ3 => ?_)
  obtain ⟨rfl, Nq3, eq3⟩ := hQ3
  have N3 := Fr.app N1 Nq3
  show gs T3 m 15 #[vr aS, vi 1] [(.int (own_lat y1))]
  exact own_retN X3 hx hlk (t := .char) hret (by simp) (hb hby d21_15) (by decide) (by decide) (v' := (own_lat y1)) (own_nlat _) (by rw [eq3]; exact ⟨rfl, N3, rfl⟩)
theorem ef_dec_2_LU (m : MethodId) (x0 : Addr) (x1 : Addr) (x2 : Int32) (x3 : Int32) : entryFrame m #[(.ref x0), (.ref x1), (.int x2), (.int x3)] 7 = mkF m 0 #[.val (.ref x0), .val (.ref x1), .val (.int x2), .val (.int x3), .unset, .unset, .unset] [] := by first | (simp [entryFrame, mkF, argsToLocals, Value.category]; done) | rfl
def Q_dec_2_LU (Z : State) (a1 : Addr) (a2 : Addr) (cB : Cell) (at1 : Int32) (t1 : Int32) (w : Int32) (le : Int32) (u0 : Int32) (u1 : Int32) (zCS : Int32) (fm : Value) (h0 : Heap) (n0 : Nat) (v : Option Value) (h : Heap) (L : List Loc) : Prop := ∃ bS : Addr, ∃ tN : Addr, ∃ kN : ClassId, v = some (.ref bS) ∧ Fr n0 L ∧ Keep h0 h [] ∧ ek21 Z h bS ∧ fk15 Z h bS (.int 1) ∧ fk16 Z h bS (.ref tN) ∧ Arv Z h tN kN .byte (4 : Int32) [(.int (nar .byte ((((nar .byte ((own_chr u0).toInt8.toInt32)) &&& (255 : Int32)) >>> ((0 : Int32) &&& 31)).toInt8.toInt32))), (.int (nar .byte ((((nar .byte ((own_chr u0).toInt8.toInt32)) &&& (255 : Int32)) >>> ((8 : Int32) &&& 31)).toInt8.toInt32))), (.int (nar .byte (((own_chr u1) >>> ((0 : Int32) &&& 31)).toInt8.toInt32))), (.int (nar .byte (((own_chr u1) >>> ((8 : Int32) &&& 31)).toInt8.toInt32)))] (.int 0)
theorem rm_dec_2_LU (l : Launch) (Z : State) (a0 : Array Value) (hw : HW a0 Z) (ws : List Jvm.Cond) (a1 : Addr) (a2 : Addr) (cB : Cell) (at1 : Int32) (t1 : Int32) (w : Int32) (le : Int32) (u0 : Int32) (u1 : Int32) (zCS : Int32) (fm : Value) (h0 : Heap) (n0 : Nat) (Z0 : n0 ≤ h0.size) (O0 : Old Z n0 h0) (E_e : ek22 Z Z.heap a1) (Fw : fk17 Z Z.heap a1 (.int w)) (Fl : fk18 Z Z.heap a1 (.int le)) (Tb : Tab Z h0 a2 cB .byte (8 : Int32)) (hr : own_rg (2 : Int32) w at1 t1) (hwl0 : own_wl w le cB at1 u0) (hwl1 : own_wl w le cB (at1 + w) u1) (hC0 : ¬ ((255 : Int32) < (own_chr u0))) (hC1 : (255 : Int32) < (own_chr u1)) (S_CS : sk0 Z Z.heap (.int zCS)) (P_CS : ¬ zCS = 0) (S_SF : sk4 Z Z.heap fm) (P_SF : fm.isRef = true) (S_AD : sk1 Z Z.heap (.int 1)) (S_HI : sk2 Z Z.heap (.int 0)) (S_LO : sk3 Z Z.heap (.int 8)) :
    M31 l ws (rmk 8 5 18 115) Z #[(.ref a1), (.ref a2), (.int at1), (.int t1)] h0 (Q_dec_2_LU Z a1 a2 cB at1 t1 w le u0 u1 zCS fm h0 n0) := by
  refine own_go "com/example/provenir/provenir/TextEncoding" rfl (plainFor_of_name pn_2) (fun m => ef_dec_2_LU m a1 a2 at1 t1) (fun p e s m below meth c s₁ hx hby hml hown hnm hlk hret hZ X0 e0 => ?_)
  have N0 := Fr.nil n0
  have K0 := Keep.refl h0 []
  show gs s₁ m 0 #[vr a1, vr a2, vi at1, vi t1, .unset, .unset, .unset] []
  obtain ⟨T1, h1, X1, e1, E1, A1, D1, -, st1⟩ := newO X0 hx hZ hown (own_w hw 14 rfl) (own_w hw 15 rfl) (own_w hw 16 rfl) e0 (g := (mkF m 0 #[vr a1, vr a2, vi at1, vi t1, .unset, .unset, .unset] [])) rfl (hb hby d2_0) (by decide) (by decide)
  obtain ⟨b1, g1⟩ : ∃ z, z = h0.size := ⟨_, rfl⟩
  have ne_a2_b1 : a2 ≠ b1 := Nat.ne_of_lt (Nat.lt_of_lt_of_eq Tb.lt g1.symm)
  have ge_b1 : n0 ≤ b1 := Nat.le_trans Z0 (Nat.le_of_eq g1.symm)
  have sz_b1 : h0.size ≤ b1 := Nat.le_trans K0.1 (Nat.le_of_eq g1.symm)
  rw [← g1] at A1 D1 st1
  have K1 := K0.ext E1
  have O1 := O0.ext E1
  have F1_value : fk11 Z h1 b1 .null := D1 (Or.inl (own_w hw 34 rfl)) (ty := (.array .byte)) (by decide)
  have F1_coder : fk12 Z h1 b1 (.int 0) := D1 (Or.inl (own_w hw 36 rfl)) (ty := .byte) (by decide)
  have F1_count : fk13 Z h1 b1 (.int 0) := D1 (Or.inl (own_w hw 67 rfl)) (ty := .int) (by decide)
  have F1_maybeLatin1 : fk14 Z h1 b1 (.int 0) := D1 (Or.inl (own_w hw 204 rfl)) (ty := .boolean) (by decide)
  refine own_st st1 ?_
  show gs T1 m 3 #[vr a1, vr a2, vi at1, vi t1, .unset, .unset, .unset] [(.ref b1)]
  refine own_st (fun _ kS => XS.dup X1.here hx rfl (hb hby d2_3) rfl rfl kS) ?_
  refine oiloadN X1 hx hby d2_4 rfl ?_
  refine oiloadN X1 hx hby d2_5 rfl ?_
  refine own_st (fun _ kS => XS.isub X1.here hx rfl (hb hby d2_6) rfl kS) ?_
  refine oaloadN X1 hx hby d2_7 rfl rfl ?_
  obtain ⟨T2, X2, e2, st2⟩ := getF X1 hx hZ hown (host := "") (Or.inl (own_w hw 17 rfl)) Via.refl e1 (Fld.ext O1.2 Fw) (g := (mkF m 8 #[vr a1, vr a2, vi at1, vi t1, .unset, .unset, .unset] [(.ref a1), (.int (t1 - at1)), (.ref b1), (.ref b1)])) rfl rfl (hb hby d2_8)
  refine own_st st2 ?_
  show gs T2 m 11 #[vr a1, vr a2, vi at1, vi t1, .unset, .unset, .unset] [(.int w), (.int (t1 - at1)), (.ref b1), (.ref b1)]
  refine own_st (fun _ kS => XS.idiv X2.here hx rfl (hb hby d2_11) rfl (own_wne hr) kS) ?_
  show gs T2 m 12 #[vr a1, vr a2, vi at1, vi t1, .unset, .unset, .unset] [(.int ((t1 - at1) / w)), (.ref b1), (.ref b1)]
  rw [own_div hr (by decide)]
  show gs T2 m 12 #[vr a1, vr a2, vi at1, vi t1, .unset, .unset, .unset] [(.int 2), (.ref b1), (.ref b1)]
  refine oN 1 X2 hx hZ hby hml hown (own_w hw 19 rfl) (own_w hw 20 rfl) (own_w hw 16 rfl) (own_w hw 21 rfl) (rm_sbInit_2 l Z a0 hw [] b1 zCS h1 n0 (Nat.le_trans Z0 E1.1) O1 A1 ge_b1 F1_value F1_coder F1_count F1_maybeLatin1 S_CS P_CS) e2 rfl (by decide) own_pd0 d2_12 rfl rfl rfl (fun T3 L3 v3 X3 hQ3 => ?_)
  obtain ⟨tN_3, kN_3, rfl, Nq3, Kc3, P3_0, P3_1, P3_2, P3_3, P3_4, P3_5, P3_6, P3_7⟩ := hQ3
  have N3 := Fr.app N0 Nq3
  have ne_a2_tN_3 : a2 ≠ tN_3 := Nat.ne_of_lt (Nat.lt_of_lt_of_le (Tab.ext Tb E1).lt P3_0)
  have ne_b1_tN_3 : b1 ≠ tN_3 := Nat.ne_of_lt (Nat.lt_of_lt_of_le A1.lt P3_0)
  have ge_tN_3 : n0 ≤ tN_3 := Nat.le_trans (Nat.le_trans Z0 E1.1) P3_0
  have sz_tN_3 : h0.size ≤ tN_3 := Nat.le_trans K1.1 P3_0
  have K3 := K1.trans Kc3 (allS (Or.inr sz_b1) all0)
  have O3 := O1.keep Kc3 (allS ge_b1 all0)
  show gs T3 m 15 #[vr a1, vr a2, vi at1, vi t1, .unset, .unset, .unset] [(.ref b1)]
  refine own_st (fun _ kS => XS.astore X3.here hx rfl (hb hby d2_15) rfl rfl (l' := #[vr a1, vr a2, vi at1, vi t1, vr b1, .unset, .unset]) rfl kS) ?_
  refine oiloadN X3 hx hby d2_17 rfl ?_
  refine own_st (fun _ kS => XS.istore X3.here hx rfl (hb hby d2_18) rfl (l' := #[vr a1, vr a2, vi at1, vi t1, vr b1, vi at1, .unset]) rfl kS) ?_
  refine oiload X3 hx hby d2_20 rfl ?_
  refine oiloadN X3 hx hby d2_22 rfl ?_
  refine own_st (fun _ kS => XS.icmpNo X3.here hx rfl (hb hby d2_23) rfl (tlt (own_l2 hr : at1 < t1)).2.1 kS) ?_
  show gs T3 m 26 #[vr a1, vr a2, vi at1, vi t1, vr b1, vi at1, .unset] []
  refine oaloadN X3 hx hby d2_26 rfl rfl ?_
  refine oaloadN X3 hx hby d2_27 rfl rfl ?_
  refine oiload X3 hx hby d2_28 rfl ?_
  refine oV 0 X3 hx hZ hby hml hown (own_w hw 107 rfl) (own_w hw 108 rfl) (own_w hw 110 rfl) (own_w hw 109 rfl) (rm_unitAt l Z a0 hw [] a1 a2 cB at1 w le u0 T3.heap n0 (Nat.le_trans (Nat.le_trans Z0 E1.1) Kc3.1) O3 Fw Fl (own_tabk (Tab.ext Tb E1) Kc3 (ninS ne_a2_b1 nin0)) (own_g2 hr) hwl0) (own_w hw 111 rfl) (own_w hw 6 rfl) rfl (Exa.ext O3.2 E_e) (by decide) own_pd23 d2_30 rfl rfl rfl (fun T4 L4 v4 X4 hQ4 => ?_)
  obtain ⟨rfl, Nq4, eq4⟩ := hQ4
  have N4 := Fr.app N3 Nq4
  show gs T4 m 33 #[vr a1, vr a2, vi at1, vi t1, vr b1, vi at1, .unset] [(.int u0)]
  refine own_st (fun _ kS => XS.istore X4.here hx rfl (hb hby d2_33) rfl (l' := #[vr a1, vr a2, vi at1, vi t1, vr b1, vi at1, vi u0]) rfl kS) ?_
  refine oaload X4 hx hby d2_35 rfl rfl ?_
  show gs T4 m 37 #[vr a1, vr a2, vi at1, vi t1, vr b1, vi at1, vi u0] [(.ref b1)]
  suffices hJ5 : own_G p.tables e below _ (T4.setTop (mkF m 57 #[vr a1, vr a2, vi at1, vi t1, vr b1, vi at1, vi u0] [(.int (own_chr u0)), (.ref b1)])) by
    by_cases hu5 : u0 < (0 : Int32)
    · skip
      refine oiload X4 hx hby d2_37 rfl ?_
      refine own_st (fun _ kS => XS.ifYes X4.here hx rfl (pc0 := 39) (pc' := 55) rfl (hb hby d2_39) rfl ((if0 _ _).trans (tlt (hu5 : u0 < (0 : Int32))).1) (by decide) (by decide) kS) ?_
      show gs T4 m 55 #[vr a1, vr a2, vi at1, vi t1, vr b1, vi at1, vi u0] [(.ref b1)]
      refine own_st (fun _ kS => X4.ldcInt hx hown (mvT hZ (own_w hw 158 rfl)) (g := (mkF m 55 #[vr a1, vr a2, vi at1, vi t1, vr b1, vi at1, vi u0] [(.ref b1)])) rfl (hb hby d2_55) _ kS) ?_
      show gs T4 m 57 #[vr a1, vr a2, vi at1, vi t1, vr b1, vi at1, vi u0] [(.int 65533), (.ref b1)]
      rw [own_chr, if_pos hu5] at hJ5
      exact hJ5
    · skip
      by_cases hv5 : (65535 : Int32) < u0
      · skip
        refine oiload X4 hx hby d2_37 rfl ?_
        refine own_st (fun _ kS => XS.ifNo X4.here hx rfl (hb hby d2_39) rfl ((if0 _ _).trans (flt (hu5 : ¬ (u0 < (0 : Int32)))).1) kS) ?_
        show gs T4 m 42 #[vr a1, vr a2, vi at1, vi t1, vr b1, vi at1, vi u0] [(.ref b1)]
        refine oiload X4 hx hby d2_42 rfl ?_
        show gs T4 m 44 #[vr a1, vr a2, vi at1, vi t1, vr b1, vi at1, vi u0] [(.int u0), (.ref b1)]
        refine own_st (fun _ kS => X4.ldcInt hx hown (mvT hZ (own_w hw 112 rfl)) (g := (mkF m 44 #[vr a1, vr a2, vi at1, vi t1, vr b1, vi at1, vi u0] [(.int u0), (.ref b1)])) rfl (hb hby d2_44) _ kS) ?_
        show gs T4 m 46 #[vr a1, vr a2, vi at1, vi t1, vr b1, vi at1, vi u0] [(.int 65535), (.int u0), (.ref b1)]
        refine own_st (fun _ kS => XS.icmpYes X4.here hx rfl (pc0 := 46) (pc' := 55) rfl (hb hby d2_46) rfl (tlt (hv5 : (65535 : Int32) < u0)).2.2.1 (by decide) (by decide) kS) ?_
        show gs T4 m 55 #[vr a1, vr a2, vi at1, vi t1, vr b1, vi at1, vi u0] [(.ref b1)]
        refine own_st (fun _ kS => X4.ldcInt hx hown (mvT hZ (own_w hw 158 rfl)) (g := (mkF m 55 #[vr a1, vr a2, vi at1, vi t1, vr b1, vi at1, vi u0] [(.ref b1)])) rfl (hb hby d2_55) _ kS) ?_
        show gs T4 m 57 #[vr a1, vr a2, vi at1, vi t1, vr b1, vi at1, vi u0] [(.int 65533), (.ref b1)]
        rw [own_chr, if_neg hu5, if_pos hv5] at hJ5
        exact hJ5
      · skip
        refine oiload X4 hx hby d2_37 rfl ?_
        refine own_st (fun _ kS => XS.ifNo X4.here hx rfl (hb hby d2_39) rfl ((if0 _ _).trans (flt (hu5 : ¬ (u0 < (0 : Int32)))).1) kS) ?_
        show gs T4 m 42 #[vr a1, vr a2, vi at1, vi t1, vr b1, vi at1, vi u0] [(.ref b1)]
        refine oiload X4 hx hby d2_42 rfl ?_
        show gs T4 m 44 #[vr a1, vr a2, vi at1, vi t1, vr b1, vi at1, vi u0] [(.int u0), (.ref b1)]
        refine own_st (fun _ kS => X4.ldcInt hx hown (mvT hZ (own_w hw 112 rfl)) (g := (mkF m 44 #[vr a1, vr a2, vi at1, vi t1, vr b1, vi at1, vi u0] [(.int u0), (.ref b1)])) rfl (hb hby d2_44) _ kS) ?_
        show gs T4 m 46 #[vr a1, vr a2, vi at1, vi t1, vr b1, vi at1, vi u0] [(.int 65535), (.int u0), (.ref b1)]
        refine own_st (fun _ kS => XS.icmpNo X4.here hx rfl (hb hby d2_46) rfl (flt (hv5 : ¬ ((65535 : Int32) < u0))).2.2.1 kS) ?_
        show gs T4 m 49 #[vr a1, vr a2, vi at1, vi t1, vr b1, vi at1, vi u0] [(.ref b1)]
        refine oiload X4 hx hby d2_49 rfl ?_
        refine own_st (fun _ kS => XT.i2c X4.here hx rfl (hb hby d2_51) rfl kS) ?_
        refine own_st (fun _ kS => XS.goto X4.here hx rfl (pc0 := 52) (pc' := 57) rfl (hb hby d2_52) (by decide) (by decide) kS) ?_
        show gs T4 m 57 #[vr a1, vr a2, vi at1, vi t1, vr b1, vi at1, vi u0] [(.int (u0.toUInt32.toUInt16.toUInt32.toInt32)), (.ref b1)]
        rw [own_chr, if_neg hu5, if_neg hv5] at hJ5
        exact hJ5
  show gs T4 m 57 #[vr a1, vr a2, vi at1, vi t1, vr b1, vi at1, vi u0] [(.int (own_chr u0)), (.ref b1)]
  refine oV 0 X4 hx hZ hby hml hown (own_w hw 113 rfl) (own_w hw 114 rfl) (own_w hw 116 rfl) (own_w hw 115 rfl) (rm_sbApp_2_0_0_L l Z a0 hw [] b1 tN_3 kN_3 (own_chr u0) (0 : Int32) (0 : Int32) zCS fm T3.heap n0 (Nat.le_trans (Nat.le_trans Z0 E1.1) Kc3.1) O3 P3_2 ge_b1 P3_3 P3_4 P3_5 P3_6 ne_b1_tN_3 P3_7 ge_tN_3 S_CS P_CS S_SF P_SF S_AD S_HI S_LO hC0) (own_w hw 117 rfl) (own_w hw 16 rfl) eq4 P3_2 (by decide) own_pd24 d2_57 rfl rfl rfl (fun T6 L6 v6 X6 hQ6 => ?_)
  obtain ⟨rfl, Nq6, Kc6, P6_0, P6_1, P6_2, P6_3, P6_4, P6_5⟩ := hQ6
  have N6 := Fr.app N4 Nq6
  have K6 := K3.trans Kc6 (allS (Or.inr sz_b1) (allS (Or.inr sz_tN_3) all0))
  have O6 := O3.keep Kc6 (allS ge_b1 (allS ge_tN_3 all0))
  show gs T6 m 60 #[vr a1, vr a2, vi at1, vi t1, vr b1, vi at1, vi u0] [(.ref b1)]
  refine own_st (fun _ kS => XT.pop X6.here hx rfl (hb hby d2_60) rfl rfl kS) ?_
  refine oiload X6 hx hby d2_61 rfl ?_
  refine oaloadN X6 hx hby d2_63 rfl rfl ?_
  obtain ⟨T7, X7, e7, st7⟩ := getF X6 hx hZ hown (host := "") (Or.inl (own_w hw 17 rfl)) Via.refl rfl (Fld.ext O6.2 Fw) (g := (mkF m 64 #[vr a1, vr a2, vi at1, vi t1, vr b1, vi at1, vi u0] [(.ref a1), (.int at1)])) rfl rfl (hb hby d2_64)
  refine own_st st7 ?_
  show gs T7 m 67 #[vr a1, vr a2, vi at1, vi t1, vr b1, vi at1, vi u0] [(.int w), (.int at1)]
  refine own_st (fun _ kS => XS.iadd X7.here hx rfl (hb hby d2_67) rfl kS) ?_
  refine own_st (fun _ kS => XS.istore X7.here hx rfl (hb hby d2_68) rfl (l' := #[vr a1, vr a2, vi at1, vi t1, vr b1, vi (at1 + w), vi u0]) rfl kS) ?_
  refine own_st (fun _ kS => XS.goto X7.here hx rfl (pc0 := 70) (pc' := 20) rfl (hb hby d2_70) (by decide) (by decide) kS) ?_
  refine oiload X7 hx hby d2_20 rfl ?_
  refine oiloadN X7 hx hby d2_22 rfl ?_
  refine own_st (fun _ kS => XS.icmpNo X7.here hx rfl (hb hby d2_23) rfl (tlt (own_m2 hr : (at1 + w) < t1)).2.1 kS) ?_
  show gs T7 m 26 #[vr a1, vr a2, vi at1, vi t1, vr b1, vi (at1 + w), vi u0] []
  refine oaloadN X7 hx hby d2_26 rfl rfl ?_
  refine oaloadN X7 hx hby d2_27 rfl rfl ?_
  refine oiload X7 hx hby d2_28 rfl ?_
  refine oV 0 X7 hx hZ hby hml hown (own_w hw 107 rfl) (own_w hw 108 rfl) (own_w hw 110 rfl) (own_w hw 109 rfl) (rm_unitAt l Z a0 hw [] a1 a2 cB (at1 + w) w le u1 T6.heap n0 (Nat.le_trans (Nat.le_trans (Nat.le_trans Z0 E1.1) Kc3.1) Kc6.1) O6 Fw Fl (own_tabk (own_tabk (Tab.ext Tb E1) Kc3 (ninS ne_a2_b1 nin0)) Kc6 (ninS ne_a2_b1 (ninS ne_a2_tN_3 nin0))) (own_g3 hr) hwl1) (own_w hw 111 rfl) (own_w hw 6 rfl) e7 (Exa.ext O6.2 E_e) (by decide) own_pd23 d2_30 rfl rfl rfl (fun T8 L8 v8 X8 hQ8 => ?_)
  obtain ⟨rfl, Nq8, eq8⟩ := hQ8
  have N8 := Fr.app N6 Nq8
  show gs T8 m 33 #[vr a1, vr a2, vi at1, vi t1, vr b1, vi (at1 + w), vi u0] [(.int u1)]
  refine own_st (fun _ kS => XS.istore X8.here hx rfl (hb hby d2_33) rfl (l' := #[vr a1, vr a2, vi at1, vi t1, vr b1, vi (at1 + w), vi u1]) rfl kS) ?_
  refine oaload X8 hx hby d2_35 rfl rfl ?_
  show gs T8 m 37 #[vr a1, vr a2, vi at1, vi t1, vr b1, vi (at1 + w), vi u1] [(.ref b1)]
  suffices hJ9 : own_G p.tables e below _ (T8.setTop (mkF m 57 #[vr a1, vr a2, vi at1, vi t1, vr b1, vi (at1 + w), vi u1] [(.int (own_chr u1)), (.ref b1)])) by
    by_cases hu9 : u1 < (0 : Int32)
    · skip
      refine oiload X8 hx hby d2_37 rfl ?_
      refine own_st (fun _ kS => XS.ifYes X8.here hx rfl (pc0 := 39) (pc' := 55) rfl (hb hby d2_39) rfl ((if0 _ _).trans (tlt (hu9 : u1 < (0 : Int32))).1) (by decide) (by decide) kS) ?_
      show gs T8 m 55 #[vr a1, vr a2, vi at1, vi t1, vr b1, vi (at1 + w), vi u1] [(.ref b1)]
      refine own_st (fun _ kS => X8.ldcInt hx hown (mvT hZ (own_w hw 158 rfl)) (g := (mkF m 55 #[vr a1, vr a2, vi at1, vi t1, vr b1, vi (at1 + w), vi u1] [(.ref b1)])) rfl (hb hby d2_55) _ kS) ?_
      show gs T8 m 57 #[vr a1, vr a2, vi at1, vi t1, vr b1, vi (at1 + w), vi u1] [(.int 65533), (.ref b1)]
      rw [own_chr, if_pos hu9] at hJ9
      exact hJ9
    · skip
      by_cases hv9 : (65535 : Int32) < u1
      · skip
        refine oiload X8 hx hby d2_37 rfl ?_
        refine own_st (fun _ kS => XS.ifNo X8.here hx rfl (hb hby d2_39) rfl ((if0 _ _).trans (flt (hu9 : ¬ (u1 < (0 : Int32)))).1) kS) ?_
        show gs T8 m 42 #[vr a1, vr a2, vi at1, vi t1, vr b1, vi (at1 + w), vi u1] [(.ref b1)]
        refine oiload X8 hx hby d2_42 rfl ?_
        show gs T8 m 44 #[vr a1, vr a2, vi at1, vi t1, vr b1, vi (at1 + w), vi u1] [(.int u1), (.ref b1)]
        refine own_st (fun _ kS => X8.ldcInt hx hown (mvT hZ (own_w hw 112 rfl)) (g := (mkF m 44 #[vr a1, vr a2, vi at1, vi t1, vr b1, vi (at1 + w), vi u1] [(.int u1), (.ref b1)])) rfl (hb hby d2_44) _ kS) ?_
        show gs T8 m 46 #[vr a1, vr a2, vi at1, vi t1, vr b1, vi (at1 + w), vi u1] [(.int 65535), (.int u1), (.ref b1)]
        refine own_st (fun _ kS => XS.icmpYes X8.here hx rfl (pc0 := 46) (pc' := 55) rfl (hb hby d2_46) rfl (tlt (hv9 : (65535 : Int32) < u1)).2.2.1 (by decide) (by decide) kS) ?_
        show gs T8 m 55 #[vr a1, vr a2, vi at1, vi t1, vr b1, vi (at1 + w), vi u1] [(.ref b1)]
        refine own_st (fun _ kS => X8.ldcInt hx hown (mvT hZ (own_w hw 158 rfl)) (g := (mkF m 55 #[vr a1, vr a2, vi at1, vi t1, vr b1, vi (at1 + w), vi u1] [(.ref b1)])) rfl (hb hby d2_55) _ kS) ?_
        show gs T8 m 57 #[vr a1, vr a2, vi at1, vi t1, vr b1, vi (at1 + w), vi u1] [(.int 65533), (.ref b1)]
        rw [own_chr, if_neg hu9, if_pos hv9] at hJ9
        exact hJ9
      · skip
        refine oiload X8 hx hby d2_37 rfl ?_
        refine own_st (fun _ kS => XS.ifNo X8.here hx rfl (hb hby d2_39) rfl ((if0 _ _).trans (flt (hu9 : ¬ (u1 < (0 : Int32)))).1) kS) ?_
        show gs T8 m 42 #[vr a1, vr a2, vi at1, vi t1, vr b1, vi (at1 + w), vi u1] [(.ref b1)]
        refine oiload X8 hx hby d2_42 rfl ?_
        show gs T8 m 44 #[vr a1, vr a2, vi at1, vi t1, vr b1, vi (at1 + w), vi u1] [(.int u1), (.ref b1)]
        refine own_st (fun _ kS => X8.ldcInt hx hown (mvT hZ (own_w hw 112 rfl)) (g := (mkF m 44 #[vr a1, vr a2, vi at1, vi t1, vr b1, vi (at1 + w), vi u1] [(.int u1), (.ref b1)])) rfl (hb hby d2_44) _ kS) ?_
        show gs T8 m 46 #[vr a1, vr a2, vi at1, vi t1, vr b1, vi (at1 + w), vi u1] [(.int 65535), (.int u1), (.ref b1)]
        refine own_st (fun _ kS => XS.icmpNo X8.here hx rfl (hb hby d2_46) rfl (flt (hv9 : ¬ ((65535 : Int32) < u1))).2.2.1 kS) ?_
        show gs T8 m 49 #[vr a1, vr a2, vi at1, vi t1, vr b1, vi (at1 + w), vi u1] [(.ref b1)]
        refine oiload X8 hx hby d2_49 rfl ?_
        refine own_st (fun _ kS => XT.i2c X8.here hx rfl (hb hby d2_51) rfl kS) ?_
        refine own_st (fun _ kS => XS.goto X8.here hx rfl (pc0 := 52) (pc' := 57) rfl (hb hby d2_52) (by decide) (by decide) kS) ?_
        show gs T8 m 57 #[vr a1, vr a2, vi at1, vi t1, vr b1, vi (at1 + w), vi u1] [(.int (u1.toUInt32.toUInt16.toUInt32.toInt32)), (.ref b1)]
        rw [own_chr, if_neg hu9, if_neg hv9] at hJ9
        exact hJ9
  show gs T8 m 57 #[vr a1, vr a2, vi at1, vi t1, vr b1, vi (at1 + w), vi u1] [(.int (own_chr u1)), (.ref b1)]
  refine oV 0 X8 hx hZ hby hml hown (own_w hw 113 rfl) (own_w hw 114 rfl) (own_w hw 116 rfl) (own_w hw 115 rfl) (rm_sbApp_2_1_0_U l Z a0 hw [] b1 tN_3 kN_3 (own_chr u1) (nar .byte ((own_chr u0).toInt8.toInt32)) (0 : Int32) zCS fm T6.heap n0 (Nat.le_trans (Nat.le_trans (Nat.le_trans Z0 E1.1) Kc3.1) Kc6.1) O6 P6_0 ge_b1 P6_1 P6_2 P6_3 P6_4 ne_b1_tN_3 P6_5 ge_tN_3 S_CS P_CS S_SF P_SF S_AD S_HI S_LO hC1) (own_w hw 117 rfl) (own_w hw 16 rfl) eq8 P6_0 (by decide) own_pd24 d2_57 rfl rfl rfl (fun T10 L10 v10 X10 hQ10 => ?_)
  obtain ⟨tN_10, kN_10, rfl, Nq10, Kc10, P10_0, P10_1, P10_2, P10_3, P10_4, P10_5, P10_6, P10_7⟩ := hQ10
  have N10 := Fr.app N8 Nq10
  have ne_a2_tN_10 : a2 ≠ tN_10 := Nat.ne_of_lt (Nat.lt_of_lt_of_le (own_tabk (own_tabk (Tab.ext Tb E1) Kc3 (ninS ne_a2_b1 nin0)) Kc6 (ninS ne_a2_b1 (ninS ne_a2_tN_3 nin0))).lt P10_0)
  have ne_b1_tN_10 : b1 ≠ tN_10 := Nat.ne_of_lt (Nat.lt_of_lt_of_le P6_0.lt P10_0)
  have ne_tN_3_tN_10 : tN_3 ≠ tN_10 := Nat.ne_of_lt (Nat.lt_of_lt_of_le (P3_1.keep Kc6).lt P10_0)
  have ge_tN_10 : n0 ≤ tN_10 := Nat.le_trans (Nat.le_trans (Nat.le_trans (Nat.le_trans Z0 E1.1) Kc3.1) Kc6.1) P10_0
  have sz_tN_10 : h0.size ≤ tN_10 := Nat.le_trans K6.1 P10_0
  have K10 := K6.trans Kc10 (allS (Or.inr sz_b1) all0)
  have O10 := O6.keep Kc10 (allS ge_b1 all0)
  show gs T10 m 60 #[vr a1, vr a2, vi at1, vi t1, vr b1, vi (at1 + w), vi u1] [(.ref b1)]
  refine own_st (fun _ kS => XT.pop X10.here hx rfl (hb hby d2_60) rfl rfl kS) ?_
  refine oiload X10 hx hby d2_61 rfl ?_
  refine oaloadN X10 hx hby d2_63 rfl rfl ?_
  obtain ⟨T11, X11, e11, st11⟩ := getF X10 hx hZ hown (host := "") (Or.inl (own_w hw 17 rfl)) Via.refl rfl (Fld.ext O10.2 Fw) (g := (mkF m 64 #[vr a1, vr a2, vi at1, vi t1, vr b1, vi (at1 + w), vi u1] [(.ref a1), (.int (at1 + w))])) rfl rfl (hb hby d2_64)
  refine own_st st11 ?_
  show gs T11 m 67 #[vr a1, vr a2, vi at1, vi t1, vr b1, vi (at1 + w), vi u1] [(.int w), (.int (at1 + w))]
  refine own_st (fun _ kS => XS.iadd X11.here hx rfl (hb hby d2_67) rfl kS) ?_
  refine own_st (fun _ kS => XS.istore X11.here hx rfl (hb hby d2_68) rfl (l' := #[vr a1, vr a2, vi at1, vi t1, vr b1, vi ((at1 + w) + w), vi u1]) rfl kS) ?_
  refine own_st (fun _ kS => XS.goto X11.here hx rfl (pc0 := 70) (pc' := 20) rfl (hb hby d2_70) (by decide) (by decide) kS) ?_
  refine oiload X11 hx hby d2_20 rfl ?_
  refine oiloadN X11 hx hby d2_22 rfl ?_
  refine own_st (fun _ kS => XS.icmpYes X11.here hx rfl (pc0 := 23) (pc' := 73) rfl (hb hby d2_23) rfl (flt (own_m3 hr : ¬ (((at1 + w) + w) < t1))).2.1 (by decide) (by decide) kS) ?_
  show gs T11 m 73 #[vr a1, vr a2, vi at1, vi t1, vr b1, vi ((at1 + w) + w), vi u1] []
  refine oaload X11 hx hby d2_73 rfl rfl ?_
  refine oV 0 X11 hx hZ hby hml hown (own_w hw 37 rfl) (own_w hw 38 rfl) (own_w hw 40 rfl) (own_w hw 39 rfl) (rm_toStr_2_1 l Z a0 hw [] b1 tN_10 kN_10 (nar .byte ((((nar .byte ((own_chr u0).toInt8.toInt32)) &&& (255 : Int32)) >>> ((0 : Int32) &&& 31)).toInt8.toInt32)) (nar .byte ((((nar .byte ((own_chr u0).toInt8.toInt32)) &&& (255 : Int32)) >>> ((8 : Int32) &&& 31)).toInt8.toInt32)) (nar .byte (((own_chr u1) >>> ((0 : Int32) &&& 31)).toInt8.toInt32)) (nar .byte (((own_chr u1) >>> ((8 : Int32) &&& 31)).toInt8.toInt32)) zCS T10.heap n0 (Nat.le_trans (Nat.le_trans (Nat.le_trans (Nat.le_trans Z0 E1.1) Kc3.1) Kc6.1) Kc10.1) O10 P10_2 P10_3 P10_4 P10_5 P10_6 P10_7 P10_1 S_CS P_CS) (own_w hw 41 rfl) (own_w hw 16 rfl) e11 P10_2 (by decide) own_pd21 d2_75 rfl rfl rfl (fun T12 L12 v12 X12 hQ12 => ?_)
  obtain ⟨bS_12, tN_12, rfl, Nq12, Kc12, P12_0, P12_1, P12_2, P12_3, P12_4, P12_5, P12_6⟩ := hQ12
  have N12 := Fr.app N10 Nq12
  have ne_a2_bS_12 : a2 ≠ bS_12 := Nat.ne_of_lt (Nat.lt_of_lt_of_le (own_tabk (own_tabk (own_tabk (Tab.ext Tb E1) Kc3 (ninS ne_a2_b1 nin0)) Kc6 (ninS ne_a2_b1 (ninS ne_a2_tN_3 nin0))) Kc10 (ninS ne_a2_b1 nin0)).lt P12_0)
  have ne_b1_bS_12 : b1 ≠ bS_12 := Nat.ne_of_lt (Nat.lt_of_lt_of_le P10_2.lt P12_0)
  have ne_tN_3_bS_12 : tN_3 ≠ bS_12 := Nat.ne_of_lt (Nat.lt_of_lt_of_le ((P3_1.keep Kc6).keep Kc10).lt P12_0)
  have ne_tN_10_bS_12 : tN_10 ≠ bS_12 := Nat.ne_of_lt (Nat.lt_of_lt_of_le P10_1.lt P12_0)
  have ge_bS_12 : n0 ≤ bS_12 := Nat.le_trans (Nat.le_trans (Nat.le_trans (Nat.le_trans (Nat.le_trans Z0 E1.1) Kc3.1) Kc6.1) Kc10.1) P12_0
  have sz_bS_12 : h0.size ≤ bS_12 := Nat.le_trans K10.1 P12_0
  have ne_a2_tN_12 : a2 ≠ tN_12 := Nat.ne_of_lt (Nat.lt_of_lt_of_le (own_tabk (own_tabk (own_tabk (Tab.ext Tb E1) Kc3 (ninS ne_a2_b1 nin0)) Kc6 (ninS ne_a2_b1 (ninS ne_a2_tN_3 nin0))) Kc10 (ninS ne_a2_b1 nin0)).lt P12_1)
  have ne_b1_tN_12 : b1 ≠ tN_12 := Nat.ne_of_lt (Nat.lt_of_lt_of_le P10_2.lt P12_1)
  have ne_tN_3_tN_12 : tN_3 ≠ tN_12 := Nat.ne_of_lt (Nat.lt_of_lt_of_le ((P3_1.keep Kc6).keep Kc10).lt P12_1)
  have ne_tN_10_tN_12 : tN_10 ≠ tN_12 := Nat.ne_of_lt (Nat.lt_of_lt_of_le P10_1.lt P12_1)
  have ge_tN_12 : n0 ≤ tN_12 := Nat.le_trans (Nat.le_trans (Nat.le_trans (Nat.le_trans (Nat.le_trans Z0 E1.1) Kc3.1) Kc6.1) Kc10.1) P12_1
  have sz_tN_12 : h0.size ≤ tN_12 := Nat.le_trans K10.1 P12_1
  have K12 := K10.trans Kc12 all0
  have O12 := O10.keep Kc12 all0
  show gs T12 m 78 #[vr a1, vr a2, vi at1, vi t1, vr b1, vi ((at1 + w) + w), vi u1] [(.ref bS_12)]
  exact own_retA X12 hx hlk hret rfl rfl (hb hby d2_78) (by decide) (by decide) (show Q_dec_2_LU Z a1 a2 cB at1 t1 w le u0 u1 zCS fm h0 n0 _ _ _ from ⟨bS_12, tN_12, kN_10, ⟨rfl, N12, K12, P12_3, P12_4, P12_5, P12_6⟩⟩)
theorem ef_sLen_2_1 (m : MethodId) (x0 : Addr) : entryFrame m #[(.ref x0)] 1 = mkF m 0 #[.val (.ref x0)] [] := by first | (simp [entryFrame, mkF, argsToLocals, Value.category]; done) | rfl
def Q_sLen_2_1 (Z : State) (aS : Addr) (tA : Addr) (kA : ClassId) (y0 : Int32) (y1 : Int32) (y2 : Int32) (y3 : Int32) (zCS : Int32) (h0 : Heap) (n0 : Nat) (v : Option Value) (h : Heap) (L : List Loc) : Prop := v = some (.int 2) ∧ Fr n0 L ∧ h = h0
theorem rm_sLen_2_1 (l : Launch) (Z : State) (a0 : Array Value) (hw : HW a0 Z) (ws : List Jvm.Cond) (aS : Addr) (tA : Addr) (kA : ClassId) (y0 : Int32) (y1 : Int32) (y2 : Int32) (y3 : Int32) (zCS : Int32) (h0 : Heap) (n0 : Nat) (Z0 : n0 ≤ h0.size) (O0 : Old Z n0 h0) (E_0 : ek21 Z h0 aS) (F0v : fk16 Z h0 aS (.ref tA)) (F0c : fk15 Z h0 aS (.int 1)) (R_A : Arv Z h0 tA kA .byte (4 : Int32) [(.int y0), (.int y1), (.int y2), (.int y3)] (.int 0)) (S_CS : sk0 Z Z.heap (.int zCS)) (P_CS : ¬ zCS = 0) :
    M33 l ws (rmk 1 0 0 13) Z #[(.ref aS)] h0 (Q_sLen_2_1 Z aS tA kA y0 y1 y2 y3 zCS h0 n0) := by
  refine own_go "java/lang/String" rfl (plainFor_of_name pn_14) (fun m => ef_sLen_2_1 m aS) (fun p e s m below meth c s₁ hx hby hml hown hnm hlk hret hZ X0 e0 => ?_)
  have N0 := Fr.nil n0
  show gs s₁ m 0 #[vr aS] []
  refine oaloadN X0 hx hby d14_0 rfl rfl ?_
  obtain ⟨T1, X1, e1, st1⟩ := getF X0 hx hZ hown (host := "") (Or.inl (own_w hw 88 rfl)) Via.refl e0 F0v (g := (mkF m 1 #[vr aS] [(.ref aS)])) rfl rfl (hb hby d14_1)
  refine own_st st1 ?_
  show gs T1 m 4 #[vr aS] [(.ref tA)]
  obtain ⟨cl2, Ar2, qa2, qs2, qn2, qh2, qg2⟩ := id R_A
  refine own_st (fun _ kS => X1.arraylength hx (by rw [e1]; exact Ar2.1) (State.isArrayOf_alike hZ.alike Ar2.2.1) (g := (mkF m 4 #[vr aS] [(.ref tA)])) rfl rfl (hb hby d14_4) _ kS) ?_
  rw [len_of qs2 qn2]
  show gs T1 m 5 #[vr aS] [(.int 4)]
  refine oaloadN X1 hx hby d14_5 rfl rfl ?_
  refine oV 1 X1 hx hZ hby hml hown (own_w hw 95 rfl) (own_w hw 96 rfl) (own_w hw 98 rfl) (own_w hw 97 rfl) (rm_coder_1 l Z a0 hw [] aS zCS h0 n0 Z0 O0 S_CS P_CS F0c) (own_w hw 99 rfl) (own_w hw 32 rfl) e1 E_0 (by decide) own_pd22 d14_6 rfl rfl rfl (fun T3 L3 v3 X3 hQ3 => ?_)
  obtain ⟨rfl, Nq3, eq3⟩ := hQ3
  have N3 := Fr.app N0 Nq3
  show gs T3 m 9 #[vr aS] [(.int 1), (.int 4)]
  refine own_st (fun _ kS => XT.ishr X3.here hx rfl (hb hby d14_9) rfl kS) ?_
  show gs T3 m 10 #[vr aS] [(.int 2)]
  exact own_retI X3 hx hlk hret (hb hby d14_10) (by decide) (by decide) (by rw [eq3]; exact ⟨rfl, N3, rfl⟩)
theorem ef_getc_2_0 (m : MethodId) (x0 : Addr) : entryFrame m #[(.ref x0), (.int 0)] 2 = mkF m 0 #[.val (.ref x0), .val (.int 0)] [] := by first | (simp [entryFrame, mkF, argsToLocals, Value.category]; done) | rfl
def Q_getc_2_0 (Z : State) (tA : Addr) (kA : ClassId) (y0 : Int32) (y1 : Int32) (y2 : Int32) (y3 : Int32) (h0 : Heap) (n0 : Nat) (v : Option Value) (h : Heap) (L : List Loc) : Prop := v = some (.int (own_u16 y0 y1)) ∧ Fr n0 L ∧ h = h0
theorem rm_getc_2_0 (l : Launch) (Z : State) (a0 : Array Value) (hw : HW a0 Z) (ws : List Jvm.Cond) (tA : Addr) (kA : ClassId) (y0 : Int32) (y1 : Int32) (y2 : Int32) (y3 : Int32) (h0 : Heap) (n0 : Nat) (Z0 : n0 ≤ h0.size) (O0 : Old Z n0 h0) (R_A : Arv Z h0 tA kA .byte (4 : Int32) [(.int y0), (.int y1), (.int y2), (.int y3)] (.int 0)) (S_AD : sk1 Z Z.heap (.int 1)) (S_HI : sk2 Z Z.heap (.int 0)) (S_LO : sk3 Z Z.heap (.int 8)) :
    M37 l ws (rmk 0 0 0 0) Z #[(.ref tA), (.int 0)] h0 (Q_getc_2_0 Z tA kA y0 y1 y2 y3 h0 n0) := by
  refine own_go "java/lang/StringUTF16" rfl (plainFor_of_name pn_40) (fun m => ef_getc_2_0 m tA) (fun p e s m below meth c s₁ hx hby hml hown hnm hlk hret hZ X0 e0 => ?_)
  have N0 := Fr.nil n0
  show gs s₁ m 0 #[vr tA, vi 0] []
  obtain ⟨T1, X1, e1, st1⟩ := getS2 X0 hx hZ hown (host := "") (Or.inl (own_w hw 200 rfl)) Via.refl e0 (Sta.ext O0.2 S_AD) (g := (mkF m 0 #[vr tA, vi 0] [])) rfl (hb hby d40_0)
  refine own_st st1 ?_
  show gs T1 m 3 #[vr tA, vi 0] [(.int 1)]
  refine own_st (fun _ kS => XS.ifYes X1.here hx rfl (pc0 := 3) (pc' := 28) rfl (hb hby d40_3) rfl ((if0 _ _).trans (feq (by decide : ¬ ((1 : Int32) = (0 : Int32)))).2) (by decide) (by decide) kS) ?_
  show gs T1 m 28 #[vr tA, vi 0] []
  refine oiloadN X1 hx hby d40_28 rfl ?_
  refine oiconst X1 hx hby d40_29 ?_
  refine own_st (fun _ kS => XT.ishl X1.here hx rfl (hb hby d40_30) rfl kS) ?_
  refine own_st (fun _ kS => XS.istoreN X1.here hx rfl (hb hby d40_31) rfl (l' := #[vr tA, vi 0]) rfl kS) ?_
  refine oaloadN X1 hx hby d40_32 rfl rfl ?_
  refine oiloadN X1 hx hby d40_33 rfl ?_
  refine own_st (fun _ kS => XS.iinc X1.here hx rfl (hb hby d40_34) rfl (l' := #[vr tA, vi 1]) rfl kS) ?_
  show gs T1 m 37 #[vr tA, vi 1] [(.int 0), (.ref tA)]
  obtain ⟨cl2, Ar2, qa2, qs2, qn2, qh2, qg2⟩ := id R_A
  refine own_st (fun _ kS => X1.baloadBytes hx (j := (0 : Int32)) (v := (.int y0)) (by rw [e1]; exact Ar2.1) (State.isArrayOf_alike hZ.alike Ar2.2.1) Ar2.2.2 (inb_of qs2 ⟨by decide, by decide⟩) (qh2.at (inb_of qs2 ⟨by decide, by decide⟩) rfl) (g := (mkF m 37 #[vr tA, vi 1] [(.int 0), (.ref tA)])) rfl rfl (hb hby d40_37) _ kS) ?_
  show gs T1 m 38 #[vr tA, vi 1] [(.int y0)]
  refine own_st (fun _ kS => XS.sipush X1.here hx rfl (hb hby d40_38) kS) ?_
  refine own_st (fun _ kS => XS.iand X1.here hx rfl (hb hby d40_41) rfl kS) ?_
  show gs T1 m 42 #[vr tA, vi 1] [(.int (y0 &&& (255 : Int32)))]
  obtain ⟨T3, X3, e3, st3⟩ := getS2 X1 hx hZ hown (host := "") (Or.inl (own_w hw 201 rfl)) Via.refl e1 (Sta.ext O0.2 S_HI) (g := (mkF m 42 #[vr tA, vi 1] [(.int (y0 &&& (255 : Int32)))])) rfl (hb hby d40_42)
  refine own_st st3 ?_
  show gs T3 m 45 #[vr tA, vi 1] [(.int 0), (.int (y0 &&& (255 : Int32)))]
  refine own_st (fun _ kS => XT.ishl X3.here hx rfl (hb hby d40_45) rfl kS) ?_
  refine oaloadN X3 hx hby d40_46 rfl rfl ?_
  refine oiloadN X3 hx hby d40_47 rfl ?_
  show gs T3 m 48 #[vr tA, vi 1] [(.int 1), (.ref tA), (.int ((y0 &&& (255 : Int32)) <<< ((0 : Int32) &&& 31)))]
  obtain ⟨cl4, Ar4, qa4, qs4, qn4, qh4, qg4⟩ := id R_A
  refine own_st (fun _ kS => X3.baloadBytes hx (j := (1 : Int32)) (v := (.int y1)) (by rw [e3]; exact Ar4.1) (State.isArrayOf_alike hZ.alike Ar4.2.1) Ar4.2.2 (inb_of qs4 ⟨by decide, by decide⟩) (qh4.at (inb_of qs4 ⟨by decide, by decide⟩) rfl) (g := (mkF m 48 #[vr tA, vi 1] [(.int 1), (.ref tA), (.int ((y0 &&& (255 : Int32)) <<< ((0 : Int32) &&& 31)))])) rfl rfl (hb hby d40_48) _ kS) ?_
  show gs T3 m 49 #[vr tA, vi 1] [(.int y1), (.int ((y0 &&& (255 : Int32)) <<< ((0 : Int32) &&& 31)))]
  refine own_st (fun _ kS => XS.sipush X3.here hx rfl (hb hby d40_49) kS) ?_
  refine own_st (fun _ kS => XS.iand X3.here hx rfl (hb hby d40_52) rfl kS) ?_
  show gs T3 m 53 #[vr tA, vi 1] [(.int (y1 &&& (255 : Int32))), (.int ((y0 &&& (255 : Int32)) <<< ((0 : Int32) &&& 31)))]
  obtain ⟨T5, X5, e5, st5⟩ := getS2 X3 hx hZ hown (host := "") (Or.inl (own_w hw 202 rfl)) Via.refl e3 (Sta.ext O0.2 S_LO) (g := (mkF m 53 #[vr tA, vi 1] [(.int (y1 &&& (255 : Int32))), (.int ((y0 &&& (255 : Int32)) <<< ((0 : Int32) &&& 31)))])) rfl (hb hby d40_53)
  refine own_st st5 ?_
  show gs T5 m 56 #[vr tA, vi 1] [(.int 8), (.int (y1 &&& (255 : Int32))), (.int ((y0 &&& (255 : Int32)) <<< ((0 : Int32) &&& 31)))]
  refine own_st (fun _ kS => XT.ishl X5.here hx rfl (hb hby d40_56) rfl kS) ?_
  refine own_st (fun _ kS => XT.ior X5.here hx rfl (hb hby d40_57) rfl kS) ?_
  refine own_st (fun _ kS => XT.i2c X5.here hx rfl (hb hby d40_58) rfl kS) ?_
  show gs T5 m 59 #[vr tA, vi 1] [(.int ((((y0 &&& (255 : Int32)) <<< ((0 : Int32) &&& 31)) ||| ((y1 &&& (255 : Int32)) <<< ((8 : Int32) &&& 31))).toUInt32.toUInt16.toUInt32.toInt32))]
  exact own_retN X5 hx hlk (t := .char) hret (by simp) (hb hby d40_59) (by decide) (by decide) (v' := (own_u16 y0 y1)) rfl (by rw [e5]; exact ⟨(by simp []), N0, rfl⟩)
theorem ef_u16chat_2_0 (m : MethodId) (x0 : Addr) : entryFrame m #[(.ref x0), (.int 0)] 2 = mkF m 0 #[.val (.ref x0), .val (.int 0)] [] := by first | (simp [entryFrame, mkF, argsToLocals, Value.category]; done) | rfl
def Q_u16chat_2_0 (Z : State) (tA : Addr) (kA : ClassId) (y0 : Int32) (y1 : Int32) (y2 : Int32) (y3 : Int32) (fm : Value) (h0 : Heap) (n0 : Nat) (v : Option Value) (h : Heap) (L : List Loc) : Prop := v = some (.int (own_u16 y0 y1)) ∧ Fr n0 L ∧ h = h0
theorem rm_u16chat_2_0 (l : Launch) (Z : State) (a0 : Array Value) (hw : HW a0 Z) (ws : List Jvm.Cond) (tA : Addr) (kA : ClassId) (y0 : Int32) (y1 : Int32) (y2 : Int32) (y3 : Int32) (fm : Value) (h0 : Heap) (n0 : Nat) (Z0 : n0 ≤ h0.size) (O0 : Old Z n0 h0) (R_A : Arv Z h0 tA kA .byte (4 : Int32) [(.int y0), (.int y1), (.int y2), (.int y3)] (.int 0)) (S_SF : sk4 Z Z.heap fm) (P_SF : fm.isRef = true) (S_AD : sk1 Z Z.heap (.int 1)) (S_HI : sk2 Z Z.heap (.int 0)) (S_LO : sk3 Z Z.heap (.int 8)) :
    M38 l ws (rmk 3 0 0 40) Z #[(.ref tA), (.int 0)] h0 (Q_u16chat_2_0 Z tA kA y0 y1 y2 y3 fm h0 n0) := by
  refine own_go "java/lang/StringUTF16" rfl (plainFor_of_name pn_39) (fun m => ef_u16chat_2_0 m tA) (fun p e s m below meth c s₁ hx hby hml hown hnm hlk hret hZ X0 e0 => ?_)
  have N0 := Fr.nil n0
  show gs s₁ m 0 #[vr tA, vi 0] []
  refine oiloadN X0 hx hby d39_0 rfl ?_
  refine oaloadN X0 hx hby d39_1 rfl rfl ?_
  refine oS 0 X0 hx hZ hby hml hown (own_w hw 193 rfl) (own_w hw 194 rfl) (own_w hw 166 rfl) (own_w hw 195 rfl) (rm_uchk_0_2 l Z a0 hw [] tA kA y0 y1 y2 y3 fm h0 n0 Z0 O0 R_A S_SF P_SF) e0 (by decide) own_pd4 d39_2 rfl rfl rfl (fun T1 L1 v1 X1 hQ1 => ?_)
  obtain ⟨rfl, Nq1, eq1⟩ := hQ1
  have N1 := Fr.app N0 Nq1
  show gs T1 m 5 #[vr tA, vi 0] []
  refine oaloadN X1 hx hby d39_5 rfl rfl ?_
  refine oiloadN X1 hx hby d39_6 rfl ?_
  refine oS 0 X1 hx hZ hby hml hown (own_w hw 208 rfl) (own_w hw 209 rfl) (own_w hw 166 rfl) (own_w hw 210 rfl) (rm_getc_2_0 l Z a0 hw [] tA kA y0 y1 y2 y3 h0 n0 Z0 O0 R_A S_AD S_HI S_LO) eq1 (by decide) own_pd25 d39_7 rfl rfl rfl (fun T2 L2 v2 X2 hQ2 => ?_)
  obtain ⟨rfl, Nq2, eq2⟩ := hQ2
  have N2 := Fr.app N1 Nq2
  show gs T2 m 10 #[vr tA, vi 0] [(.int (own_u16 y0 y1))]
  exact own_retN X2 hx hlk (t := .char) hret (by simp) (hb hby d39_10) (by decide) (by decide) (v' := (own_u16 y0 y1)) (own_nu16 _ _) (by rw [eq2]; exact ⟨rfl, N2, rfl⟩)
theorem ef_chAt_2_1_0 (m : MethodId) (x0 : Addr) : entryFrame m #[(.ref x0), (.int 0)] 2 = mkF m 0 #[.val (.ref x0), .val (.int 0)] [] := by first | (simp [entryFrame, mkF, argsToLocals, Value.category]; done) | rfl
def Q_chAt_2_1_0 (Z : State) (aS : Addr) (tA : Addr) (kA : ClassId) (y0 : Int32) (y1 : Int32) (y2 : Int32) (y3 : Int32) (zCS : Int32) (fm : Value) (h0 : Heap) (n0 : Nat) (v : Option Value) (h : Heap) (L : List Loc) : Prop := v = some (.int (own_u16 y0 y1)) ∧ Fr n0 L ∧ h = h0
theorem rm_chAt_2_1_0 (l : Launch) (Z : State) (a0 : Array Value) (hw : HW a0 Z) (ws : List Jvm.Cond) (aS : Addr) (tA : Addr) (kA : ClassId) (y0 : Int32) (y1 : Int32) (y2 : Int32) (y3 : Int32) (zCS : Int32) (fm : Value) (h0 : Heap) (n0 : Nat) (Z0 : n0 ≤ h0.size) (O0 : Old Z n0 h0) (E_0 : ek21 Z h0 aS) (F0v : fk16 Z h0 aS (.ref tA)) (F0c : fk15 Z h0 aS (.int 1)) (R_A : Arv Z h0 tA kA .byte (4 : Int32) [(.int y0), (.int y1), (.int y2), (.int y3)] (.int 0)) (S_CS : sk0 Z Z.heap (.int zCS)) (P_CS : ¬ zCS = 0) (S_SF : sk4 Z Z.heap fm) (P_SF : fm.isRef = true) (S_AD : sk1 Z Z.heap (.int 1)) (S_HI : sk2 Z Z.heap (.int 0)) (S_LO : sk3 Z Z.heap (.int 8)) :
    M36 l ws (rmk 4 0 0 53) Z #[(.ref aS), (.int 0)] h0 (Q_chAt_2_1_0 Z aS tA kA y0 y1 y2 y3 zCS fm h0 n0) := by
  refine own_go "java/lang/String" rfl (plainFor_of_name pn_21) (fun m => ef_chAt_2_1_0 m aS) (fun p e s m below meth c s₁ hx hby hml hown hnm hlk hret hZ X0 e0 => ?_)
  have N0 := Fr.nil n0
  show gs s₁ m 0 #[vr aS, vi 0] []
  refine oaloadN X0 hx hby d21_0 rfl rfl ?_
  refine oV 0 X0 hx hZ hby hml hown (own_w hw 137 rfl) (own_w hw 138 rfl) (own_w hw 140 rfl) (own_w hw 139 rfl) (rm_sLat_1 l Z a0 hw [] aS zCS h0 n0 Z0 O0 S_CS P_CS F0c) (own_w hw 141 rfl) (own_w hw 32 rfl) e0 E_0 (by decide) own_pd11 d21_1 rfl rfl rfl (fun T1 L1 v1 X1 hQ1 => ?_)
  obtain ⟨rfl, Nq1, eq1⟩ := hQ1
  have N1 := Fr.app N0 Nq1
  show gs T1 m 4 #[vr aS, vi 0] [(.int 0)]
  refine own_st (fun _ kS => XS.ifYes X1.here hx rfl (pc0 := 4) (pc' := 16) rfl (hb hby d21_4) rfl ((if0 _ _).trans (teq (by decide : (0 : Int32) = (0 : Int32))).1) (by decide) (by decide) kS) ?_
  show gs T1 m 16 #[vr aS, vi 0] []
  refine oaloadN X1 hx hby d21_16 rfl rfl ?_
  obtain ⟨T2, X2, e2, st2⟩ := getF X1 hx hZ hown (host := "") (Or.inl (own_w hw 88 rfl)) Via.refl eq1 F0v (g := (mkF m 17 #[vr aS, vi 0] [(.ref aS)])) rfl rfl (hb hby d21_17)
  refine own_st st2 ?_
  show gs T2 m 20 #[vr aS, vi 0] [(.ref tA)]
  refine oiloadN X2 hx hby d21_20 rfl ?_
  refine oS 0 X2 hx hZ hby hml hown (own_w hw 205 rfl) (own_w hw 206 rfl) (own_w hw 166 rfl) (own_w hw 207 rfl) (rm_u16chat_2_0 l Z a0 hw [] tA kA y0 y1 y2 y3 fm h0 n0 Z0 O0 R_A S_SF P_SF S_AD S_HI S_LO) e2 (by decide) own_pd25 d21_21 rfl rfl rfl (fun T3 L3 v3 X3 hQ3 => ?_)
  obtain ⟨rfl, Nq3, eq3⟩ := hQ3
  have N3 := Fr.app N1 Nq3
  show gs T3 m 24 #[vr aS, vi 0] [(.int (own_u16 y0 y1))]
  exact own_retN X3 hx hlk (t := .char) hret (by simp) (hb hby d21_24) (by decide) (by decide) (v' := (own_u16 y0 y1)) (own_nu16 _ _) (by rw [eq3]; exact ⟨rfl, N3, rfl⟩)
theorem ef_getc_2_1 (m : MethodId) (x0 : Addr) : entryFrame m #[(.ref x0), (.int 1)] 2 = mkF m 0 #[.val (.ref x0), .val (.int 1)] [] := by first | (simp [entryFrame, mkF, argsToLocals, Value.category]; done) | rfl
def Q_getc_2_1 (Z : State) (tA : Addr) (kA : ClassId) (y0 : Int32) (y1 : Int32) (y2 : Int32) (y3 : Int32) (h0 : Heap) (n0 : Nat) (v : Option Value) (h : Heap) (L : List Loc) : Prop := v = some (.int (own_u16 y2 y3)) ∧ Fr n0 L ∧ h = h0
theorem rm_getc_2_1 (l : Launch) (Z : State) (a0 : Array Value) (hw : HW a0 Z) (ws : List Jvm.Cond) (tA : Addr) (kA : ClassId) (y0 : Int32) (y1 : Int32) (y2 : Int32) (y3 : Int32) (h0 : Heap) (n0 : Nat) (Z0 : n0 ≤ h0.size) (O0 : Old Z n0 h0) (R_A : Arv Z h0 tA kA .byte (4 : Int32) [(.int y0), (.int y1), (.int y2), (.int y3)] (.int 0)) (S_AD : sk1 Z Z.heap (.int 1)) (S_HI : sk2 Z Z.heap (.int 0)) (S_LO : sk3 Z Z.heap (.int 8)) :
    M37 l ws (rmk 0 0 0 0) Z #[(.ref tA), (.int 1)] h0 (Q_getc_2_1 Z tA kA y0 y1 y2 y3 h0 n0) := by
  refine own_go "java/lang/StringUTF16" rfl (plainFor_of_name pn_40) (fun m => ef_getc_2_1 m tA) (fun p e s m below meth c s₁ hx hby hml hown hnm hlk hret hZ X0 e0 => ?_)
  have N0 := Fr.nil n0
  show gs s₁ m 0 #[vr tA, vi 1] []
  obtain ⟨T1, X1, e1, st1⟩ := getS2 X0 hx hZ hown (host := "") (Or.inl (own_w hw 200 rfl)) Via.refl e0 (Sta.ext O0.2 S_AD) (g := (mkF m 0 #[vr tA, vi 1] [])) rfl (hb hby d40_0)
  refine own_st st1 ?_
  show gs T1 m 3 #[vr tA, vi 1] [(.int 1)]
  refine own_st (fun _ kS => XS.ifYes X1.here hx rfl (pc0 := 3) (pc' := 28) rfl (hb hby d40_3) rfl ((if0 _ _).trans (feq (by decide : ¬ ((1 : Int32) = (0 : Int32)))).2) (by decide) (by decide) kS) ?_
  show gs T1 m 28 #[vr tA, vi 1] []
  refine oiloadN X1 hx hby d40_28 rfl ?_
  refine oiconst X1 hx hby d40_29 ?_
  refine own_st (fun _ kS => XT.ishl X1.here hx rfl (hb hby d40_30) rfl kS) ?_
  refine own_st (fun _ kS => XS.istoreN X1.here hx rfl (hb hby d40_31) rfl (l' := #[vr tA, vi 2]) rfl kS) ?_
  refine oaloadN X1 hx hby d40_32 rfl rfl ?_
  refine oiloadN X1 hx hby d40_33 rfl ?_
  refine own_st (fun _ kS => XS.iinc X1.here hx rfl (hb hby d40_34) rfl (l' := #[vr tA, vi 3]) rfl kS) ?_
  show gs T1 m 37 #[vr tA, vi 3] [(.int 2), (.ref tA)]
  obtain ⟨cl2, Ar2, qa2, qs2, qn2, qh2, qg2⟩ := id R_A
  refine own_st (fun _ kS => X1.baloadBytes hx (j := (2 : Int32)) (v := (.int y2)) (by rw [e1]; exact Ar2.1) (State.isArrayOf_alike hZ.alike Ar2.2.1) Ar2.2.2 (inb_of qs2 ⟨by decide, by decide⟩) (qh2.at (inb_of qs2 ⟨by decide, by decide⟩) rfl) (g := (mkF m 37 #[vr tA, vi 3] [(.int 2), (.ref tA)])) rfl rfl (hb hby d40_37) _ kS) ?_
  show gs T1 m 38 #[vr tA, vi 3] [(.int y2)]
  refine own_st (fun _ kS => XS.sipush X1.here hx rfl (hb hby d40_38) kS) ?_
  refine own_st (fun _ kS => XS.iand X1.here hx rfl (hb hby d40_41) rfl kS) ?_
  show gs T1 m 42 #[vr tA, vi 3] [(.int (y2 &&& (255 : Int32)))]
  obtain ⟨T3, X3, e3, st3⟩ := getS2 X1 hx hZ hown (host := "") (Or.inl (own_w hw 201 rfl)) Via.refl e1 (Sta.ext O0.2 S_HI) (g := (mkF m 42 #[vr tA, vi 3] [(.int (y2 &&& (255 : Int32)))])) rfl (hb hby d40_42)
  refine own_st st3 ?_
  show gs T3 m 45 #[vr tA, vi 3] [(.int 0), (.int (y2 &&& (255 : Int32)))]
  refine own_st (fun _ kS => XT.ishl X3.here hx rfl (hb hby d40_45) rfl kS) ?_
  refine oaloadN X3 hx hby d40_46 rfl rfl ?_
  refine oiloadN X3 hx hby d40_47 rfl ?_
  show gs T3 m 48 #[vr tA, vi 3] [(.int 3), (.ref tA), (.int ((y2 &&& (255 : Int32)) <<< ((0 : Int32) &&& 31)))]
  obtain ⟨cl4, Ar4, qa4, qs4, qn4, qh4, qg4⟩ := id R_A
  refine own_st (fun _ kS => X3.baloadBytes hx (j := (3 : Int32)) (v := (.int y3)) (by rw [e3]; exact Ar4.1) (State.isArrayOf_alike hZ.alike Ar4.2.1) Ar4.2.2 (inb_of qs4 ⟨by decide, by decide⟩) (qh4.at (inb_of qs4 ⟨by decide, by decide⟩) rfl) (g := (mkF m 48 #[vr tA, vi 3] [(.int 3), (.ref tA), (.int ((y2 &&& (255 : Int32)) <<< ((0 : Int32) &&& 31)))])) rfl rfl (hb hby d40_48) _ kS) ?_
  show gs T3 m 49 #[vr tA, vi 3] [(.int y3), (.int ((y2 &&& (255 : Int32)) <<< ((0 : Int32) &&& 31)))]
  refine own_st (fun _ kS => XS.sipush X3.here hx rfl (hb hby d40_49) kS) ?_
  refine own_st (fun _ kS => XS.iand X3.here hx rfl (hb hby d40_52) rfl kS) ?_
  show gs T3 m 53 #[vr tA, vi 3] [(.int (y3 &&& (255 : Int32))), (.int ((y2 &&& (255 : Int32)) <<< ((0 : Int32) &&& 31)))]
  obtain ⟨T5, X5, e5, st5⟩ := getS2 X3 hx hZ hown (host := "") (Or.inl (own_w hw 202 rfl)) Via.refl e3 (Sta.ext O0.2 S_LO) (g := (mkF m 53 #[vr tA, vi 3] [(.int (y3 &&& (255 : Int32))), (.int ((y2 &&& (255 : Int32)) <<< ((0 : Int32) &&& 31)))])) rfl (hb hby d40_53)
  refine own_st st5 ?_
  show gs T5 m 56 #[vr tA, vi 3] [(.int 8), (.int (y3 &&& (255 : Int32))), (.int ((y2 &&& (255 : Int32)) <<< ((0 : Int32) &&& 31)))]
  refine own_st (fun _ kS => XT.ishl X5.here hx rfl (hb hby d40_56) rfl kS) ?_
  refine own_st (fun _ kS => XT.ior X5.here hx rfl (hb hby d40_57) rfl kS) ?_
  refine own_st (fun _ kS => XT.i2c X5.here hx rfl (hb hby d40_58) rfl kS) ?_
  show gs T5 m 59 #[vr tA, vi 3] [(.int ((((y2 &&& (255 : Int32)) <<< ((0 : Int32) &&& 31)) ||| ((y3 &&& (255 : Int32)) <<< ((8 : Int32) &&& 31))).toUInt32.toUInt16.toUInt32.toInt32))]
  exact own_retN X5 hx hlk (t := .char) hret (by simp) (hb hby d40_59) (by decide) (by decide) (v' := (own_u16 y2 y3)) rfl (by rw [e5]; exact ⟨(by simp []), N0, rfl⟩)
theorem ef_u16chat_2_1 (m : MethodId) (x0 : Addr) : entryFrame m #[(.ref x0), (.int 1)] 2 = mkF m 0 #[.val (.ref x0), .val (.int 1)] [] := by first | (simp [entryFrame, mkF, argsToLocals, Value.category]; done) | rfl
def Q_u16chat_2_1 (Z : State) (tA : Addr) (kA : ClassId) (y0 : Int32) (y1 : Int32) (y2 : Int32) (y3 : Int32) (fm : Value) (h0 : Heap) (n0 : Nat) (v : Option Value) (h : Heap) (L : List Loc) : Prop := v = some (.int (own_u16 y2 y3)) ∧ Fr n0 L ∧ h = h0
theorem rm_u16chat_2_1 (l : Launch) (Z : State) (a0 : Array Value) (hw : HW a0 Z) (ws : List Jvm.Cond) (tA : Addr) (kA : ClassId) (y0 : Int32) (y1 : Int32) (y2 : Int32) (y3 : Int32) (fm : Value) (h0 : Heap) (n0 : Nat) (Z0 : n0 ≤ h0.size) (O0 : Old Z n0 h0) (R_A : Arv Z h0 tA kA .byte (4 : Int32) [(.int y0), (.int y1), (.int y2), (.int y3)] (.int 0)) (S_SF : sk4 Z Z.heap fm) (P_SF : fm.isRef = true) (S_AD : sk1 Z Z.heap (.int 1)) (S_HI : sk2 Z Z.heap (.int 0)) (S_LO : sk3 Z Z.heap (.int 8)) :
    M38 l ws (rmk 3 0 0 40) Z #[(.ref tA), (.int 1)] h0 (Q_u16chat_2_1 Z tA kA y0 y1 y2 y3 fm h0 n0) := by
  refine own_go "java/lang/StringUTF16" rfl (plainFor_of_name pn_39) (fun m => ef_u16chat_2_1 m tA) (fun p e s m below meth c s₁ hx hby hml hown hnm hlk hret hZ X0 e0 => ?_)
  have N0 := Fr.nil n0
  show gs s₁ m 0 #[vr tA, vi 1] []
  refine oiloadN X0 hx hby d39_0 rfl ?_
  refine oaloadN X0 hx hby d39_1 rfl rfl ?_
  refine oS 0 X0 hx hZ hby hml hown (own_w hw 193 rfl) (own_w hw 194 rfl) (own_w hw 166 rfl) (own_w hw 195 rfl) (rm_uchk_1_2 l Z a0 hw [] tA kA y0 y1 y2 y3 fm h0 n0 Z0 O0 R_A S_SF P_SF) e0 (by decide) own_pd4 d39_2 rfl rfl rfl (fun T1 L1 v1 X1 hQ1 => ?_)
  obtain ⟨rfl, Nq1, eq1⟩ := hQ1
  have N1 := Fr.app N0 Nq1
  show gs T1 m 5 #[vr tA, vi 1] []
  refine oaloadN X1 hx hby d39_5 rfl rfl ?_
  refine oiloadN X1 hx hby d39_6 rfl ?_
  refine oS 0 X1 hx hZ hby hml hown (own_w hw 208 rfl) (own_w hw 209 rfl) (own_w hw 166 rfl) (own_w hw 210 rfl) (rm_getc_2_1 l Z a0 hw [] tA kA y0 y1 y2 y3 h0 n0 Z0 O0 R_A S_AD S_HI S_LO) eq1 (by decide) own_pd25 d39_7 rfl rfl rfl (fun T2 L2 v2 X2 hQ2 => ?_)
  obtain ⟨rfl, Nq2, eq2⟩ := hQ2
  have N2 := Fr.app N1 Nq2
  show gs T2 m 10 #[vr tA, vi 1] [(.int (own_u16 y2 y3))]
  exact own_retN X2 hx hlk (t := .char) hret (by simp) (hb hby d39_10) (by decide) (by decide) (v' := (own_u16 y2 y3)) (own_nu16 _ _) (by rw [eq2]; exact ⟨rfl, N2, rfl⟩)
theorem ef_chAt_2_1_1 (m : MethodId) (x0 : Addr) : entryFrame m #[(.ref x0), (.int 1)] 2 = mkF m 0 #[.val (.ref x0), .val (.int 1)] [] := by first | (simp [entryFrame, mkF, argsToLocals, Value.category]; done) | rfl
def Q_chAt_2_1_1 (Z : State) (aS : Addr) (tA : Addr) (kA : ClassId) (y0 : Int32) (y1 : Int32) (y2 : Int32) (y3 : Int32) (zCS : Int32) (fm : Value) (h0 : Heap) (n0 : Nat) (v : Option Value) (h : Heap) (L : List Loc) : Prop := v = some (.int (own_u16 y2 y3)) ∧ Fr n0 L ∧ h = h0
theorem rm_chAt_2_1_1 (l : Launch) (Z : State) (a0 : Array Value) (hw : HW a0 Z) (ws : List Jvm.Cond) (aS : Addr) (tA : Addr) (kA : ClassId) (y0 : Int32) (y1 : Int32) (y2 : Int32) (y3 : Int32) (zCS : Int32) (fm : Value) (h0 : Heap) (n0 : Nat) (Z0 : n0 ≤ h0.size) (O0 : Old Z n0 h0) (E_0 : ek21 Z h0 aS) (F0v : fk16 Z h0 aS (.ref tA)) (F0c : fk15 Z h0 aS (.int 1)) (R_A : Arv Z h0 tA kA .byte (4 : Int32) [(.int y0), (.int y1), (.int y2), (.int y3)] (.int 0)) (S_CS : sk0 Z Z.heap (.int zCS)) (P_CS : ¬ zCS = 0) (S_SF : sk4 Z Z.heap fm) (P_SF : fm.isRef = true) (S_AD : sk1 Z Z.heap (.int 1)) (S_HI : sk2 Z Z.heap (.int 0)) (S_LO : sk3 Z Z.heap (.int 8)) :
    M36 l ws (rmk 4 0 0 53) Z #[(.ref aS), (.int 1)] h0 (Q_chAt_2_1_1 Z aS tA kA y0 y1 y2 y3 zCS fm h0 n0) := by
  refine own_go "java/lang/String" rfl (plainFor_of_name pn_21) (fun m => ef_chAt_2_1_1 m aS) (fun p e s m below meth c s₁ hx hby hml hown hnm hlk hret hZ X0 e0 => ?_)
  have N0 := Fr.nil n0
  show gs s₁ m 0 #[vr aS, vi 1] []
  refine oaloadN X0 hx hby d21_0 rfl rfl ?_
  refine oV 0 X0 hx hZ hby hml hown (own_w hw 137 rfl) (own_w hw 138 rfl) (own_w hw 140 rfl) (own_w hw 139 rfl) (rm_sLat_1 l Z a0 hw [] aS zCS h0 n0 Z0 O0 S_CS P_CS F0c) (own_w hw 141 rfl) (own_w hw 32 rfl) e0 E_0 (by decide) own_pd11 d21_1 rfl rfl rfl (fun T1 L1 v1 X1 hQ1 => ?_)
  obtain ⟨rfl, Nq1, eq1⟩ := hQ1
  have N1 := Fr.app N0 Nq1
  show gs T1 m 4 #[vr aS, vi 1] [(.int 0)]
  refine own_st (fun _ kS => XS.ifYes X1.here hx rfl (pc0 := 4) (pc' := 16) rfl (hb hby d21_4) rfl ((if0 _ _).trans (teq (by decide : (0 : Int32) = (0 : Int32))).1) (by decide) (by decide) kS) ?_
  show gs T1 m 16 #[vr aS, vi 1] []
  refine oaloadN X1 hx hby d21_16 rfl rfl ?_
  obtain ⟨T2, X2, e2, st2⟩ := getF X1 hx hZ hown (host := "") (Or.inl (own_w hw 88 rfl)) Via.refl eq1 F0v (g := (mkF m 17 #[vr aS, vi 1] [(.ref aS)])) rfl rfl (hb hby d21_17)
  refine own_st st2 ?_
  show gs T2 m 20 #[vr aS, vi 1] [(.ref tA)]
  refine oiloadN X2 hx hby d21_20 rfl ?_
  refine oS 0 X2 hx hZ hby hml hown (own_w hw 205 rfl) (own_w hw 206 rfl) (own_w hw 166 rfl) (own_w hw 207 rfl) (rm_u16chat_2_1 l Z a0 hw [] tA kA y0 y1 y2 y3 fm h0 n0 Z0 O0 R_A S_SF P_SF S_AD S_HI S_LO) e2 (by decide) own_pd25 d21_21 rfl rfl rfl (fun T3 L3 v3 X3 hQ3 => ?_)
  obtain ⟨rfl, Nq3, eq3⟩ := hQ3
  have N3 := Fr.app N1 Nq3
  show gs T3 m 24 #[vr aS, vi 1] [(.int (own_u16 y2 y3))]
  exact own_retN X3 hx hlk (t := .char) hret (by simp) (hb hby d21_24) (by decide) (by decide) (v' := (own_u16 y2 y3)) (own_nu16 _ _) (by rw [eq3]; exact ⟨rfl, N3, rfl⟩)
theorem ef_dec_2_UW (m : MethodId) (x0 : Addr) (x1 : Addr) (x2 : Int32) (x3 : Int32) : entryFrame m #[(.ref x0), (.ref x1), (.int x2), (.int x3)] 7 = mkF m 0 #[.val (.ref x0), .val (.ref x1), .val (.int x2), .val (.int x3), .unset, .unset, .unset] [] := by first | (simp [entryFrame, mkF, argsToLocals, Value.category]; done) | rfl
def Q_dec_2_UW (Z : State) (a1 : Addr) (a2 : Addr) (cB : Cell) (at1 : Int32) (t1 : Int32) (w : Int32) (le : Int32) (u0 : Int32) (u1 : Int32) (zCS : Int32) (fm : Value) (h0 : Heap) (n0 : Nat) (v : Option Value) (h : Heap) (L : List Loc) : Prop := ∃ bS : Addr, ∃ tN : Addr, ∃ kN : ClassId, v = some (.ref bS) ∧ Fr n0 L ∧ Keep h0 h [] ∧ ek21 Z h bS ∧ fk15 Z h bS (.int 1) ∧ fk16 Z h bS (.ref tN) ∧ Arv Z h tN kN .byte (4 : Int32) [(.int (nar .byte (((own_chr u0) >>> ((0 : Int32) &&& 31)).toInt8.toInt32))), (.int (nar .byte (((own_chr u0) >>> ((8 : Int32) &&& 31)).toInt8.toInt32))), (.int (nar .byte (((own_chr u1) >>> ((0 : Int32) &&& 31)).toInt8.toInt32))), (.int (nar .byte (((own_chr u1) >>> ((8 : Int32) &&& 31)).toInt8.toInt32)))] (.int 0)
theorem rm_dec_2_UW (l : Launch) (Z : State) (a0 : Array Value) (hw : HW a0 Z) (ws : List Jvm.Cond) (a1 : Addr) (a2 : Addr) (cB : Cell) (at1 : Int32) (t1 : Int32) (w : Int32) (le : Int32) (u0 : Int32) (u1 : Int32) (zCS : Int32) (fm : Value) (h0 : Heap) (n0 : Nat) (Z0 : n0 ≤ h0.size) (O0 : Old Z n0 h0) (E_e : ek22 Z Z.heap a1) (Fw : fk17 Z Z.heap a1 (.int w)) (Fl : fk18 Z Z.heap a1 (.int le)) (Tb : Tab Z h0 a2 cB .byte (8 : Int32)) (hr : own_rg (2 : Int32) w at1 t1) (hwl0 : own_wl w le cB at1 u0) (hwl1 : own_wl w le cB (at1 + w) u1) (hC0 : (255 : Int32) < (own_chr u0)) (S_CS : sk0 Z Z.heap (.int zCS)) (P_CS : ¬ zCS = 0) (S_SF : sk4 Z Z.heap fm) (P_SF : fm.isRef = true) (S_AD : sk1 Z Z.heap (.int 1)) (S_HI : sk2 Z Z.heap (.int 0)) (S_LO : sk3 Z Z.heap (.int 8)) :
    M31 l ws (rmk 8 5 18 115) Z #[(.ref a1), (.ref a2), (.int at1), (.int t1)] h0 (Q_dec_2_UW Z a1 a2 cB at1 t1 w le u0 u1 zCS fm h0 n0) := by
  refine own_go "com/example/provenir/provenir/TextEncoding" rfl (plainFor_of_name pn_2) (fun m => ef_dec_2_UW m a1 a2 at1 t1) (fun p e s m below meth c s₁ hx hby hml hown hnm hlk hret hZ X0 e0 => ?_)
  have N0 := Fr.nil n0
  have K0 := Keep.refl h0 []
  show gs s₁ m 0 #[vr a1, vr a2, vi at1, vi t1, .unset, .unset, .unset] []
  obtain ⟨T1, h1, X1, e1, E1, A1, D1, -, st1⟩ := newO X0 hx hZ hown (own_w hw 14 rfl) (own_w hw 15 rfl) (own_w hw 16 rfl) e0 (g := (mkF m 0 #[vr a1, vr a2, vi at1, vi t1, .unset, .unset, .unset] [])) rfl (hb hby d2_0) (by decide) (by decide)
  obtain ⟨b1, g1⟩ : ∃ z, z = h0.size := ⟨_, rfl⟩
  have ne_a2_b1 : a2 ≠ b1 := Nat.ne_of_lt (Nat.lt_of_lt_of_eq Tb.lt g1.symm)
  have ge_b1 : n0 ≤ b1 := Nat.le_trans Z0 (Nat.le_of_eq g1.symm)
  have sz_b1 : h0.size ≤ b1 := Nat.le_trans K0.1 (Nat.le_of_eq g1.symm)
  rw [← g1] at A1 D1 st1
  have K1 := K0.ext E1
  have O1 := O0.ext E1
  have F1_value : fk11 Z h1 b1 .null := D1 (Or.inl (own_w hw 34 rfl)) (ty := (.array .byte)) (by decide)
  have F1_coder : fk12 Z h1 b1 (.int 0) := D1 (Or.inl (own_w hw 36 rfl)) (ty := .byte) (by decide)
  have F1_count : fk13 Z h1 b1 (.int 0) := D1 (Or.inl (own_w hw 67 rfl)) (ty := .int) (by decide)
  have F1_maybeLatin1 : fk14 Z h1 b1 (.int 0) := D1 (Or.inl (own_w hw 204 rfl)) (ty := .boolean) (by decide)
  refine own_st st1 ?_
  show gs T1 m 3 #[vr a1, vr a2, vi at1, vi t1, .unset, .unset, .unset] [(.ref b1)]
  refine own_st (fun _ kS => XS.dup X1.here hx rfl (hb hby d2_3) rfl rfl kS) ?_
  refine oiloadN X1 hx hby d2_4 rfl ?_
  refine oiloadN X1 hx hby d2_5 rfl ?_
  refine own_st (fun _ kS => XS.isub X1.here hx rfl (hb hby d2_6) rfl kS) ?_
  refine oaloadN X1 hx hby d2_7 rfl rfl ?_
  obtain ⟨T2, X2, e2, st2⟩ := getF X1 hx hZ hown (host := "") (Or.inl (own_w hw 17 rfl)) Via.refl e1 (Fld.ext O1.2 Fw) (g := (mkF m 8 #[vr a1, vr a2, vi at1, vi t1, .unset, .unset, .unset] [(.ref a1), (.int (t1 - at1)), (.ref b1), (.ref b1)])) rfl rfl (hb hby d2_8)
  refine own_st st2 ?_
  show gs T2 m 11 #[vr a1, vr a2, vi at1, vi t1, .unset, .unset, .unset] [(.int w), (.int (t1 - at1)), (.ref b1), (.ref b1)]
  refine own_st (fun _ kS => XS.idiv X2.here hx rfl (hb hby d2_11) rfl (own_wne hr) kS) ?_
  show gs T2 m 12 #[vr a1, vr a2, vi at1, vi t1, .unset, .unset, .unset] [(.int ((t1 - at1) / w)), (.ref b1), (.ref b1)]
  rw [own_div hr (by decide)]
  show gs T2 m 12 #[vr a1, vr a2, vi at1, vi t1, .unset, .unset, .unset] [(.int 2), (.ref b1), (.ref b1)]
  refine oN 1 X2 hx hZ hby hml hown (own_w hw 19 rfl) (own_w hw 20 rfl) (own_w hw 16 rfl) (own_w hw 21 rfl) (rm_sbInit_2 l Z a0 hw [] b1 zCS h1 n0 (Nat.le_trans Z0 E1.1) O1 A1 ge_b1 F1_value F1_coder F1_count F1_maybeLatin1 S_CS P_CS) e2 rfl (by decide) own_pd0 d2_12 rfl rfl rfl (fun T3 L3 v3 X3 hQ3 => ?_)
  obtain ⟨tN_3, kN_3, rfl, Nq3, Kc3, P3_0, P3_1, P3_2, P3_3, P3_4, P3_5, P3_6, P3_7⟩ := hQ3
  have N3 := Fr.app N0 Nq3
  have ne_a2_tN_3 : a2 ≠ tN_3 := Nat.ne_of_lt (Nat.lt_of_lt_of_le (Tab.ext Tb E1).lt P3_0)
  have ne_b1_tN_3 : b1 ≠ tN_3 := Nat.ne_of_lt (Nat.lt_of_lt_of_le A1.lt P3_0)
  have ge_tN_3 : n0 ≤ tN_3 := Nat.le_trans (Nat.le_trans Z0 E1.1) P3_0
  have sz_tN_3 : h0.size ≤ tN_3 := Nat.le_trans K1.1 P3_0
  have K3 := K1.trans Kc3 (allS (Or.inr sz_b1) all0)
  have O3 := O1.keep Kc3 (allS ge_b1 all0)
  show gs T3 m 15 #[vr a1, vr a2, vi at1, vi t1, .unset, .unset, .unset] [(.ref b1)]
  refine own_st (fun _ kS => XS.astore X3.here hx rfl (hb hby d2_15) rfl rfl (l' := #[vr a1, vr a2, vi at1, vi t1, vr b1, .unset, .unset]) rfl kS) ?_
  refine oiloadN X3 hx hby d2_17 rfl ?_
  refine own_st (fun _ kS => XS.istore X3.here hx rfl (hb hby d2_18) rfl (l' := #[vr a1, vr a2, vi at1, vi t1, vr b1, vi at1, .unset]) rfl kS) ?_
  refine oiload X3 hx hby d2_20 rfl ?_
  refine oiloadN X3 hx hby d2_22 rfl ?_
  refine own_st (fun _ kS => XS.icmpNo X3.here hx rfl (hb hby d2_23) rfl (tlt (own_l2 hr : at1 < t1)).2.1 kS) ?_
  show gs T3 m 26 #[vr a1, vr a2, vi at1, vi t1, vr b1, vi at1, .unset] []
  refine oaloadN X3 hx hby d2_26 rfl rfl ?_
  refine oaloadN X3 hx hby d2_27 rfl rfl ?_
  refine oiload X3 hx hby d2_28 rfl ?_
  refine oV 0 X3 hx hZ hby hml hown (own_w hw 107 rfl) (own_w hw 108 rfl) (own_w hw 110 rfl) (own_w hw 109 rfl) (rm_unitAt l Z a0 hw [] a1 a2 cB at1 w le u0 T3.heap n0 (Nat.le_trans (Nat.le_trans Z0 E1.1) Kc3.1) O3 Fw Fl (own_tabk (Tab.ext Tb E1) Kc3 (ninS ne_a2_b1 nin0)) (own_g2 hr) hwl0) (own_w hw 111 rfl) (own_w hw 6 rfl) rfl (Exa.ext O3.2 E_e) (by decide) own_pd23 d2_30 rfl rfl rfl (fun T4 L4 v4 X4 hQ4 => ?_)
  obtain ⟨rfl, Nq4, eq4⟩ := hQ4
  have N4 := Fr.app N3 Nq4
  show gs T4 m 33 #[vr a1, vr a2, vi at1, vi t1, vr b1, vi at1, .unset] [(.int u0)]
  refine own_st (fun _ kS => XS.istore X4.here hx rfl (hb hby d2_33) rfl (l' := #[vr a1, vr a2, vi at1, vi t1, vr b1, vi at1, vi u0]) rfl kS) ?_
  refine oaload X4 hx hby d2_35 rfl rfl ?_
  show gs T4 m 37 #[vr a1, vr a2, vi at1, vi t1, vr b1, vi at1, vi u0] [(.ref b1)]
  suffices hJ5 : own_G p.tables e below _ (T4.setTop (mkF m 57 #[vr a1, vr a2, vi at1, vi t1, vr b1, vi at1, vi u0] [(.int (own_chr u0)), (.ref b1)])) by
    by_cases hu5 : u0 < (0 : Int32)
    · skip
      refine oiload X4 hx hby d2_37 rfl ?_
      refine own_st (fun _ kS => XS.ifYes X4.here hx rfl (pc0 := 39) (pc' := 55) rfl (hb hby d2_39) rfl ((if0 _ _).trans (tlt (hu5 : u0 < (0 : Int32))).1) (by decide) (by decide) kS) ?_
      show gs T4 m 55 #[vr a1, vr a2, vi at1, vi t1, vr b1, vi at1, vi u0] [(.ref b1)]
      refine own_st (fun _ kS => X4.ldcInt hx hown (mvT hZ (own_w hw 158 rfl)) (g := (mkF m 55 #[vr a1, vr a2, vi at1, vi t1, vr b1, vi at1, vi u0] [(.ref b1)])) rfl (hb hby d2_55) _ kS) ?_
      show gs T4 m 57 #[vr a1, vr a2, vi at1, vi t1, vr b1, vi at1, vi u0] [(.int 65533), (.ref b1)]
      rw [own_chr, if_pos hu5] at hJ5
      exact hJ5
    · skip
      by_cases hv5 : (65535 : Int32) < u0
      · skip
        refine oiload X4 hx hby d2_37 rfl ?_
        refine own_st (fun _ kS => XS.ifNo X4.here hx rfl (hb hby d2_39) rfl ((if0 _ _).trans (flt (hu5 : ¬ (u0 < (0 : Int32)))).1) kS) ?_
        show gs T4 m 42 #[vr a1, vr a2, vi at1, vi t1, vr b1, vi at1, vi u0] [(.ref b1)]
        refine oiload X4 hx hby d2_42 rfl ?_
        show gs T4 m 44 #[vr a1, vr a2, vi at1, vi t1, vr b1, vi at1, vi u0] [(.int u0), (.ref b1)]
        refine own_st (fun _ kS => X4.ldcInt hx hown (mvT hZ (own_w hw 112 rfl)) (g := (mkF m 44 #[vr a1, vr a2, vi at1, vi t1, vr b1, vi at1, vi u0] [(.int u0), (.ref b1)])) rfl (hb hby d2_44) _ kS) ?_
        show gs T4 m 46 #[vr a1, vr a2, vi at1, vi t1, vr b1, vi at1, vi u0] [(.int 65535), (.int u0), (.ref b1)]
        refine own_st (fun _ kS => XS.icmpYes X4.here hx rfl (pc0 := 46) (pc' := 55) rfl (hb hby d2_46) rfl (tlt (hv5 : (65535 : Int32) < u0)).2.2.1 (by decide) (by decide) kS) ?_
        show gs T4 m 55 #[vr a1, vr a2, vi at1, vi t1, vr b1, vi at1, vi u0] [(.ref b1)]
        refine own_st (fun _ kS => X4.ldcInt hx hown (mvT hZ (own_w hw 158 rfl)) (g := (mkF m 55 #[vr a1, vr a2, vi at1, vi t1, vr b1, vi at1, vi u0] [(.ref b1)])) rfl (hb hby d2_55) _ kS) ?_
        show gs T4 m 57 #[vr a1, vr a2, vi at1, vi t1, vr b1, vi at1, vi u0] [(.int 65533), (.ref b1)]
        rw [own_chr, if_neg hu5, if_pos hv5] at hJ5
        exact hJ5
      · skip
        refine oiload X4 hx hby d2_37 rfl ?_
        refine own_st (fun _ kS => XS.ifNo X4.here hx rfl (hb hby d2_39) rfl ((if0 _ _).trans (flt (hu5 : ¬ (u0 < (0 : Int32)))).1) kS) ?_
        show gs T4 m 42 #[vr a1, vr a2, vi at1, vi t1, vr b1, vi at1, vi u0] [(.ref b1)]
        refine oiload X4 hx hby d2_42 rfl ?_
        show gs T4 m 44 #[vr a1, vr a2, vi at1, vi t1, vr b1, vi at1, vi u0] [(.int u0), (.ref b1)]
        refine own_st (fun _ kS => X4.ldcInt hx hown (mvT hZ (own_w hw 112 rfl)) (g := (mkF m 44 #[vr a1, vr a2, vi at1, vi t1, vr b1, vi at1, vi u0] [(.int u0), (.ref b1)])) rfl (hb hby d2_44) _ kS) ?_
        show gs T4 m 46 #[vr a1, vr a2, vi at1, vi t1, vr b1, vi at1, vi u0] [(.int 65535), (.int u0), (.ref b1)]
        refine own_st (fun _ kS => XS.icmpNo X4.here hx rfl (hb hby d2_46) rfl (flt (hv5 : ¬ ((65535 : Int32) < u0))).2.2.1 kS) ?_
        show gs T4 m 49 #[vr a1, vr a2, vi at1, vi t1, vr b1, vi at1, vi u0] [(.ref b1)]
        refine oiload X4 hx hby d2_49 rfl ?_
        refine own_st (fun _ kS => XT.i2c X4.here hx rfl (hb hby d2_51) rfl kS) ?_
        refine own_st (fun _ kS => XS.goto X4.here hx rfl (pc0 := 52) (pc' := 57) rfl (hb hby d2_52) (by decide) (by decide) kS) ?_
        show gs T4 m 57 #[vr a1, vr a2, vi at1, vi t1, vr b1, vi at1, vi u0] [(.int (u0.toUInt32.toUInt16.toUInt32.toInt32)), (.ref b1)]
        rw [own_chr, if_neg hu5, if_neg hv5] at hJ5
        exact hJ5
  show gs T4 m 57 #[vr a1, vr a2, vi at1, vi t1, vr b1, vi at1, vi u0] [(.int (own_chr u0)), (.ref b1)]
  refine oV 0 X4 hx hZ hby hml hown (own_w hw 113 rfl) (own_w hw 114 rfl) (own_w hw 116 rfl) (own_w hw 115 rfl) (rm_sbApp_2_0_0_U l Z a0 hw [] b1 tN_3 kN_3 (own_chr u0) (0 : Int32) (0 : Int32) zCS fm T3.heap n0 (Nat.le_trans (Nat.le_trans Z0 E1.1) Kc3.1) O3 P3_2 ge_b1 P3_3 P3_4 P3_5 P3_6 ne_b1_tN_3 P3_7 ge_tN_3 S_CS P_CS S_SF P_SF S_AD S_HI S_LO hC0) (own_w hw 117 rfl) (own_w hw 16 rfl) eq4 P3_2 (by decide) own_pd24 d2_57 rfl rfl rfl (fun T6 L6 v6 X6 hQ6 => ?_)
  obtain ⟨tN_6, kN_6, rfl, Nq6, Kc6, P6_0, P6_1, P6_2, P6_3, P6_4, P6_5, P6_6, P6_7⟩ := hQ6
  have N6 := Fr.app N4 Nq6
  have ne_a2_tN_6 : a2 ≠ tN_6 := Nat.ne_of_lt (Nat.lt_of_lt_of_le (own_tabk (Tab.ext Tb E1) Kc3 (ninS ne_a2_b1 nin0)).lt P6_0)
  have ne_b1_tN_6 : b1 ≠ tN_6 := Nat.ne_of_lt (Nat.lt_of_lt_of_le P3_2.lt P6_0)
  have ne_tN_3_tN_6 : tN_3 ≠ tN_6 := Nat.ne_of_lt (Nat.lt_of_lt_of_le P3_1.lt P6_0)
  have ge_tN_6 : n0 ≤ tN_6 := Nat.le_trans (Nat.le_trans (Nat.le_trans Z0 E1.1) Kc3.1) P6_0
  have sz_tN_6 : h0.size ≤ tN_6 := Nat.le_trans K3.1 P6_0
  have K6 := K3.trans Kc6 (allS (Or.inr sz_b1) all0)
  have O6 := O3.keep Kc6 (allS ge_b1 all0)
  show gs T6 m 60 #[vr a1, vr a2, vi at1, vi t1, vr b1, vi at1, vi u0] [(.ref b1)]
  refine own_st (fun _ kS => XT.pop X6.here hx rfl (hb hby d2_60) rfl rfl kS) ?_
  refine oiload X6 hx hby d2_61 rfl ?_
  refine oaloadN X6 hx hby d2_63 rfl rfl ?_
  obtain ⟨T7, X7, e7, st7⟩ := getF X6 hx hZ hown (host := "") (Or.inl (own_w hw 17 rfl)) Via.refl rfl (Fld.ext O6.2 Fw) (g := (mkF m 64 #[vr a1, vr a2, vi at1, vi t1, vr b1, vi at1, vi u0] [(.ref a1), (.int at1)])) rfl rfl (hb hby d2_64)
  refine own_st st7 ?_
  show gs T7 m 67 #[vr a1, vr a2, vi at1, vi t1, vr b1, vi at1, vi u0] [(.int w), (.int at1)]
  refine own_st (fun _ kS => XS.iadd X7.here hx rfl (hb hby d2_67) rfl kS) ?_
  refine own_st (fun _ kS => XS.istore X7.here hx rfl (hb hby d2_68) rfl (l' := #[vr a1, vr a2, vi at1, vi t1, vr b1, vi (at1 + w), vi u0]) rfl kS) ?_
  refine own_st (fun _ kS => XS.goto X7.here hx rfl (pc0 := 70) (pc' := 20) rfl (hb hby d2_70) (by decide) (by decide) kS) ?_
  refine oiload X7 hx hby d2_20 rfl ?_
  refine oiloadN X7 hx hby d2_22 rfl ?_
  refine own_st (fun _ kS => XS.icmpNo X7.here hx rfl (hb hby d2_23) rfl (tlt (own_m2 hr : (at1 + w) < t1)).2.1 kS) ?_
  show gs T7 m 26 #[vr a1, vr a2, vi at1, vi t1, vr b1, vi (at1 + w), vi u0] []
  refine oaloadN X7 hx hby d2_26 rfl rfl ?_
  refine oaloadN X7 hx hby d2_27 rfl rfl ?_
  refine oiload X7 hx hby d2_28 rfl ?_
  refine oV 0 X7 hx hZ hby hml hown (own_w hw 107 rfl) (own_w hw 108 rfl) (own_w hw 110 rfl) (own_w hw 109 rfl) (rm_unitAt l Z a0 hw [] a1 a2 cB (at1 + w) w le u1 T6.heap n0 (Nat.le_trans (Nat.le_trans (Nat.le_trans Z0 E1.1) Kc3.1) Kc6.1) O6 Fw Fl (own_tabk (own_tabk (Tab.ext Tb E1) Kc3 (ninS ne_a2_b1 nin0)) Kc6 (ninS ne_a2_b1 nin0)) (own_g3 hr) hwl1) (own_w hw 111 rfl) (own_w hw 6 rfl) e7 (Exa.ext O6.2 E_e) (by decide) own_pd23 d2_30 rfl rfl rfl (fun T8 L8 v8 X8 hQ8 => ?_)
  obtain ⟨rfl, Nq8, eq8⟩ := hQ8
  have N8 := Fr.app N6 Nq8
  show gs T8 m 33 #[vr a1, vr a2, vi at1, vi t1, vr b1, vi (at1 + w), vi u0] [(.int u1)]
  refine own_st (fun _ kS => XS.istore X8.here hx rfl (hb hby d2_33) rfl (l' := #[vr a1, vr a2, vi at1, vi t1, vr b1, vi (at1 + w), vi u1]) rfl kS) ?_
  refine oaload X8 hx hby d2_35 rfl rfl ?_
  show gs T8 m 37 #[vr a1, vr a2, vi at1, vi t1, vr b1, vi (at1 + w), vi u1] [(.ref b1)]
  suffices hJ9 : own_G p.tables e below _ (T8.setTop (mkF m 57 #[vr a1, vr a2, vi at1, vi t1, vr b1, vi (at1 + w), vi u1] [(.int (own_chr u1)), (.ref b1)])) by
    by_cases hu9 : u1 < (0 : Int32)
    · skip
      refine oiload X8 hx hby d2_37 rfl ?_
      refine own_st (fun _ kS => XS.ifYes X8.here hx rfl (pc0 := 39) (pc' := 55) rfl (hb hby d2_39) rfl ((if0 _ _).trans (tlt (hu9 : u1 < (0 : Int32))).1) (by decide) (by decide) kS) ?_
      show gs T8 m 55 #[vr a1, vr a2, vi at1, vi t1, vr b1, vi (at1 + w), vi u1] [(.ref b1)]
      refine own_st (fun _ kS => X8.ldcInt hx hown (mvT hZ (own_w hw 158 rfl)) (g := (mkF m 55 #[vr a1, vr a2, vi at1, vi t1, vr b1, vi (at1 + w), vi u1] [(.ref b1)])) rfl (hb hby d2_55) _ kS) ?_
      show gs T8 m 57 #[vr a1, vr a2, vi at1, vi t1, vr b1, vi (at1 + w), vi u1] [(.int 65533), (.ref b1)]
      rw [own_chr, if_pos hu9] at hJ9
      exact hJ9
    · skip
      by_cases hv9 : (65535 : Int32) < u1
      · skip
        refine oiload X8 hx hby d2_37 rfl ?_
        refine own_st (fun _ kS => XS.ifNo X8.here hx rfl (hb hby d2_39) rfl ((if0 _ _).trans (flt (hu9 : ¬ (u1 < (0 : Int32)))).1) kS) ?_
        show gs T8 m 42 #[vr a1, vr a2, vi at1, vi t1, vr b1, vi (at1 + w), vi u1] [(.ref b1)]
        refine oiload X8 hx hby d2_42 rfl ?_
        show gs T8 m 44 #[vr a1, vr a2, vi at1, vi t1, vr b1, vi (at1 + w), vi u1] [(.int u1), (.ref b1)]
        refine own_st (fun _ kS => X8.ldcInt hx hown (mvT hZ (own_w hw 112 rfl)) (g := (mkF m 44 #[vr a1, vr a2, vi at1, vi t1, vr b1, vi (at1 + w), vi u1] [(.int u1), (.ref b1)])) rfl (hb hby d2_44) _ kS) ?_
        show gs T8 m 46 #[vr a1, vr a2, vi at1, vi t1, vr b1, vi (at1 + w), vi u1] [(.int 65535), (.int u1), (.ref b1)]
        refine own_st (fun _ kS => XS.icmpYes X8.here hx rfl (pc0 := 46) (pc' := 55) rfl (hb hby d2_46) rfl (tlt (hv9 : (65535 : Int32) < u1)).2.2.1 (by decide) (by decide) kS) ?_
        show gs T8 m 55 #[vr a1, vr a2, vi at1, vi t1, vr b1, vi (at1 + w), vi u1] [(.ref b1)]
        refine own_st (fun _ kS => X8.ldcInt hx hown (mvT hZ (own_w hw 158 rfl)) (g := (mkF m 55 #[vr a1, vr a2, vi at1, vi t1, vr b1, vi (at1 + w), vi u1] [(.ref b1)])) rfl (hb hby d2_55) _ kS) ?_
        show gs T8 m 57 #[vr a1, vr a2, vi at1, vi t1, vr b1, vi (at1 + w), vi u1] [(.int 65533), (.ref b1)]
        rw [own_chr, if_neg hu9, if_pos hv9] at hJ9
        exact hJ9
      · skip
        refine oiload X8 hx hby d2_37 rfl ?_
        refine own_st (fun _ kS => XS.ifNo X8.here hx rfl (hb hby d2_39) rfl ((if0 _ _).trans (flt (hu9 : ¬ (u1 < (0 : Int32)))).1) kS) ?_
        show gs T8 m 42 #[vr a1, vr a2, vi at1, vi t1, vr b1, vi (at1 + w), vi u1] [(.ref b1)]
        refine oiload X8 hx hby d2_42 rfl ?_
        show gs T8 m 44 #[vr a1, vr a2, vi at1, vi t1, vr b1, vi (at1 + w), vi u1] [(.int u1), (.ref b1)]
        refine own_st (fun _ kS => X8.ldcInt hx hown (mvT hZ (own_w hw 112 rfl)) (g := (mkF m 44 #[vr a1, vr a2, vi at1, vi t1, vr b1, vi (at1 + w), vi u1] [(.int u1), (.ref b1)])) rfl (hb hby d2_44) _ kS) ?_
        show gs T8 m 46 #[vr a1, vr a2, vi at1, vi t1, vr b1, vi (at1 + w), vi u1] [(.int 65535), (.int u1), (.ref b1)]
        refine own_st (fun _ kS => XS.icmpNo X8.here hx rfl (hb hby d2_46) rfl (flt (hv9 : ¬ ((65535 : Int32) < u1))).2.2.1 kS) ?_
        show gs T8 m 49 #[vr a1, vr a2, vi at1, vi t1, vr b1, vi (at1 + w), vi u1] [(.ref b1)]
        refine oiload X8 hx hby d2_49 rfl ?_
        refine own_st (fun _ kS => XT.i2c X8.here hx rfl (hb hby d2_51) rfl kS) ?_
        refine own_st (fun _ kS => XS.goto X8.here hx rfl (pc0 := 52) (pc' := 57) rfl (hb hby d2_52) (by decide) (by decide) kS) ?_
        show gs T8 m 57 #[vr a1, vr a2, vi at1, vi t1, vr b1, vi (at1 + w), vi u1] [(.int (u1.toUInt32.toUInt16.toUInt32.toInt32)), (.ref b1)]
        rw [own_chr, if_neg hu9, if_neg hv9] at hJ9
        exact hJ9
  show gs T8 m 57 #[vr a1, vr a2, vi at1, vi t1, vr b1, vi (at1 + w), vi u1] [(.int (own_chr u1)), (.ref b1)]
  refine oV 0 X8 hx hZ hby hml hown (own_w hw 113 rfl) (own_w hw 114 rfl) (own_w hw 116 rfl) (own_w hw 115 rfl) (rm_sbApp_2_1_1_W l Z a0 hw [] b1 tN_6 kN_6 (own_chr u1) (nar .byte (((own_chr u0) >>> ((0 : Int32) &&& 31)).toInt8.toInt32)) (nar .byte (((own_chr u0) >>> ((8 : Int32) &&& 31)).toInt8.toInt32)) (0 : Int32) (0 : Int32) zCS fm T6.heap n0 (Nat.le_trans (Nat.le_trans (Nat.le_trans Z0 E1.1) Kc3.1) Kc6.1) O6 P6_2 ge_b1 P6_3 P6_4 P6_5 P6_6 ne_b1_tN_6 P6_7 ge_tN_6 S_CS P_CS S_SF P_SF S_AD S_HI S_LO) (own_w hw 117 rfl) (own_w hw 16 rfl) eq8 P6_2 (by decide) own_pd24 d2_57 rfl rfl rfl (fun T10 L10 v10 X10 hQ10 => ?_)
  obtain ⟨rfl, Nq10, Kc10, P10_0, P10_1, P10_2, P10_3, P10_4, P10_5⟩ := hQ10
  have N10 := Fr.app N8 Nq10
  have K10 := K6.trans Kc10 (allS (Or.inr sz_b1) (allS (Or.inr sz_tN_6) all0))
  have O10 := O6.keep Kc10 (allS ge_b1 (allS ge_tN_6 all0))
  show gs T10 m 60 #[vr a1, vr a2, vi at1, vi t1, vr b1, vi (at1 + w), vi u1] [(.ref b1)]
  refine own_st (fun _ kS => XT.pop X10.here hx rfl (hb hby d2_60) rfl rfl kS) ?_
  refine oiload X10 hx hby d2_61 rfl ?_
  refine oaloadN X10 hx hby d2_63 rfl rfl ?_
  obtain ⟨T11, X11, e11, st11⟩ := getF X10 hx hZ hown (host := "") (Or.inl (own_w hw 17 rfl)) Via.refl rfl (Fld.ext O10.2 Fw) (g := (mkF m 64 #[vr a1, vr a2, vi at1, vi t1, vr b1, vi (at1 + w), vi u1] [(.ref a1), (.int (at1 + w))])) rfl rfl (hb hby d2_64)
  refine own_st st11 ?_
  show gs T11 m 67 #[vr a1, vr a2, vi at1, vi t1, vr b1, vi (at1 + w), vi u1] [(.int w), (.int (at1 + w))]
  refine own_st (fun _ kS => XS.iadd X11.here hx rfl (hb hby d2_67) rfl kS) ?_
  refine own_st (fun _ kS => XS.istore X11.here hx rfl (hb hby d2_68) rfl (l' := #[vr a1, vr a2, vi at1, vi t1, vr b1, vi ((at1 + w) + w), vi u1]) rfl kS) ?_
  refine own_st (fun _ kS => XS.goto X11.here hx rfl (pc0 := 70) (pc' := 20) rfl (hb hby d2_70) (by decide) (by decide) kS) ?_
  refine oiload X11 hx hby d2_20 rfl ?_
  refine oiloadN X11 hx hby d2_22 rfl ?_
  refine own_st (fun _ kS => XS.icmpYes X11.here hx rfl (pc0 := 23) (pc' := 73) rfl (hb hby d2_23) rfl (flt (own_m3 hr : ¬ (((at1 + w) + w) < t1))).2.1 (by decide) (by decide) kS) ?_
  show gs T11 m 73 #[vr a1, vr a2, vi at1, vi t1, vr b1, vi ((at1 + w) + w), vi u1] []
  refine oaload X11 hx hby d2_73 rfl rfl ?_
  refine oV 0 X11 hx hZ hby hml hown (own_w hw 37 rfl) (own_w hw 38 rfl) (own_w hw 40 rfl) (own_w hw 39 rfl) (rm_toStr_2_1 l Z a0 hw [] b1 tN_6 kN_6 (nar .byte (((own_chr u0) >>> ((0 : Int32) &&& 31)).toInt8.toInt32)) (nar .byte (((own_chr u0) >>> ((8 : Int32) &&& 31)).toInt8.toInt32)) (nar .byte (((own_chr u1) >>> ((0 : Int32) &&& 31)).toInt8.toInt32)) (nar .byte (((own_chr u1) >>> ((8 : Int32) &&& 31)).toInt8.toInt32)) zCS T10.heap n0 (Nat.le_trans (Nat.le_trans (Nat.le_trans (Nat.le_trans Z0 E1.1) Kc3.1) Kc6.1) Kc10.1) O10 P10_0 P10_1 P10_2 P10_3 P10_4 P10_5 (P6_1.keep Kc10) S_CS P_CS) (own_w hw 41 rfl) (own_w hw 16 rfl) e11 P10_0 (by decide) own_pd21 d2_75 rfl rfl rfl (fun T12 L12 v12 X12 hQ12 => ?_)
  obtain ⟨bS_12, tN_12, rfl, Nq12, Kc12, P12_0, P12_1, P12_2, P12_3, P12_4, P12_5, P12_6⟩ := hQ12
  have N12 := Fr.app N10 Nq12
  have ne_a2_bS_12 : a2 ≠ bS_12 := Nat.ne_of_lt (Nat.lt_of_lt_of_le (own_tabk (own_tabk (own_tabk (Tab.ext Tb E1) Kc3 (ninS ne_a2_b1 nin0)) Kc6 (ninS ne_a2_b1 nin0)) Kc10 (ninS ne_a2_b1 (ninS ne_a2_tN_6 nin0))).lt P12_0)
  have ne_b1_bS_12 : b1 ≠ bS_12 := Nat.ne_of_lt (Nat.lt_of_lt_of_le P10_0.lt P12_0)
  have ne_tN_3_bS_12 : tN_3 ≠ bS_12 := Nat.ne_of_lt (Nat.lt_of_lt_of_le ((P3_1.keep Kc6).keep Kc10).lt P12_0)
  have ne_tN_6_bS_12 : tN_6 ≠ bS_12 := Nat.ne_of_lt (Nat.lt_of_lt_of_le (P6_1.keep Kc10).lt P12_0)
  have ge_bS_12 : n0 ≤ bS_12 := Nat.le_trans (Nat.le_trans (Nat.le_trans (Nat.le_trans (Nat.le_trans Z0 E1.1) Kc3.1) Kc6.1) Kc10.1) P12_0
  have sz_bS_12 : h0.size ≤ bS_12 := Nat.le_trans K10.1 P12_0
  have ne_a2_tN_12 : a2 ≠ tN_12 := Nat.ne_of_lt (Nat.lt_of_lt_of_le (own_tabk (own_tabk (own_tabk (Tab.ext Tb E1) Kc3 (ninS ne_a2_b1 nin0)) Kc6 (ninS ne_a2_b1 nin0)) Kc10 (ninS ne_a2_b1 (ninS ne_a2_tN_6 nin0))).lt P12_1)
  have ne_b1_tN_12 : b1 ≠ tN_12 := Nat.ne_of_lt (Nat.lt_of_lt_of_le P10_0.lt P12_1)
  have ne_tN_3_tN_12 : tN_3 ≠ tN_12 := Nat.ne_of_lt (Nat.lt_of_lt_of_le ((P3_1.keep Kc6).keep Kc10).lt P12_1)
  have ne_tN_6_tN_12 : tN_6 ≠ tN_12 := Nat.ne_of_lt (Nat.lt_of_lt_of_le (P6_1.keep Kc10).lt P12_1)
  have ge_tN_12 : n0 ≤ tN_12 := Nat.le_trans (Nat.le_trans (Nat.le_trans (Nat.le_trans (Nat.le_trans Z0 E1.1) Kc3.1) Kc6.1) Kc10.1) P12_1
  have sz_tN_12 : h0.size ≤ tN_12 := Nat.le_trans K10.1 P12_1
  have K12 := K10.trans Kc12 all0
  have O12 := O10.keep Kc12 all0
  show gs T12 m 78 #[vr a1, vr a2, vi at1, vi t1, vr b1, vi ((at1 + w) + w), vi u1] [(.ref bS_12)]
  exact own_retA X12 hx hlk hret rfl rfl (hb hby d2_78) (by decide) (by decide) (show Q_dec_2_UW Z a1 a2 cB at1 t1 w le u0 u1 zCS fm h0 n0 _ _ _ from ⟨bS_12, tN_12, kN_6, ⟨rfl, N12, K12, P12_3, P12_4, P12_5, P12_6⟩⟩)
theorem pn_0 : plainName "com/example/provenir/provenir/TextEncodingDecodePinLaw" = true := by first | (simp [plainName, overriddenIn]; done) | decide +kernel
def Q_law (n0 : Nat) (v : Option Value) (h : Heap) (L : List Loc) : Prop := v = some (.int 1) ∧ Fr n0 L
theorem own_pd26 : parseMethodDescriptor "([BII)Ljava/lang/String;" = some ⟨[(.array .byte), .int, .int], some (.object "java/lang/String")⟩ := by decide +kernel
theorem sg_C_0_E {p : Program} {l : Launch} {e : Env} {s : State} {m : MethodId} {args : Array Value} {below : List Frame} {meth : Method} {c : Code} {T0 : State} {locs : List Loc} {Z : State} {a0 : Array Value} {h0 : Heap} {n0 : Nat} (hx : p.tables.exec = Jvm.exec) (hby : c.code = code) (hml : c.maxLocals = 14) (hown : s.vm.findClass "com/example/provenir/provenir/TextEncodingDecodePinLaw" = some m.cls) (hlk : meth.locks = false) (hret : meth.sig.returnType = some .boolean) (hZ : Z.Warmed39 s.vm) (hw : HW a0 Z) (Z0 : n0 ≤ h0.size)
    (X0 : Stand p l e room_1 s m args below meth c T0 locs 1 8) (e0 : T0.heap = h0) (N0 : Fr n0 locs) (O0 : Old Z n0 h0) (q1 : Int64) (p2 : Int32) (p3 : Int32) (kk1 : Int32) (wf : Addr) (w : Int32) (le : Int32) (zCS : Int32) (fm : Value) (bA : Addr) (cB : Cell) (rm : Int32) (fr : Int32) (t1 : Int32) (Tb : Tab Z h0 bA cB .byte (8 : Int32)) (Ef : ek22 Z Z.heap wf) (Fw : fk17 Z Z.heap wf (.int w)) (Fl : fk18 Z Z.heap wf (.int le)) (S_CS : sk0 Z Z.heap (.int zCS)) (P_CS : ¬ zCS = 0) (S_SF : sk4 Z Z.heap fm) (P_SF : fm.isRef = true) (S_AD : sk1 Z Z.heap (.int 1)) (S_HI : sk2 Z Z.heap (.int 0)) (S_LO : sk3 Z Z.heap (.int 8)) (hr : own_rg (0 : Int32) w fr t1) :
    own_G p.tables e below (own_E s (Q_law n0) room_1.cells room_1.slots) (T0.setTop (mkF m 197 #[.val (.long q1), .second, vi p2, vi p3, vi kk1, vi 0, vr wf, vi w, vi le, vr bA, vi rm, vi fr, vi t1, .unset] [])) := by
  show gs T0 m 197 #[.val (.long q1), .second, vi p2, vi p3, vi kk1, vi 0, vr wf, vi w, vi le, vr bA, vi rm, vi fr, vi t1, .unset] []
  refine oaload X0 hx hby at_197 rfl rfl ?_
  refine oaload X0 hx hby at_199 rfl rfl ?_
  refine oiload X0 hx hby at_201 rfl ?_
  refine oiload X0 hx hby at_203 rfl ?_
  refine oV 0 X0 hx hZ hby hml hown (own_w hw 9 rfl) (own_w hw 10 rfl) (own_w hw 12 rfl) (own_w hw 11 rfl) (rm_dec_0_E l Z a0 hw [] wf bA cB fr t1 w le zCS fm h0 n0 Z0 O0 Ef Fw Fl Tb hr S_CS P_CS S_SF P_SF S_AD S_HI S_LO) (own_w hw 13 rfl) (own_w hw 6 rfl) e0 (Exa.ext O0.2 Ef) (by decide) own_pd26 at_205 rfl rfl rfl (fun T1 L1 v1 X1 hQ1 => ?_)
  obtain ⟨bS_1, tN_1, kN_1, rfl, Nq1, Kc1, P1_0, P1_1, P1_2, P1_3⟩ := hQ1
  have N1 := Fr.app N0 Nq1
  have O1 := O0.keep Kc1 all0
  show gs T1 m 208 #[.val (.long q1), .second, vi p2, vi p3, vi kk1, vi 0, vr wf, vi w, vi le, vr bA, vi rm, vi fr, vi t1, .unset] [(.ref bS_1)]
  refine own_st (fun _ kS => XS.astore X1.here hx rfl (hb hby at_208) rfl rfl (l' := #[.val (.long q1), .second, vi p2, vi p3, vi kk1, vi 0, vr wf, vi w, vi le, vr bA, vi rm, vi fr, vi t1, vr bS_1]) rfl kS) ?_
  refine oaload X1 hx hby at_210 rfl rfl ?_
  refine oV 0 X1 hx hZ hby hml hown (own_w hw 90 rfl) (own_w hw 91 rfl) (own_w hw 93 rfl) (own_w hw 92 rfl) (rm_sLen_0_0 l Z a0 hw [] bS_1 tN_1 kN_1 zCS T1.heap n0 (Nat.le_trans Z0 Kc1.1) O1 P1_0 P1_2 P1_1 P1_3 S_CS P_CS) (own_w hw 94 rfl) (own_w hw 32 rfl) rfl P1_0 (by decide) own_pd16 at_212 rfl rfl rfl (fun T2 L2 v2 X2 hQ2 => ?_)
  obtain ⟨rfl, Nq2, eq2⟩ := hQ2
  have N2 := Fr.app N1 Nq2
  show gs T2 m 215 #[.val (.long q1), .second, vi p2, vi p3, vi kk1, vi 0, vr wf, vi w, vi le, vr bA, vi rm, vi fr, vi t1, vr bS_1] [(.int 0)]
  refine oiload X2 hx hby at_215 rfl ?_
  refine own_st (fun _ kS => XS.icmpYes X2.here hx rfl (pc0 := 217) (pc' := 222) rfl (hb hby at_217) rfl (teq (by decide : (0 : Int32) = (0 : Int32))).1 (by decide) (by decide) kS) ?_
  show gs T2 m 222 #[.val (.long q1), .second, vi p2, vi p3, vi kk1, vi 0, vr wf, vi w, vi le, vr bA, vi rm, vi fr, vi t1, vr bS_1] []
  refine oiload X2 hx hby at_222 rfl ?_
  refine oiconst X2 hx hby at_224 ?_
  refine own_st (fun _ kS => XS.icmpYes X2.here hx rfl (pc0 := 225) (pc' := 250) rfl (hb hby at_225) rfl (tlt (by decide : (0 : Int32) < (1 : Int32))).1 (by decide) (by decide) kS) ?_
  show gs T2 m 250 #[.val (.long q1), .second, vi p2, vi p3, vi kk1, vi 0, vr wf, vi w, vi le, vr bA, vi rm, vi fr, vi t1, vr bS_1] []
  refine oiload X2 hx hby at_250 rfl ?_
  refine oiconst X2 hx hby at_252 ?_
  refine own_st (fun _ kS => XS.icmpYes X2.here hx rfl (pc0 := 253) (pc' := 281) rfl (hb hby at_253) rfl (tlt (by decide : (0 : Int32) < (2 : Int32))).1 (by decide) (by decide) kS) ?_
  show gs T2 m 281 #[.val (.long q1), .second, vi p2, vi p3, vi kk1, vi 0, vr wf, vi w, vi le, vr bA, vi rm, vi fr, vi t1, vr bS_1] []
  refine oiconst X2 hx hby at_281 ?_
  exact own_retN X2 hx hlk (t := .boolean) hret (by simp) (hb hby at_282) (by decide) (by decide) (v' := (1 : Int32)) rfl (by rw [eq2]; exact ⟨rfl, N2⟩)
theorem own_pd27 : parseMethodDescriptor "(I)C" = some ⟨[.int], some .char⟩ := by decide +kernel
theorem own_pd28 : parseMethodDescriptor "([BIIZ)C" = some ⟨[(.array .byte), .int, .int, .boolean], some .char⟩ := by decide +kernel
theorem sg_C_1_L {p : Program} {l : Launch} {e : Env} {s : State} {m : MethodId} {args : Array Value} {below : List Frame} {meth : Method} {c : Code} {T0 : State} {locs : List Loc} {Z : State} {a0 : Array Value} {h0 : Heap} {n0 : Nat} (hx : p.tables.exec = Jvm.exec) (hby : c.code = code) (hml : c.maxLocals = 14) (hown : s.vm.findClass "com/example/provenir/provenir/TextEncodingDecodePinLaw" = some m.cls) (hlk : meth.locks = false) (hret : meth.sig.returnType = some .boolean) (hZ : Z.Warmed39 s.vm) (hw : HW a0 Z) (Z0 : n0 ≤ h0.size)
    (X0 : Stand p l e room_1 s m args below meth c T0 locs 1 8) (e0 : T0.heap = h0) (N0 : Fr n0 locs) (O0 : Old Z n0 h0) (q1 : Int64) (p2 : Int32) (p3 : Int32) (kk1 : Int32) (wf : Addr) (w : Int32) (le : Int32) (zCS : Int32) (fm : Value) (bA : Addr) (cB : Cell) (rm : Int32) (fr : Int32) (t1 : Int32) (u0 : Int32) (Tb : Tab Z h0 bA cB .byte (8 : Int32)) (Ef : ek22 Z Z.heap wf) (Fw : fk17 Z Z.heap wf (.int w)) (Fl : fk18 Z Z.heap wf (.int le)) (S_CS : sk0 Z Z.heap (.int zCS)) (P_CS : ¬ zCS = 0) (S_SF : sk4 Z Z.heap fm) (P_SF : fm.isRef = true) (S_AD : sk1 Z Z.heap (.int 1)) (S_HI : sk2 Z Z.heap (.int 0)) (S_LO : sk3 Z Z.heap (.int 8)) (hr : own_rg (1 : Int32) w fr t1) (hwl0 : own_wl w le cB fr u0) (hC0 : ¬ ((255 : Int32) < (own_chr u0))) :
    own_G p.tables e below (own_E s (Q_law n0) room_1.cells room_1.slots) (T0.setTop (mkF m 197 #[.val (.long q1), .second, vi p2, vi p3, vi kk1, vi 1, vr wf, vi w, vi le, vr bA, vi rm, vi fr, vi t1, .unset] [])) := by
  show gs T0 m 197 #[.val (.long q1), .second, vi p2, vi p3, vi kk1, vi 1, vr wf, vi w, vi le, vr bA, vi rm, vi fr, vi t1, .unset] []
  refine oaload X0 hx hby at_197 rfl rfl ?_
  refine oaload X0 hx hby at_199 rfl rfl ?_
  refine oiload X0 hx hby at_201 rfl ?_
  refine oiload X0 hx hby at_203 rfl ?_
  refine oV 0 X0 hx hZ hby hml hown (own_w hw 9 rfl) (own_w hw 10 rfl) (own_w hw 12 rfl) (own_w hw 11 rfl) (rm_dec_1_L l Z a0 hw [] wf bA cB fr t1 w le u0 zCS fm h0 n0 Z0 O0 Ef Fw Fl Tb hr hwl0 hC0 S_CS P_CS S_SF P_SF S_AD S_HI S_LO) (own_w hw 13 rfl) (own_w hw 6 rfl) e0 (Exa.ext O0.2 Ef) (by decide) own_pd26 at_205 rfl rfl rfl (fun T1 L1 v1 X1 hQ1 => ?_)
  obtain ⟨bS_1, tN_1, kN_1, rfl, Nq1, Kc1, P1_0, P1_1, P1_2, P1_3⟩ := hQ1
  have N1 := Fr.app N0 Nq1
  have O1 := O0.keep Kc1 all0
  show gs T1 m 208 #[.val (.long q1), .second, vi p2, vi p3, vi kk1, vi 1, vr wf, vi w, vi le, vr bA, vi rm, vi fr, vi t1, .unset] [(.ref bS_1)]
  refine own_st (fun _ kS => XS.astore X1.here hx rfl (hb hby at_208) rfl rfl (l' := #[.val (.long q1), .second, vi p2, vi p3, vi kk1, vi 1, vr wf, vi w, vi le, vr bA, vi rm, vi fr, vi t1, vr bS_1]) rfl kS) ?_
  refine oaload X1 hx hby at_210 rfl rfl ?_
  refine oV 0 X1 hx hZ hby hml hown (own_w hw 90 rfl) (own_w hw 91 rfl) (own_w hw 93 rfl) (own_w hw 92 rfl) (rm_sLen_1_0 l Z a0 hw [] bS_1 tN_1 kN_1 (nar .byte ((own_chr u0).toInt8.toInt32)) zCS T1.heap n0 (Nat.le_trans Z0 Kc1.1) O1 P1_0 P1_2 P1_1 P1_3 S_CS P_CS) (own_w hw 94 rfl) (own_w hw 32 rfl) rfl P1_0 (by decide) own_pd16 at_212 rfl rfl rfl (fun T2 L2 v2 X2 hQ2 => ?_)
  obtain ⟨rfl, Nq2, eq2⟩ := hQ2
  have N2 := Fr.app N1 Nq2
  show gs T2 m 215 #[.val (.long q1), .second, vi p2, vi p3, vi kk1, vi 1, vr wf, vi w, vi le, vr bA, vi rm, vi fr, vi t1, vr bS_1] [(.int 1)]
  refine oiload X2 hx hby at_215 rfl ?_
  refine own_st (fun _ kS => XS.icmpYes X2.here hx rfl (pc0 := 217) (pc' := 222) rfl (hb hby at_217) rfl (teq (by decide : (1 : Int32) = (1 : Int32))).1 (by decide) (by decide) kS) ?_
  show gs T2 m 222 #[.val (.long q1), .second, vi p2, vi p3, vi kk1, vi 1, vr wf, vi w, vi le, vr bA, vi rm, vi fr, vi t1, vr bS_1] []
  refine oiload X2 hx hby at_222 rfl ?_
  refine oiconst X2 hx hby at_224 ?_
  refine own_st (fun _ kS => XS.icmpNo X2.here hx rfl (hb hby at_225) rfl (flt (by decide : ¬ ((1 : Int32) < (1 : Int32)))).1 kS) ?_
  show gs T2 m 228 #[.val (.long q1), .second, vi p2, vi p3, vi kk1, vi 1, vr wf, vi w, vi le, vr bA, vi rm, vi fr, vi t1, vr bS_1] []
  refine oaload X2 hx hby at_228 rfl rfl ?_
  refine oiconst X2 hx hby at_230 ?_
  refine oV 0 X2 hx hZ hby hml hown (own_w hw 132 rfl) (own_w hw 133 rfl) (own_w hw 135 rfl) (own_w hw 134 rfl) (rm_chAt_1_0_0 l Z a0 hw [] bS_1 tN_1 kN_1 (nar .byte ((own_chr u0).toInt8.toInt32)) zCS fm T1.heap n0 (Nat.le_trans Z0 Kc1.1) O1 P1_0 P1_2 P1_1 P1_3 S_CS P_CS S_SF P_SF) (own_w hw 136 rfl) (own_w hw 32 rfl) eq2 P1_0 (by decide) own_pd27 at_231 rfl rfl rfl (fun T3 L3 v3 X3 hQ3 => ?_)
  obtain ⟨rfl, Nq3, eq3⟩ := hQ3
  have N3 := Fr.app N2 Nq3
  show gs T3 m 234 #[.val (.long q1), .second, vi p2, vi p3, vi kk1, vi 1, vr wf, vi w, vi le, vr bA, vi rm, vi fr, vi t1, vr bS_1] [(.int (own_lat (nar .byte ((own_chr u0).toInt8.toInt32))))]
  refine oaload X3 hx hby at_234 rfl rfl ?_
  refine oiload X3 hx hby at_236 rfl ?_
  refine oiload X3 hx hby at_238 rfl ?_
  refine oiload X3 hx hby at_240 rfl ?_
  refine oS 1 X3 hx hZ hby hml hown (own_w hw 153 rfl) (own_w hw 154 rfl) (own_w hw 3 rfl) (own_w hw 155 rfl) (rm_expected l Z a0 hw [] bA cB fr w le u0 T1.heap n0 (Nat.le_trans Z0 Kc1.1)  (own_tabk Tb Kc1 nin0) (own_g1 hr) hwl0) eq3 (by decide) own_pd28 at_242 rfl rfl rfl (fun T4 L4 v4 X4 hQ4 => ?_)
  obtain ⟨rfl, Nq4, eq4⟩ := hQ4
  have N4 := Fr.app N3 Nq4
  show gs T4 m 245 #[.val (.long q1), .second, vi p2, vi p3, vi kk1, vi 1, vr wf, vi w, vi le, vr bA, vi rm, vi fr, vi t1, vr bS_1] [(.int (own_chr u0)), (.int (own_lat (nar .byte ((own_chr u0).toInt8.toInt32))))]
  refine own_st (fun _ kS => XS.icmpYes X4.here hx rfl (pc0 := 245) (pc' := 250) rfl (hb hby at_245) rfl (teq (own_fL _ hC0 : (own_lat (nar .byte ((own_chr u0).toInt8.toInt32))) = (own_chr u0))).1 (by decide) (by decide) kS) ?_
  show gs T4 m 250 #[.val (.long q1), .second, vi p2, vi p3, vi kk1, vi 1, vr wf, vi w, vi le, vr bA, vi rm, vi fr, vi t1, vr bS_1] []
  refine oiload X4 hx hby at_250 rfl ?_
  refine oiconst X4 hx hby at_252 ?_
  refine own_st (fun _ kS => XS.icmpYes X4.here hx rfl (pc0 := 253) (pc' := 281) rfl (hb hby at_253) rfl (tlt (by decide : (1 : Int32) < (2 : Int32))).1 (by decide) (by decide) kS) ?_
  show gs T4 m 281 #[.val (.long q1), .second, vi p2, vi p3, vi kk1, vi 1, vr wf, vi w, vi le, vr bA, vi rm, vi fr, vi t1, vr bS_1] []
  refine oiconst X4 hx hby at_281 ?_
  exact own_retN X4 hx hlk (t := .boolean) hret (by simp) (hb hby at_282) (by decide) (by decide) (v' := (1 : Int32)) rfl (by rw [eq4]; exact ⟨rfl, N4⟩)
theorem sg_C_1_U {p : Program} {l : Launch} {e : Env} {s : State} {m : MethodId} {args : Array Value} {below : List Frame} {meth : Method} {c : Code} {T0 : State} {locs : List Loc} {Z : State} {a0 : Array Value} {h0 : Heap} {n0 : Nat} (hx : p.tables.exec = Jvm.exec) (hby : c.code = code) (hml : c.maxLocals = 14) (hown : s.vm.findClass "com/example/provenir/provenir/TextEncodingDecodePinLaw" = some m.cls) (hlk : meth.locks = false) (hret : meth.sig.returnType = some .boolean) (hZ : Z.Warmed39 s.vm) (hw : HW a0 Z) (Z0 : n0 ≤ h0.size)
    (X0 : Stand p l e room_1 s m args below meth c T0 locs 1 8) (e0 : T0.heap = h0) (N0 : Fr n0 locs) (O0 : Old Z n0 h0) (q1 : Int64) (p2 : Int32) (p3 : Int32) (kk1 : Int32) (wf : Addr) (w : Int32) (le : Int32) (zCS : Int32) (fm : Value) (bA : Addr) (cB : Cell) (rm : Int32) (fr : Int32) (t1 : Int32) (u0 : Int32) (Tb : Tab Z h0 bA cB .byte (8 : Int32)) (Ef : ek22 Z Z.heap wf) (Fw : fk17 Z Z.heap wf (.int w)) (Fl : fk18 Z Z.heap wf (.int le)) (S_CS : sk0 Z Z.heap (.int zCS)) (P_CS : ¬ zCS = 0) (S_SF : sk4 Z Z.heap fm) (P_SF : fm.isRef = true) (S_AD : sk1 Z Z.heap (.int 1)) (S_HI : sk2 Z Z.heap (.int 0)) (S_LO : sk3 Z Z.heap (.int 8)) (hr : own_rg (1 : Int32) w fr t1) (hwl0 : own_wl w le cB fr u0) (hC0 : (255 : Int32) < (own_chr u0)) :
    own_G p.tables e below (own_E s (Q_law n0) room_1.cells room_1.slots) (T0.setTop (mkF m 197 #[.val (.long q1), .second, vi p2, vi p3, vi kk1, vi 1, vr wf, vi w, vi le, vr bA, vi rm, vi fr, vi t1, .unset] [])) := by
  show gs T0 m 197 #[.val (.long q1), .second, vi p2, vi p3, vi kk1, vi 1, vr wf, vi w, vi le, vr bA, vi rm, vi fr, vi t1, .unset] []
  refine oaload X0 hx hby at_197 rfl rfl ?_
  refine oaload X0 hx hby at_199 rfl rfl ?_
  refine oiload X0 hx hby at_201 rfl ?_
  refine oiload X0 hx hby at_203 rfl ?_
  refine oV 0 X0 hx hZ hby hml hown (own_w hw 9 rfl) (own_w hw 10 rfl) (own_w hw 12 rfl) (own_w hw 11 rfl) (rm_dec_1_U l Z a0 hw [] wf bA cB fr t1 w le u0 zCS fm h0 n0 Z0 O0 Ef Fw Fl Tb hr hwl0 hC0 S_CS P_CS S_SF P_SF S_AD S_HI S_LO) (own_w hw 13 rfl) (own_w hw 6 rfl) e0 (Exa.ext O0.2 Ef) (by decide) own_pd26 at_205 rfl rfl rfl (fun T1 L1 v1 X1 hQ1 => ?_)
  obtain ⟨bS_1, tN_1, kN_1, rfl, Nq1, Kc1, P1_0, P1_1, P1_2, P1_3⟩ := hQ1
  have N1 := Fr.app N0 Nq1
  have O1 := O0.keep Kc1 all0
  show gs T1 m 208 #[.val (.long q1), .second, vi p2, vi p3, vi kk1, vi 1, vr wf, vi w, vi le, vr bA, vi rm, vi fr, vi t1, .unset] [(.ref bS_1)]
  refine own_st (fun _ kS => XS.astore X1.here hx rfl (hb hby at_208) rfl rfl (l' := #[.val (.long q1), .second, vi p2, vi p3, vi kk1, vi 1, vr wf, vi w, vi le, vr bA, vi rm, vi fr, vi t1, vr bS_1]) rfl kS) ?_
  refine oaload X1 hx hby at_210 rfl rfl ?_
  refine oV 0 X1 hx hZ hby hml hown (own_w hw 90 rfl) (own_w hw 91 rfl) (own_w hw 93 rfl) (own_w hw 92 rfl) (rm_sLen_1_1 l Z a0 hw [] bS_1 tN_1 kN_1 (nar .byte (((own_chr u0) >>> ((0 : Int32) &&& 31)).toInt8.toInt32)) (nar .byte (((own_chr u0) >>> ((8 : Int32) &&& 31)).toInt8.toInt32)) zCS T1.heap n0 (Nat.le_trans Z0 Kc1.1) O1 P1_0 P1_2 P1_1 P1_3 S_CS P_CS) (own_w hw 94 rfl) (own_w hw 32 rfl) rfl P1_0 (by decide) own_pd16 at_212 rfl rfl rfl (fun T2 L2 v2 X2 hQ2 => ?_)
  obtain ⟨rfl, Nq2, eq2⟩ := hQ2
  have N2 := Fr.app N1 Nq2
  show gs T2 m 215 #[.val (.long q1), .second, vi p2, vi p3, vi kk1, vi 1, vr wf, vi w, vi le, vr bA, vi rm, vi fr, vi t1, vr bS_1] [(.int 1)]
  refine oiload X2 hx hby at_215 rfl ?_
  refine own_st (fun _ kS => XS.icmpYes X2.here hx rfl (pc0 := 217) (pc' := 222) rfl (hb hby at_217) rfl (teq (by decide : (1 : Int32) = (1 : Int32))).1 (by decide) (by decide) kS) ?_
  show gs T2 m 222 #[.val (.long q1), .second, vi p2, vi p3, vi kk1, vi 1, vr wf, vi w, vi le, vr bA, vi rm, vi fr, vi t1, vr bS_1] []
  refine oiload X2 hx hby at_222 rfl ?_
  refine oiconst X2 hx hby at_224 ?_
  refine own_st (fun _ kS => XS.icmpNo X2.here hx rfl (hb hby at_225) rfl (flt (by decide : ¬ ((1 : Int32) < (1 : Int32)))).1 kS) ?_
  show gs T2 m 228 #[.val (.long q1), .second, vi p2, vi p3, vi kk1, vi 1, vr wf, vi w, vi le, vr bA, vi rm, vi fr, vi t1, vr bS_1] []
  refine oaload X2 hx hby at_228 rfl rfl ?_
  refine oiconst X2 hx hby at_230 ?_
  refine oV 0 X2 hx hZ hby hml hown (own_w hw 132 rfl) (own_w hw 133 rfl) (own_w hw 135 rfl) (own_w hw 134 rfl) (rm_chAt_1_1_0 l Z a0 hw [] bS_1 tN_1 kN_1 (nar .byte (((own_chr u0) >>> ((0 : Int32) &&& 31)).toInt8.toInt32)) (nar .byte (((own_chr u0) >>> ((8 : Int32) &&& 31)).toInt8.toInt32)) zCS fm T1.heap n0 (Nat.le_trans Z0 Kc1.1) O1 P1_0 P1_2 P1_1 P1_3 S_CS P_CS S_SF P_SF S_AD S_HI S_LO) (own_w hw 136 rfl) (own_w hw 32 rfl) eq2 P1_0 (by decide) own_pd27 at_231 rfl rfl rfl (fun T3 L3 v3 X3 hQ3 => ?_)
  obtain ⟨rfl, Nq3, eq3⟩ := hQ3
  have N3 := Fr.app N2 Nq3
  show gs T3 m 234 #[.val (.long q1), .second, vi p2, vi p3, vi kk1, vi 1, vr wf, vi w, vi le, vr bA, vi rm, vi fr, vi t1, vr bS_1] [(.int (own_u16 (nar .byte (((own_chr u0) >>> ((0 : Int32) &&& 31)).toInt8.toInt32)) (nar .byte (((own_chr u0) >>> ((8 : Int32) &&& 31)).toInt8.toInt32))))]
  refine oaload X3 hx hby at_234 rfl rfl ?_
  refine oiload X3 hx hby at_236 rfl ?_
  refine oiload X3 hx hby at_238 rfl ?_
  refine oiload X3 hx hby at_240 rfl ?_
  refine oS 1 X3 hx hZ hby hml hown (own_w hw 153 rfl) (own_w hw 154 rfl) (own_w hw 3 rfl) (own_w hw 155 rfl) (rm_expected l Z a0 hw [] bA cB fr w le u0 T1.heap n0 (Nat.le_trans Z0 Kc1.1)  (own_tabk Tb Kc1 nin0) (own_g1 hr) hwl0) eq3 (by decide) own_pd28 at_242 rfl rfl rfl (fun T4 L4 v4 X4 hQ4 => ?_)
  obtain ⟨rfl, Nq4, eq4⟩ := hQ4
  have N4 := Fr.app N3 Nq4
  show gs T4 m 245 #[.val (.long q1), .second, vi p2, vi p3, vi kk1, vi 1, vr wf, vi w, vi le, vr bA, vi rm, vi fr, vi t1, vr bS_1] [(.int (own_chr u0)), (.int (own_u16 (nar .byte (((own_chr u0) >>> ((0 : Int32) &&& 31)).toInt8.toInt32)) (nar .byte (((own_chr u0) >>> ((8 : Int32) &&& 31)).toInt8.toInt32))))]
  refine own_st (fun _ kS => XS.icmpYes X4.here hx rfl (pc0 := 245) (pc' := 250) rfl (hb hby at_245) rfl (teq (own_fU _ : (own_u16 (nar .byte (((own_chr u0) >>> ((0 : Int32) &&& 31)).toInt8.toInt32)) (nar .byte (((own_chr u0) >>> ((8 : Int32) &&& 31)).toInt8.toInt32))) = (own_chr u0))).1 (by decide) (by decide) kS) ?_
  show gs T4 m 250 #[.val (.long q1), .second, vi p2, vi p3, vi kk1, vi 1, vr wf, vi w, vi le, vr bA, vi rm, vi fr, vi t1, vr bS_1] []
  refine oiload X4 hx hby at_250 rfl ?_
  refine oiconst X4 hx hby at_252 ?_
  refine own_st (fun _ kS => XS.icmpYes X4.here hx rfl (pc0 := 253) (pc' := 281) rfl (hb hby at_253) rfl (tlt (by decide : (1 : Int32) < (2 : Int32))).1 (by decide) (by decide) kS) ?_
  show gs T4 m 281 #[.val (.long q1), .second, vi p2, vi p3, vi kk1, vi 1, vr wf, vi w, vi le, vr bA, vi rm, vi fr, vi t1, vr bS_1] []
  refine oiconst X4 hx hby at_281 ?_
  exact own_retN X4 hx hlk (t := .boolean) hret (by simp) (hb hby at_282) (by decide) (by decide) (v' := (1 : Int32)) rfl (by rw [eq4]; exact ⟨rfl, N4⟩)
theorem sg_C_2_LL {p : Program} {l : Launch} {e : Env} {s : State} {m : MethodId} {args : Array Value} {below : List Frame} {meth : Method} {c : Code} {T0 : State} {locs : List Loc} {Z : State} {a0 : Array Value} {h0 : Heap} {n0 : Nat} (hx : p.tables.exec = Jvm.exec) (hby : c.code = code) (hml : c.maxLocals = 14) (hown : s.vm.findClass "com/example/provenir/provenir/TextEncodingDecodePinLaw" = some m.cls) (hlk : meth.locks = false) (hret : meth.sig.returnType = some .boolean) (hZ : Z.Warmed39 s.vm) (hw : HW a0 Z) (Z0 : n0 ≤ h0.size)
    (X0 : Stand p l e room_1 s m args below meth c T0 locs 1 8) (e0 : T0.heap = h0) (N0 : Fr n0 locs) (O0 : Old Z n0 h0) (q1 : Int64) (p2 : Int32) (p3 : Int32) (kk1 : Int32) (wf : Addr) (w : Int32) (le : Int32) (zCS : Int32) (fm : Value) (bA : Addr) (cB : Cell) (rm : Int32) (fr : Int32) (t1 : Int32) (u0 : Int32) (u1 : Int32) (Tb : Tab Z h0 bA cB .byte (8 : Int32)) (Ef : ek22 Z Z.heap wf) (Fw : fk17 Z Z.heap wf (.int w)) (Fl : fk18 Z Z.heap wf (.int le)) (S_CS : sk0 Z Z.heap (.int zCS)) (P_CS : ¬ zCS = 0) (S_SF : sk4 Z Z.heap fm) (P_SF : fm.isRef = true) (S_AD : sk1 Z Z.heap (.int 1)) (S_HI : sk2 Z Z.heap (.int 0)) (S_LO : sk3 Z Z.heap (.int 8)) (hr : own_rg (2 : Int32) w fr t1) (hwl0 : own_wl w le cB fr u0) (hwl1 : own_wl w le cB (fr + w) u1) (hC0 : ¬ ((255 : Int32) < (own_chr u0))) (hC1 : ¬ ((255 : Int32) < (own_chr u1))) :
    own_G p.tables e below (own_E s (Q_law n0) room_1.cells room_1.slots) (T0.setTop (mkF m 197 #[.val (.long q1), .second, vi p2, vi p3, vi kk1, vi 2, vr wf, vi w, vi le, vr bA, vi rm, vi fr, vi t1, .unset] [])) := by
  show gs T0 m 197 #[.val (.long q1), .second, vi p2, vi p3, vi kk1, vi 2, vr wf, vi w, vi le, vr bA, vi rm, vi fr, vi t1, .unset] []
  refine oaload X0 hx hby at_197 rfl rfl ?_
  refine oaload X0 hx hby at_199 rfl rfl ?_
  refine oiload X0 hx hby at_201 rfl ?_
  refine oiload X0 hx hby at_203 rfl ?_
  refine oV 0 X0 hx hZ hby hml hown (own_w hw 9 rfl) (own_w hw 10 rfl) (own_w hw 12 rfl) (own_w hw 11 rfl) (rm_dec_2_LL l Z a0 hw [] wf bA cB fr t1 w le u0 u1 zCS fm h0 n0 Z0 O0 Ef Fw Fl Tb hr hwl0 hwl1 hC0 hC1 S_CS P_CS S_SF P_SF S_AD S_HI S_LO) (own_w hw 13 rfl) (own_w hw 6 rfl) e0 (Exa.ext O0.2 Ef) (by decide) own_pd26 at_205 rfl rfl rfl (fun T1 L1 v1 X1 hQ1 => ?_)
  obtain ⟨bS_1, tN_1, kN_1, rfl, Nq1, Kc1, P1_0, P1_1, P1_2, P1_3⟩ := hQ1
  have N1 := Fr.app N0 Nq1
  have O1 := O0.keep Kc1 all0
  show gs T1 m 208 #[.val (.long q1), .second, vi p2, vi p3, vi kk1, vi 2, vr wf, vi w, vi le, vr bA, vi rm, vi fr, vi t1, .unset] [(.ref bS_1)]
  refine own_st (fun _ kS => XS.astore X1.here hx rfl (hb hby at_208) rfl rfl (l' := #[.val (.long q1), .second, vi p2, vi p3, vi kk1, vi 2, vr wf, vi w, vi le, vr bA, vi rm, vi fr, vi t1, vr bS_1]) rfl kS) ?_
  refine oaload X1 hx hby at_210 rfl rfl ?_
  refine oV 0 X1 hx hZ hby hml hown (own_w hw 90 rfl) (own_w hw 91 rfl) (own_w hw 93 rfl) (own_w hw 92 rfl) (rm_sLen_2_0 l Z a0 hw [] bS_1 tN_1 kN_1 (nar .byte ((own_chr u0).toInt8.toInt32)) (nar .byte ((own_chr u1).toInt8.toInt32)) zCS T1.heap n0 (Nat.le_trans Z0 Kc1.1) O1 P1_0 P1_2 P1_1 P1_3 S_CS P_CS) (own_w hw 94 rfl) (own_w hw 32 rfl) rfl P1_0 (by decide) own_pd16 at_212 rfl rfl rfl (fun T2 L2 v2 X2 hQ2 => ?_)
  obtain ⟨rfl, Nq2, eq2⟩ := hQ2
  have N2 := Fr.app N1 Nq2
  show gs T2 m 215 #[.val (.long q1), .second, vi p2, vi p3, vi kk1, vi 2, vr wf, vi w, vi le, vr bA, vi rm, vi fr, vi t1, vr bS_1] [(.int 2)]
  refine oiload X2 hx hby at_215 rfl ?_
  refine own_st (fun _ kS => XS.icmpYes X2.here hx rfl (pc0 := 217) (pc' := 222) rfl (hb hby at_217) rfl (teq (by decide : (2 : Int32) = (2 : Int32))).1 (by decide) (by decide) kS) ?_
  show gs T2 m 222 #[.val (.long q1), .second, vi p2, vi p3, vi kk1, vi 2, vr wf, vi w, vi le, vr bA, vi rm, vi fr, vi t1, vr bS_1] []
  refine oiload X2 hx hby at_222 rfl ?_
  refine oiconst X2 hx hby at_224 ?_
  refine own_st (fun _ kS => XS.icmpNo X2.here hx rfl (hb hby at_225) rfl (flt (by decide : ¬ ((2 : Int32) < (1 : Int32)))).1 kS) ?_
  show gs T2 m 228 #[.val (.long q1), .second, vi p2, vi p3, vi kk1, vi 2, vr wf, vi w, vi le, vr bA, vi rm, vi fr, vi t1, vr bS_1] []
  refine oaload X2 hx hby at_228 rfl rfl ?_
  refine oiconst X2 hx hby at_230 ?_
  refine oV 0 X2 hx hZ hby hml hown (own_w hw 132 rfl) (own_w hw 133 rfl) (own_w hw 135 rfl) (own_w hw 134 rfl) (rm_chAt_2_0_0 l Z a0 hw [] bS_1 tN_1 kN_1 (nar .byte ((own_chr u0).toInt8.toInt32)) (nar .byte ((own_chr u1).toInt8.toInt32)) zCS fm T1.heap n0 (Nat.le_trans Z0 Kc1.1) O1 P1_0 P1_2 P1_1 P1_3 S_CS P_CS S_SF P_SF) (own_w hw 136 rfl) (own_w hw 32 rfl) eq2 P1_0 (by decide) own_pd27 at_231 rfl rfl rfl (fun T3 L3 v3 X3 hQ3 => ?_)
  obtain ⟨rfl, Nq3, eq3⟩ := hQ3
  have N3 := Fr.app N2 Nq3
  show gs T3 m 234 #[.val (.long q1), .second, vi p2, vi p3, vi kk1, vi 2, vr wf, vi w, vi le, vr bA, vi rm, vi fr, vi t1, vr bS_1] [(.int (own_lat (nar .byte ((own_chr u0).toInt8.toInt32))))]
  refine oaload X3 hx hby at_234 rfl rfl ?_
  refine oiload X3 hx hby at_236 rfl ?_
  refine oiload X3 hx hby at_238 rfl ?_
  refine oiload X3 hx hby at_240 rfl ?_
  refine oS 1 X3 hx hZ hby hml hown (own_w hw 153 rfl) (own_w hw 154 rfl) (own_w hw 3 rfl) (own_w hw 155 rfl) (rm_expected l Z a0 hw [] bA cB fr w le u0 T1.heap n0 (Nat.le_trans Z0 Kc1.1)  (own_tabk Tb Kc1 nin0) (own_g2 hr) hwl0) eq3 (by decide) own_pd28 at_242 rfl rfl rfl (fun T4 L4 v4 X4 hQ4 => ?_)
  obtain ⟨rfl, Nq4, eq4⟩ := hQ4
  have N4 := Fr.app N3 Nq4
  show gs T4 m 245 #[.val (.long q1), .second, vi p2, vi p3, vi kk1, vi 2, vr wf, vi w, vi le, vr bA, vi rm, vi fr, vi t1, vr bS_1] [(.int (own_chr u0)), (.int (own_lat (nar .byte ((own_chr u0).toInt8.toInt32))))]
  refine own_st (fun _ kS => XS.icmpYes X4.here hx rfl (pc0 := 245) (pc' := 250) rfl (hb hby at_245) rfl (teq (own_fL _ hC0 : (own_lat (nar .byte ((own_chr u0).toInt8.toInt32))) = (own_chr u0))).1 (by decide) (by decide) kS) ?_
  show gs T4 m 250 #[.val (.long q1), .second, vi p2, vi p3, vi kk1, vi 2, vr wf, vi w, vi le, vr bA, vi rm, vi fr, vi t1, vr bS_1] []
  refine oiload X4 hx hby at_250 rfl ?_
  refine oiconst X4 hx hby at_252 ?_
  refine own_st (fun _ kS => XS.icmpNo X4.here hx rfl (hb hby at_253) rfl (flt (by decide : ¬ ((2 : Int32) < (2 : Int32)))).1 kS) ?_
  show gs T4 m 256 #[.val (.long q1), .second, vi p2, vi p3, vi kk1, vi 2, vr wf, vi w, vi le, vr bA, vi rm, vi fr, vi t1, vr bS_1] []
  refine oaload X4 hx hby at_256 rfl rfl ?_
  refine oiconst X4 hx hby at_258 ?_
  refine oV 0 X4 hx hZ hby hml hown (own_w hw 132 rfl) (own_w hw 133 rfl) (own_w hw 135 rfl) (own_w hw 134 rfl) (rm_chAt_2_0_1 l Z a0 hw [] bS_1 tN_1 kN_1 (nar .byte ((own_chr u0).toInt8.toInt32)) (nar .byte ((own_chr u1).toInt8.toInt32)) zCS fm T1.heap n0 (Nat.le_trans Z0 Kc1.1) O1 P1_0 P1_2 P1_1 P1_3 S_CS P_CS S_SF P_SF) (own_w hw 136 rfl) (own_w hw 32 rfl) eq4 P1_0 (by decide) own_pd27 at_259 rfl rfl rfl (fun T5 L5 v5 X5 hQ5 => ?_)
  obtain ⟨rfl, Nq5, eq5⟩ := hQ5
  have N5 := Fr.app N4 Nq5
  show gs T5 m 262 #[.val (.long q1), .second, vi p2, vi p3, vi kk1, vi 2, vr wf, vi w, vi le, vr bA, vi rm, vi fr, vi t1, vr bS_1] [(.int (own_lat (nar .byte ((own_chr u1).toInt8.toInt32))))]
  refine oaload X5 hx hby at_262 rfl rfl ?_
  refine oiload X5 hx hby at_264 rfl ?_
  refine oiload X5 hx hby at_266 rfl ?_
  refine own_st (fun _ kS => XS.iadd X5.here hx rfl (hb hby at_268) rfl kS) ?_
  refine oiload X5 hx hby at_269 rfl ?_
  refine oiload X5 hx hby at_271 rfl ?_
  refine oS 1 X5 hx hZ hby hml hown (own_w hw 153 rfl) (own_w hw 154 rfl) (own_w hw 3 rfl) (own_w hw 155 rfl) (rm_expected l Z a0 hw [] bA cB (fr + w) w le u1 T1.heap n0 (Nat.le_trans Z0 Kc1.1)  (own_tabk Tb Kc1 nin0) (own_g3 hr) hwl1) eq5 (by decide) own_pd28 at_273 rfl rfl rfl (fun T6 L6 v6 X6 hQ6 => ?_)
  obtain ⟨rfl, Nq6, eq6⟩ := hQ6
  have N6 := Fr.app N5 Nq6
  show gs T6 m 276 #[.val (.long q1), .second, vi p2, vi p3, vi kk1, vi 2, vr wf, vi w, vi le, vr bA, vi rm, vi fr, vi t1, vr bS_1] [(.int (own_chr u1)), (.int (own_lat (nar .byte ((own_chr u1).toInt8.toInt32))))]
  refine own_st (fun _ kS => XS.icmpYes X6.here hx rfl (pc0 := 276) (pc' := 281) rfl (hb hby at_276) rfl (teq (own_fL _ hC1 : (own_lat (nar .byte ((own_chr u1).toInt8.toInt32))) = (own_chr u1))).1 (by decide) (by decide) kS) ?_
  show gs T6 m 281 #[.val (.long q1), .second, vi p2, vi p3, vi kk1, vi 2, vr wf, vi w, vi le, vr bA, vi rm, vi fr, vi t1, vr bS_1] []
  refine oiconst X6 hx hby at_281 ?_
  exact own_retN X6 hx hlk (t := .boolean) hret (by simp) (hb hby at_282) (by decide) (by decide) (v' := (1 : Int32)) rfl (by rw [eq6]; exact ⟨rfl, N6⟩)
theorem sg_C_2_LU {p : Program} {l : Launch} {e : Env} {s : State} {m : MethodId} {args : Array Value} {below : List Frame} {meth : Method} {c : Code} {T0 : State} {locs : List Loc} {Z : State} {a0 : Array Value} {h0 : Heap} {n0 : Nat} (hx : p.tables.exec = Jvm.exec) (hby : c.code = code) (hml : c.maxLocals = 14) (hown : s.vm.findClass "com/example/provenir/provenir/TextEncodingDecodePinLaw" = some m.cls) (hlk : meth.locks = false) (hret : meth.sig.returnType = some .boolean) (hZ : Z.Warmed39 s.vm) (hw : HW a0 Z) (Z0 : n0 ≤ h0.size)
    (X0 : Stand p l e room_1 s m args below meth c T0 locs 1 8) (e0 : T0.heap = h0) (N0 : Fr n0 locs) (O0 : Old Z n0 h0) (q1 : Int64) (p2 : Int32) (p3 : Int32) (kk1 : Int32) (wf : Addr) (w : Int32) (le : Int32) (zCS : Int32) (fm : Value) (bA : Addr) (cB : Cell) (rm : Int32) (fr : Int32) (t1 : Int32) (u0 : Int32) (u1 : Int32) (Tb : Tab Z h0 bA cB .byte (8 : Int32)) (Ef : ek22 Z Z.heap wf) (Fw : fk17 Z Z.heap wf (.int w)) (Fl : fk18 Z Z.heap wf (.int le)) (S_CS : sk0 Z Z.heap (.int zCS)) (P_CS : ¬ zCS = 0) (S_SF : sk4 Z Z.heap fm) (P_SF : fm.isRef = true) (S_AD : sk1 Z Z.heap (.int 1)) (S_HI : sk2 Z Z.heap (.int 0)) (S_LO : sk3 Z Z.heap (.int 8)) (hr : own_rg (2 : Int32) w fr t1) (hwl0 : own_wl w le cB fr u0) (hwl1 : own_wl w le cB (fr + w) u1) (hC0 : ¬ ((255 : Int32) < (own_chr u0))) (hC1 : (255 : Int32) < (own_chr u1)) :
    own_G p.tables e below (own_E s (Q_law n0) room_1.cells room_1.slots) (T0.setTop (mkF m 197 #[.val (.long q1), .second, vi p2, vi p3, vi kk1, vi 2, vr wf, vi w, vi le, vr bA, vi rm, vi fr, vi t1, .unset] [])) := by
  show gs T0 m 197 #[.val (.long q1), .second, vi p2, vi p3, vi kk1, vi 2, vr wf, vi w, vi le, vr bA, vi rm, vi fr, vi t1, .unset] []
  refine oaload X0 hx hby at_197 rfl rfl ?_
  refine oaload X0 hx hby at_199 rfl rfl ?_
  refine oiload X0 hx hby at_201 rfl ?_
  refine oiload X0 hx hby at_203 rfl ?_
  refine oV 0 X0 hx hZ hby hml hown (own_w hw 9 rfl) (own_w hw 10 rfl) (own_w hw 12 rfl) (own_w hw 11 rfl) (rm_dec_2_LU l Z a0 hw [] wf bA cB fr t1 w le u0 u1 zCS fm h0 n0 Z0 O0 Ef Fw Fl Tb hr hwl0 hwl1 hC0 hC1 S_CS P_CS S_SF P_SF S_AD S_HI S_LO) (own_w hw 13 rfl) (own_w hw 6 rfl) e0 (Exa.ext O0.2 Ef) (by decide) own_pd26 at_205 rfl rfl rfl (fun T1 L1 v1 X1 hQ1 => ?_)
  obtain ⟨bS_1, tN_1, kN_1, rfl, Nq1, Kc1, P1_0, P1_1, P1_2, P1_3⟩ := hQ1
  have N1 := Fr.app N0 Nq1
  have O1 := O0.keep Kc1 all0
  show gs T1 m 208 #[.val (.long q1), .second, vi p2, vi p3, vi kk1, vi 2, vr wf, vi w, vi le, vr bA, vi rm, vi fr, vi t1, .unset] [(.ref bS_1)]
  refine own_st (fun _ kS => XS.astore X1.here hx rfl (hb hby at_208) rfl rfl (l' := #[.val (.long q1), .second, vi p2, vi p3, vi kk1, vi 2, vr wf, vi w, vi le, vr bA, vi rm, vi fr, vi t1, vr bS_1]) rfl kS) ?_
  refine oaload X1 hx hby at_210 rfl rfl ?_
  refine oV 0 X1 hx hZ hby hml hown (own_w hw 90 rfl) (own_w hw 91 rfl) (own_w hw 93 rfl) (own_w hw 92 rfl) (rm_sLen_2_1 l Z a0 hw [] bS_1 tN_1 kN_1 (nar .byte ((((nar .byte ((own_chr u0).toInt8.toInt32)) &&& (255 : Int32)) >>> ((0 : Int32) &&& 31)).toInt8.toInt32)) (nar .byte ((((nar .byte ((own_chr u0).toInt8.toInt32)) &&& (255 : Int32)) >>> ((8 : Int32) &&& 31)).toInt8.toInt32)) (nar .byte (((own_chr u1) >>> ((0 : Int32) &&& 31)).toInt8.toInt32)) (nar .byte (((own_chr u1) >>> ((8 : Int32) &&& 31)).toInt8.toInt32)) zCS T1.heap n0 (Nat.le_trans Z0 Kc1.1) O1 P1_0 P1_2 P1_1 P1_3 S_CS P_CS) (own_w hw 94 rfl) (own_w hw 32 rfl) rfl P1_0 (by decide) own_pd16 at_212 rfl rfl rfl (fun T2 L2 v2 X2 hQ2 => ?_)
  obtain ⟨rfl, Nq2, eq2⟩ := hQ2
  have N2 := Fr.app N1 Nq2
  show gs T2 m 215 #[.val (.long q1), .second, vi p2, vi p3, vi kk1, vi 2, vr wf, vi w, vi le, vr bA, vi rm, vi fr, vi t1, vr bS_1] [(.int 2)]
  refine oiload X2 hx hby at_215 rfl ?_
  refine own_st (fun _ kS => XS.icmpYes X2.here hx rfl (pc0 := 217) (pc' := 222) rfl (hb hby at_217) rfl (teq (by decide : (2 : Int32) = (2 : Int32))).1 (by decide) (by decide) kS) ?_
  show gs T2 m 222 #[.val (.long q1), .second, vi p2, vi p3, vi kk1, vi 2, vr wf, vi w, vi le, vr bA, vi rm, vi fr, vi t1, vr bS_1] []
  refine oiload X2 hx hby at_222 rfl ?_
  refine oiconst X2 hx hby at_224 ?_
  refine own_st (fun _ kS => XS.icmpNo X2.here hx rfl (hb hby at_225) rfl (flt (by decide : ¬ ((2 : Int32) < (1 : Int32)))).1 kS) ?_
  show gs T2 m 228 #[.val (.long q1), .second, vi p2, vi p3, vi kk1, vi 2, vr wf, vi w, vi le, vr bA, vi rm, vi fr, vi t1, vr bS_1] []
  refine oaload X2 hx hby at_228 rfl rfl ?_
  refine oiconst X2 hx hby at_230 ?_
  refine oV 0 X2 hx hZ hby hml hown (own_w hw 132 rfl) (own_w hw 133 rfl) (own_w hw 135 rfl) (own_w hw 134 rfl) (rm_chAt_2_1_0 l Z a0 hw [] bS_1 tN_1 kN_1 (nar .byte ((((nar .byte ((own_chr u0).toInt8.toInt32)) &&& (255 : Int32)) >>> ((0 : Int32) &&& 31)).toInt8.toInt32)) (nar .byte ((((nar .byte ((own_chr u0).toInt8.toInt32)) &&& (255 : Int32)) >>> ((8 : Int32) &&& 31)).toInt8.toInt32)) (nar .byte (((own_chr u1) >>> ((0 : Int32) &&& 31)).toInt8.toInt32)) (nar .byte (((own_chr u1) >>> ((8 : Int32) &&& 31)).toInt8.toInt32)) zCS fm T1.heap n0 (Nat.le_trans Z0 Kc1.1) O1 P1_0 P1_2 P1_1 P1_3 S_CS P_CS S_SF P_SF S_AD S_HI S_LO) (own_w hw 136 rfl) (own_w hw 32 rfl) eq2 P1_0 (by decide) own_pd27 at_231 rfl rfl rfl (fun T3 L3 v3 X3 hQ3 => ?_)
  obtain ⟨rfl, Nq3, eq3⟩ := hQ3
  have N3 := Fr.app N2 Nq3
  show gs T3 m 234 #[.val (.long q1), .second, vi p2, vi p3, vi kk1, vi 2, vr wf, vi w, vi le, vr bA, vi rm, vi fr, vi t1, vr bS_1] [(.int (own_u16 (nar .byte ((((nar .byte ((own_chr u0).toInt8.toInt32)) &&& (255 : Int32)) >>> ((0 : Int32) &&& 31)).toInt8.toInt32)) (nar .byte ((((nar .byte ((own_chr u0).toInt8.toInt32)) &&& (255 : Int32)) >>> ((8 : Int32) &&& 31)).toInt8.toInt32))))]
  refine oaload X3 hx hby at_234 rfl rfl ?_
  refine oiload X3 hx hby at_236 rfl ?_
  refine oiload X3 hx hby at_238 rfl ?_
  refine oiload X3 hx hby at_240 rfl ?_
  refine oS 1 X3 hx hZ hby hml hown (own_w hw 153 rfl) (own_w hw 154 rfl) (own_w hw 3 rfl) (own_w hw 155 rfl) (rm_expected l Z a0 hw [] bA cB fr w le u0 T1.heap n0 (Nat.le_trans Z0 Kc1.1)  (own_tabk Tb Kc1 nin0) (own_g2 hr) hwl0) eq3 (by decide) own_pd28 at_242 rfl rfl rfl (fun T4 L4 v4 X4 hQ4 => ?_)
  obtain ⟨rfl, Nq4, eq4⟩ := hQ4
  have N4 := Fr.app N3 Nq4
  show gs T4 m 245 #[.val (.long q1), .second, vi p2, vi p3, vi kk1, vi 2, vr wf, vi w, vi le, vr bA, vi rm, vi fr, vi t1, vr bS_1] [(.int (own_chr u0)), (.int (own_u16 (nar .byte ((((nar .byte ((own_chr u0).toInt8.toInt32)) &&& (255 : Int32)) >>> ((0 : Int32) &&& 31)).toInt8.toInt32)) (nar .byte ((((nar .byte ((own_chr u0).toInt8.toInt32)) &&& (255 : Int32)) >>> ((8 : Int32) &&& 31)).toInt8.toInt32))))]
  refine own_st (fun _ kS => XS.icmpYes X4.here hx rfl (pc0 := 245) (pc' := 250) rfl (hb hby at_245) rfl (teq (own_fX _ hC0 : (own_u16 (nar .byte ((((nar .byte ((own_chr u0).toInt8.toInt32)) &&& (255 : Int32)) >>> ((0 : Int32) &&& 31)).toInt8.toInt32)) (nar .byte ((((nar .byte ((own_chr u0).toInt8.toInt32)) &&& (255 : Int32)) >>> ((8 : Int32) &&& 31)).toInt8.toInt32))) = (own_chr u0))).1 (by decide) (by decide) kS) ?_
  show gs T4 m 250 #[.val (.long q1), .second, vi p2, vi p3, vi kk1, vi 2, vr wf, vi w, vi le, vr bA, vi rm, vi fr, vi t1, vr bS_1] []
  refine oiload X4 hx hby at_250 rfl ?_
  refine oiconst X4 hx hby at_252 ?_
  refine own_st (fun _ kS => XS.icmpNo X4.here hx rfl (hb hby at_253) rfl (flt (by decide : ¬ ((2 : Int32) < (2 : Int32)))).1 kS) ?_
  show gs T4 m 256 #[.val (.long q1), .second, vi p2, vi p3, vi kk1, vi 2, vr wf, vi w, vi le, vr bA, vi rm, vi fr, vi t1, vr bS_1] []
  refine oaload X4 hx hby at_256 rfl rfl ?_
  refine oiconst X4 hx hby at_258 ?_
  refine oV 0 X4 hx hZ hby hml hown (own_w hw 132 rfl) (own_w hw 133 rfl) (own_w hw 135 rfl) (own_w hw 134 rfl) (rm_chAt_2_1_1 l Z a0 hw [] bS_1 tN_1 kN_1 (nar .byte ((((nar .byte ((own_chr u0).toInt8.toInt32)) &&& (255 : Int32)) >>> ((0 : Int32) &&& 31)).toInt8.toInt32)) (nar .byte ((((nar .byte ((own_chr u0).toInt8.toInt32)) &&& (255 : Int32)) >>> ((8 : Int32) &&& 31)).toInt8.toInt32)) (nar .byte (((own_chr u1) >>> ((0 : Int32) &&& 31)).toInt8.toInt32)) (nar .byte (((own_chr u1) >>> ((8 : Int32) &&& 31)).toInt8.toInt32)) zCS fm T1.heap n0 (Nat.le_trans Z0 Kc1.1) O1 P1_0 P1_2 P1_1 P1_3 S_CS P_CS S_SF P_SF S_AD S_HI S_LO) (own_w hw 136 rfl) (own_w hw 32 rfl) eq4 P1_0 (by decide) own_pd27 at_259 rfl rfl rfl (fun T5 L5 v5 X5 hQ5 => ?_)
  obtain ⟨rfl, Nq5, eq5⟩ := hQ5
  have N5 := Fr.app N4 Nq5
  show gs T5 m 262 #[.val (.long q1), .second, vi p2, vi p3, vi kk1, vi 2, vr wf, vi w, vi le, vr bA, vi rm, vi fr, vi t1, vr bS_1] [(.int (own_u16 (nar .byte (((own_chr u1) >>> ((0 : Int32) &&& 31)).toInt8.toInt32)) (nar .byte (((own_chr u1) >>> ((8 : Int32) &&& 31)).toInt8.toInt32))))]
  refine oaload X5 hx hby at_262 rfl rfl ?_
  refine oiload X5 hx hby at_264 rfl ?_
  refine oiload X5 hx hby at_266 rfl ?_
  refine own_st (fun _ kS => XS.iadd X5.here hx rfl (hb hby at_268) rfl kS) ?_
  refine oiload X5 hx hby at_269 rfl ?_
  refine oiload X5 hx hby at_271 rfl ?_
  refine oS 1 X5 hx hZ hby hml hown (own_w hw 153 rfl) (own_w hw 154 rfl) (own_w hw 3 rfl) (own_w hw 155 rfl) (rm_expected l Z a0 hw [] bA cB (fr + w) w le u1 T1.heap n0 (Nat.le_trans Z0 Kc1.1)  (own_tabk Tb Kc1 nin0) (own_g3 hr) hwl1) eq5 (by decide) own_pd28 at_273 rfl rfl rfl (fun T6 L6 v6 X6 hQ6 => ?_)
  obtain ⟨rfl, Nq6, eq6⟩ := hQ6
  have N6 := Fr.app N5 Nq6
  show gs T6 m 276 #[.val (.long q1), .second, vi p2, vi p3, vi kk1, vi 2, vr wf, vi w, vi le, vr bA, vi rm, vi fr, vi t1, vr bS_1] [(.int (own_chr u1)), (.int (own_u16 (nar .byte (((own_chr u1) >>> ((0 : Int32) &&& 31)).toInt8.toInt32)) (nar .byte (((own_chr u1) >>> ((8 : Int32) &&& 31)).toInt8.toInt32))))]
  refine own_st (fun _ kS => XS.icmpYes X6.here hx rfl (pc0 := 276) (pc' := 281) rfl (hb hby at_276) rfl (teq (own_fU _ : (own_u16 (nar .byte (((own_chr u1) >>> ((0 : Int32) &&& 31)).toInt8.toInt32)) (nar .byte (((own_chr u1) >>> ((8 : Int32) &&& 31)).toInt8.toInt32))) = (own_chr u1))).1 (by decide) (by decide) kS) ?_
  show gs T6 m 281 #[.val (.long q1), .second, vi p2, vi p3, vi kk1, vi 2, vr wf, vi w, vi le, vr bA, vi rm, vi fr, vi t1, vr bS_1] []
  refine oiconst X6 hx hby at_281 ?_
  exact own_retN X6 hx hlk (t := .boolean) hret (by simp) (hb hby at_282) (by decide) (by decide) (v' := (1 : Int32)) rfl (by rw [eq6]; exact ⟨rfl, N6⟩)
theorem sg_C_2_UW {p : Program} {l : Launch} {e : Env} {s : State} {m : MethodId} {args : Array Value} {below : List Frame} {meth : Method} {c : Code} {T0 : State} {locs : List Loc} {Z : State} {a0 : Array Value} {h0 : Heap} {n0 : Nat} (hx : p.tables.exec = Jvm.exec) (hby : c.code = code) (hml : c.maxLocals = 14) (hown : s.vm.findClass "com/example/provenir/provenir/TextEncodingDecodePinLaw" = some m.cls) (hlk : meth.locks = false) (hret : meth.sig.returnType = some .boolean) (hZ : Z.Warmed39 s.vm) (hw : HW a0 Z) (Z0 : n0 ≤ h0.size)
    (X0 : Stand p l e room_1 s m args below meth c T0 locs 1 8) (e0 : T0.heap = h0) (N0 : Fr n0 locs) (O0 : Old Z n0 h0) (q1 : Int64) (p2 : Int32) (p3 : Int32) (kk1 : Int32) (wf : Addr) (w : Int32) (le : Int32) (zCS : Int32) (fm : Value) (bA : Addr) (cB : Cell) (rm : Int32) (fr : Int32) (t1 : Int32) (u0 : Int32) (u1 : Int32) (Tb : Tab Z h0 bA cB .byte (8 : Int32)) (Ef : ek22 Z Z.heap wf) (Fw : fk17 Z Z.heap wf (.int w)) (Fl : fk18 Z Z.heap wf (.int le)) (S_CS : sk0 Z Z.heap (.int zCS)) (P_CS : ¬ zCS = 0) (S_SF : sk4 Z Z.heap fm) (P_SF : fm.isRef = true) (S_AD : sk1 Z Z.heap (.int 1)) (S_HI : sk2 Z Z.heap (.int 0)) (S_LO : sk3 Z Z.heap (.int 8)) (hr : own_rg (2 : Int32) w fr t1) (hwl0 : own_wl w le cB fr u0) (hwl1 : own_wl w le cB (fr + w) u1) (hC0 : (255 : Int32) < (own_chr u0)) :
    own_G p.tables e below (own_E s (Q_law n0) room_1.cells room_1.slots) (T0.setTop (mkF m 197 #[.val (.long q1), .second, vi p2, vi p3, vi kk1, vi 2, vr wf, vi w, vi le, vr bA, vi rm, vi fr, vi t1, .unset] [])) := by
  show gs T0 m 197 #[.val (.long q1), .second, vi p2, vi p3, vi kk1, vi 2, vr wf, vi w, vi le, vr bA, vi rm, vi fr, vi t1, .unset] []
  refine oaload X0 hx hby at_197 rfl rfl ?_
  refine oaload X0 hx hby at_199 rfl rfl ?_
  refine oiload X0 hx hby at_201 rfl ?_
  refine oiload X0 hx hby at_203 rfl ?_
  refine oV 0 X0 hx hZ hby hml hown (own_w hw 9 rfl) (own_w hw 10 rfl) (own_w hw 12 rfl) (own_w hw 11 rfl) (rm_dec_2_UW l Z a0 hw [] wf bA cB fr t1 w le u0 u1 zCS fm h0 n0 Z0 O0 Ef Fw Fl Tb hr hwl0 hwl1 hC0 S_CS P_CS S_SF P_SF S_AD S_HI S_LO) (own_w hw 13 rfl) (own_w hw 6 rfl) e0 (Exa.ext O0.2 Ef) (by decide) own_pd26 at_205 rfl rfl rfl (fun T1 L1 v1 X1 hQ1 => ?_)
  obtain ⟨bS_1, tN_1, kN_1, rfl, Nq1, Kc1, P1_0, P1_1, P1_2, P1_3⟩ := hQ1
  have N1 := Fr.app N0 Nq1
  have O1 := O0.keep Kc1 all0
  show gs T1 m 208 #[.val (.long q1), .second, vi p2, vi p3, vi kk1, vi 2, vr wf, vi w, vi le, vr bA, vi rm, vi fr, vi t1, .unset] [(.ref bS_1)]
  refine own_st (fun _ kS => XS.astore X1.here hx rfl (hb hby at_208) rfl rfl (l' := #[.val (.long q1), .second, vi p2, vi p3, vi kk1, vi 2, vr wf, vi w, vi le, vr bA, vi rm, vi fr, vi t1, vr bS_1]) rfl kS) ?_
  refine oaload X1 hx hby at_210 rfl rfl ?_
  refine oV 0 X1 hx hZ hby hml hown (own_w hw 90 rfl) (own_w hw 91 rfl) (own_w hw 93 rfl) (own_w hw 92 rfl) (rm_sLen_2_1 l Z a0 hw [] bS_1 tN_1 kN_1 (nar .byte (((own_chr u0) >>> ((0 : Int32) &&& 31)).toInt8.toInt32)) (nar .byte (((own_chr u0) >>> ((8 : Int32) &&& 31)).toInt8.toInt32)) (nar .byte (((own_chr u1) >>> ((0 : Int32) &&& 31)).toInt8.toInt32)) (nar .byte (((own_chr u1) >>> ((8 : Int32) &&& 31)).toInt8.toInt32)) zCS T1.heap n0 (Nat.le_trans Z0 Kc1.1) O1 P1_0 P1_2 P1_1 P1_3 S_CS P_CS) (own_w hw 94 rfl) (own_w hw 32 rfl) rfl P1_0 (by decide) own_pd16 at_212 rfl rfl rfl (fun T2 L2 v2 X2 hQ2 => ?_)
  obtain ⟨rfl, Nq2, eq2⟩ := hQ2
  have N2 := Fr.app N1 Nq2
  show gs T2 m 215 #[.val (.long q1), .second, vi p2, vi p3, vi kk1, vi 2, vr wf, vi w, vi le, vr bA, vi rm, vi fr, vi t1, vr bS_1] [(.int 2)]
  refine oiload X2 hx hby at_215 rfl ?_
  refine own_st (fun _ kS => XS.icmpYes X2.here hx rfl (pc0 := 217) (pc' := 222) rfl (hb hby at_217) rfl (teq (by decide : (2 : Int32) = (2 : Int32))).1 (by decide) (by decide) kS) ?_
  show gs T2 m 222 #[.val (.long q1), .second, vi p2, vi p3, vi kk1, vi 2, vr wf, vi w, vi le, vr bA, vi rm, vi fr, vi t1, vr bS_1] []
  refine oiload X2 hx hby at_222 rfl ?_
  refine oiconst X2 hx hby at_224 ?_
  refine own_st (fun _ kS => XS.icmpNo X2.here hx rfl (hb hby at_225) rfl (flt (by decide : ¬ ((2 : Int32) < (1 : Int32)))).1 kS) ?_
  show gs T2 m 228 #[.val (.long q1), .second, vi p2, vi p3, vi kk1, vi 2, vr wf, vi w, vi le, vr bA, vi rm, vi fr, vi t1, vr bS_1] []
  refine oaload X2 hx hby at_228 rfl rfl ?_
  refine oiconst X2 hx hby at_230 ?_
  refine oV 0 X2 hx hZ hby hml hown (own_w hw 132 rfl) (own_w hw 133 rfl) (own_w hw 135 rfl) (own_w hw 134 rfl) (rm_chAt_2_1_0 l Z a0 hw [] bS_1 tN_1 kN_1 (nar .byte (((own_chr u0) >>> ((0 : Int32) &&& 31)).toInt8.toInt32)) (nar .byte (((own_chr u0) >>> ((8 : Int32) &&& 31)).toInt8.toInt32)) (nar .byte (((own_chr u1) >>> ((0 : Int32) &&& 31)).toInt8.toInt32)) (nar .byte (((own_chr u1) >>> ((8 : Int32) &&& 31)).toInt8.toInt32)) zCS fm T1.heap n0 (Nat.le_trans Z0 Kc1.1) O1 P1_0 P1_2 P1_1 P1_3 S_CS P_CS S_SF P_SF S_AD S_HI S_LO) (own_w hw 136 rfl) (own_w hw 32 rfl) eq2 P1_0 (by decide) own_pd27 at_231 rfl rfl rfl (fun T3 L3 v3 X3 hQ3 => ?_)
  obtain ⟨rfl, Nq3, eq3⟩ := hQ3
  have N3 := Fr.app N2 Nq3
  show gs T3 m 234 #[.val (.long q1), .second, vi p2, vi p3, vi kk1, vi 2, vr wf, vi w, vi le, vr bA, vi rm, vi fr, vi t1, vr bS_1] [(.int (own_u16 (nar .byte (((own_chr u0) >>> ((0 : Int32) &&& 31)).toInt8.toInt32)) (nar .byte (((own_chr u0) >>> ((8 : Int32) &&& 31)).toInt8.toInt32))))]
  refine oaload X3 hx hby at_234 rfl rfl ?_
  refine oiload X3 hx hby at_236 rfl ?_
  refine oiload X3 hx hby at_238 rfl ?_
  refine oiload X3 hx hby at_240 rfl ?_
  refine oS 1 X3 hx hZ hby hml hown (own_w hw 153 rfl) (own_w hw 154 rfl) (own_w hw 3 rfl) (own_w hw 155 rfl) (rm_expected l Z a0 hw [] bA cB fr w le u0 T1.heap n0 (Nat.le_trans Z0 Kc1.1)  (own_tabk Tb Kc1 nin0) (own_g2 hr) hwl0) eq3 (by decide) own_pd28 at_242 rfl rfl rfl (fun T4 L4 v4 X4 hQ4 => ?_)
  obtain ⟨rfl, Nq4, eq4⟩ := hQ4
  have N4 := Fr.app N3 Nq4
  show gs T4 m 245 #[.val (.long q1), .second, vi p2, vi p3, vi kk1, vi 2, vr wf, vi w, vi le, vr bA, vi rm, vi fr, vi t1, vr bS_1] [(.int (own_chr u0)), (.int (own_u16 (nar .byte (((own_chr u0) >>> ((0 : Int32) &&& 31)).toInt8.toInt32)) (nar .byte (((own_chr u0) >>> ((8 : Int32) &&& 31)).toInt8.toInt32))))]
  refine own_st (fun _ kS => XS.icmpYes X4.here hx rfl (pc0 := 245) (pc' := 250) rfl (hb hby at_245) rfl (teq (own_fU _ : (own_u16 (nar .byte (((own_chr u0) >>> ((0 : Int32) &&& 31)).toInt8.toInt32)) (nar .byte (((own_chr u0) >>> ((8 : Int32) &&& 31)).toInt8.toInt32))) = (own_chr u0))).1 (by decide) (by decide) kS) ?_
  show gs T4 m 250 #[.val (.long q1), .second, vi p2, vi p3, vi kk1, vi 2, vr wf, vi w, vi le, vr bA, vi rm, vi fr, vi t1, vr bS_1] []
  refine oiload X4 hx hby at_250 rfl ?_
  refine oiconst X4 hx hby at_252 ?_
  refine own_st (fun _ kS => XS.icmpNo X4.here hx rfl (hb hby at_253) rfl (flt (by decide : ¬ ((2 : Int32) < (2 : Int32)))).1 kS) ?_
  show gs T4 m 256 #[.val (.long q1), .second, vi p2, vi p3, vi kk1, vi 2, vr wf, vi w, vi le, vr bA, vi rm, vi fr, vi t1, vr bS_1] []
  refine oaload X4 hx hby at_256 rfl rfl ?_
  refine oiconst X4 hx hby at_258 ?_
  refine oV 0 X4 hx hZ hby hml hown (own_w hw 132 rfl) (own_w hw 133 rfl) (own_w hw 135 rfl) (own_w hw 134 rfl) (rm_chAt_2_1_1 l Z a0 hw [] bS_1 tN_1 kN_1 (nar .byte (((own_chr u0) >>> ((0 : Int32) &&& 31)).toInt8.toInt32)) (nar .byte (((own_chr u0) >>> ((8 : Int32) &&& 31)).toInt8.toInt32)) (nar .byte (((own_chr u1) >>> ((0 : Int32) &&& 31)).toInt8.toInt32)) (nar .byte (((own_chr u1) >>> ((8 : Int32) &&& 31)).toInt8.toInt32)) zCS fm T1.heap n0 (Nat.le_trans Z0 Kc1.1) O1 P1_0 P1_2 P1_1 P1_3 S_CS P_CS S_SF P_SF S_AD S_HI S_LO) (own_w hw 136 rfl) (own_w hw 32 rfl) eq4 P1_0 (by decide) own_pd27 at_259 rfl rfl rfl (fun T5 L5 v5 X5 hQ5 => ?_)
  obtain ⟨rfl, Nq5, eq5⟩ := hQ5
  have N5 := Fr.app N4 Nq5
  show gs T5 m 262 #[.val (.long q1), .second, vi p2, vi p3, vi kk1, vi 2, vr wf, vi w, vi le, vr bA, vi rm, vi fr, vi t1, vr bS_1] [(.int (own_u16 (nar .byte (((own_chr u1) >>> ((0 : Int32) &&& 31)).toInt8.toInt32)) (nar .byte (((own_chr u1) >>> ((8 : Int32) &&& 31)).toInt8.toInt32))))]
  refine oaload X5 hx hby at_262 rfl rfl ?_
  refine oiload X5 hx hby at_264 rfl ?_
  refine oiload X5 hx hby at_266 rfl ?_
  refine own_st (fun _ kS => XS.iadd X5.here hx rfl (hb hby at_268) rfl kS) ?_
  refine oiload X5 hx hby at_269 rfl ?_
  refine oiload X5 hx hby at_271 rfl ?_
  refine oS 1 X5 hx hZ hby hml hown (own_w hw 153 rfl) (own_w hw 154 rfl) (own_w hw 3 rfl) (own_w hw 155 rfl) (rm_expected l Z a0 hw [] bA cB (fr + w) w le u1 T1.heap n0 (Nat.le_trans Z0 Kc1.1)  (own_tabk Tb Kc1 nin0) (own_g3 hr) hwl1) eq5 (by decide) own_pd28 at_273 rfl rfl rfl (fun T6 L6 v6 X6 hQ6 => ?_)
  obtain ⟨rfl, Nq6, eq6⟩ := hQ6
  have N6 := Fr.app N5 Nq6
  show gs T6 m 276 #[.val (.long q1), .second, vi p2, vi p3, vi kk1, vi 2, vr wf, vi w, vi le, vr bA, vi rm, vi fr, vi t1, vr bS_1] [(.int (own_chr u1)), (.int (own_u16 (nar .byte (((own_chr u1) >>> ((0 : Int32) &&& 31)).toInt8.toInt32)) (nar .byte (((own_chr u1) >>> ((8 : Int32) &&& 31)).toInt8.toInt32))))]
  refine own_st (fun _ kS => XS.icmpYes X6.here hx rfl (pc0 := 276) (pc' := 281) rfl (hb hby at_276) rfl (teq (own_fU _ : (own_u16 (nar .byte (((own_chr u1) >>> ((0 : Int32) &&& 31)).toInt8.toInt32)) (nar .byte (((own_chr u1) >>> ((8 : Int32) &&& 31)).toInt8.toInt32))) = (own_chr u1))).1 (by decide) (by decide) kS) ?_
  show gs T6 m 281 #[.val (.long q1), .second, vi p2, vi p3, vi kk1, vi 2, vr wf, vi w, vi le, vr bA, vi rm, vi fr, vi t1, vr bS_1] []
  refine oiconst X6 hx hby at_281 ?_
  exact own_retN X6 hx hlk (t := .boolean) hret (by simp) (hb hby at_282) (by decide) (by decide) (v' := (1 : Int32)) rfl (by rw [eq6]; exact ⟨rfl, N6⟩)
theorem sg_B {p : Program} {l : Launch} {e : Env} {s : State} {m : MethodId} {args : Array Value} {below : List Frame} {meth : Method} {c : Code} {T0 : State} {locs : List Loc} {Z : State} {a0 : Array Value} {h0 : Heap} {n0 : Nat} (hx : p.tables.exec = Jvm.exec) (hby : c.code = code) (hml : c.maxLocals = 14) (hown : s.vm.findClass "com/example/provenir/provenir/TextEncodingDecodePinLaw" = some m.cls) (hlk : meth.locks = false) (hret : meth.sig.returnType = some .boolean) (hZ : Z.Warmed39 s.vm) (hw : HW a0 Z) (Z0 : n0 ≤ h0.size)
    (X0 : Stand p l e room_1 s m args below meth c T0 locs 1 8) (e0 : T0.heap = h0) (N0 : Fr n0 locs) (O0 : Old Z n0 h0) (q1 : Int64) (p2 : Int32) (p3 : Int32) (kk1 : Int32) (wf : Addr) (w : Int32) (le : Int32) (zCS : Int32) (fm : Value) (nn : Int32) (bA : Addr) (cB : Cell) (Tb : Tab Z h0 bA cB .byte (8 : Int32)) (Ef : ek22 Z Z.heap wf) (Fw : fk17 Z Z.heap wf (.int w)) (Fl : fk18 Z Z.heap wf (.int le)) (S_CS : sk0 Z Z.heap (.int zCS)) (P_CS : ¬ zCS = 0) (S_SF : sk4 Z Z.heap fm) (P_SF : fm.isRef = true) (S_AD : sk1 Z Z.heap (.int 1)) (S_HI : sk2 Z Z.heap (.int 0)) (S_LO : sk3 Z Z.heap (.int 8)) (hN : nn = (0 : Int32) ∨ nn = (1 : Int32) ∨ nn = (2 : Int32)) (hW : own_w5 w le) :
    own_G p.tables e below (own_E s (Q_law n0) room_1.cells room_1.slots) (T0.setTop (mkF m 166 #[.val (.long q1), .second, vi p2, vi p3, vi kk1, vi nn, vr wf, vi w, vi le, vr bA, .unset, .unset, .unset, .unset] [])) := by
  show gs T0 m 166 #[.val (.long q1), .second, vi p2, vi p3, vi kk1, vi nn, vr wf, vi w, vi le, vr bA, .unset, .unset, .unset, .unset] []
  rcases hN with hk1 | hk1 | hk1
  · rw [hk1]
    show gs T0 m 166 #[.val (.long q1), .second, vi p2, vi p3, vi kk1, vi 0, vr wf, vi w, vi le, vr bA, .unset, .unset, .unset, .unset] []
    refine own_st (fun _ kS => XS.bipush X0.here hx rfl (hb hby at_166) kS) ?_
    refine oiload X0 hx hby at_168 rfl ?_
    refine oiload X0 hx hby at_170 rfl ?_
    refine own_st (fun _ kS => XS.imul X0.here hx rfl (hb hby at_172) rfl kS) ?_
    refine own_st (fun _ kS => XS.isub X0.here hx rfl (hb hby at_173) rfl kS) ?_
    refine own_st (fun _ kS => XS.istore X0.here hx rfl (hb hby at_174) rfl (l' := #[.val (.long q1), .second, vi p2, vi p3, vi kk1, vi 0, vr wf, vi w, vi le, vr bA, vi ((8 : Int32) - ((0 : Int32) * w)), .unset, .unset, .unset]) rfl kS) ?_
    refine oiloadN X0 hx hby at_176 rfl ?_
    show gs T0 m 177 #[.val (.long q1), .second, vi p2, vi p3, vi kk1, vi 0, vr wf, vi w, vi le, vr bA, vi ((8 : Int32) - ((0 : Int32) * w)), .unset, .unset, .unset] [(.int p3)]
    refine own_st (fun _ kS => X0.ldcInt hx hown (mvT hZ (own_w hw 0 rfl)) (g := (mkF m 177 #[.val (.long q1), .second, vi p2, vi p3, vi kk1, vi 0, vr wf, vi w, vi le, vr bA, vi ((8 : Int32) - ((0 : Int32) * w)), .unset, .unset, .unset] [(.int p3)])) rfl (hb hby at_177) _ kS) ?_
    show gs T0 m 179 #[.val (.long q1), .second, vi p2, vi p3, vi kk1, vi 0, vr wf, vi w, vi le, vr bA, vi ((8 : Int32) - ((0 : Int32) * w)), .unset, .unset, .unset] [(.int 2147483647), (.int p3)]
    refine own_st (fun _ kS => XS.iand X0.here hx rfl (hb hby at_179) rfl kS) ?_
    refine oiload X0 hx hby at_180 rfl ?_
    refine oiconst X0 hx hby at_182 ?_
    refine own_st (fun _ kS => XS.iadd X0.here hx rfl (hb hby at_183) rfl kS) ?_
    show gs T0 m 184 #[.val (.long q1), .second, vi p2, vi p3, vi kk1, vi 0, vr wf, vi w, vi le, vr bA, vi ((8 : Int32) - ((0 : Int32) * w)), .unset, .unset, .unset] [(.int (((8 : Int32) - ((0 : Int32) * w)) + (1 : Int32))), (.int (p3 &&& (2147483647 : Int32)))]
    refine own_st (fun _ kS => iremM (g := (mkF m 184 #[.val (.long q1), .second, vi p2, vi p3, vi kk1, vi 0, vr wf, vi w, vi le, vr bA, vi ((8 : Int32) - ((0 : Int32) * w)), .unset, .unset, .unset] [(.int (((8 : Int32) - ((0 : Int32) * w)) + (1 : Int32))), (.int (p3 &&& (2147483647 : Int32)))])) X0 hx rfl (hb hby at_184) rfl (own_rnz (Or.inl rfl) (own_w3 hW)) kS) ?_
    show gs T0 m 185 #[.val (.long q1), .second, vi p2, vi p3, vi kk1, vi 0, vr wf, vi w, vi le, vr bA, vi ((8 : Int32) - ((0 : Int32) * w)), .unset, .unset, .unset] [(.int ((p3 &&& (2147483647 : Int32)) % (((8 : Int32) - ((0 : Int32) * w)) + (1 : Int32))))]
    obtain ⟨fr, hfr⟩ : ∃ z, z = ((p3 &&& (2147483647 : Int32)) % (((8 : Int32) - ((0 : Int32) * w)) + (1 : Int32))) := ⟨_, rfl⟩
    rw [← hfr]
    show gs T0 m 185 #[.val (.long q1), .second, vi p2, vi p3, vi kk1, vi 0, vr wf, vi w, vi le, vr bA, vi ((8 : Int32) - ((0 : Int32) * w)), .unset, .unset, .unset] [(.int fr)]
    refine own_st (fun _ kS => XS.istore X0.here hx rfl (hb hby at_185) rfl (l' := #[.val (.long q1), .second, vi p2, vi p3, vi kk1, vi 0, vr wf, vi w, vi le, vr bA, vi ((8 : Int32) - ((0 : Int32) * w)), vi fr, .unset, .unset]) rfl kS) ?_
    refine oiload X0 hx hby at_187 rfl ?_
    refine oiload X0 hx hby at_189 rfl ?_
    refine oiload X0 hx hby at_191 rfl ?_
    refine own_st (fun _ kS => XS.imul X0.here hx rfl (hb hby at_193) rfl kS) ?_
    refine own_st (fun _ kS => XS.iadd X0.here hx rfl (hb hby at_194) rfl kS) ?_
    show gs T0 m 195 #[.val (.long q1), .second, vi p2, vi p3, vi kk1, vi 0, vr wf, vi w, vi le, vr bA, vi ((8 : Int32) - ((0 : Int32) * w)), vi fr, .unset, .unset] [(.int (fr + ((0 : Int32) * w)))]
    obtain ⟨t1, ht1⟩ : ∃ z, z = (fr + ((0 : Int32) * w)) := ⟨_, rfl⟩
    rw [← ht1]
    have hr : own_rg (0 : Int32) w fr t1 := own_rgx p3 fr t1 (Or.inl rfl) (own_w3 hW) hfr ht1
    show gs T0 m 195 #[.val (.long q1), .second, vi p2, vi p3, vi kk1, vi 0, vr wf, vi w, vi le, vr bA, vi ((8 : Int32) - ((0 : Int32) * w)), vi fr, .unset, .unset] [(.int t1)]
    refine own_st (fun _ kS => XS.istore X0.here hx rfl (hb hby at_195) rfl (l' := #[.val (.long q1), .second, vi p2, vi p3, vi kk1, vi 0, vr wf, vi w, vi le, vr bA, vi ((8 : Int32) - ((0 : Int32) * w)), vi fr, vi t1, .unset]) rfl kS) ?_
    show gs T0 m 197 #[.val (.long q1), .second, vi p2, vi p3, vi kk1, vi 0, vr wf, vi w, vi le, vr bA, vi ((8 : Int32) - ((0 : Int32) * w)), vi fr, vi t1, .unset] []
    exact sg_C_0_E hx hby hml hown hlk hret hZ hw Z0  X0 e0 N0 O0 q1 p2 p3 kk1 wf w le zCS fm bA cB ((8 : Int32) - ((0 : Int32) * w)) fr t1 Tb Ef Fw Fl S_CS P_CS S_SF P_SF S_AD S_HI S_LO hr
  · rw [hk1]
    show gs T0 m 166 #[.val (.long q1), .second, vi p2, vi p3, vi kk1, vi 1, vr wf, vi w, vi le, vr bA, .unset, .unset, .unset, .unset] []
    refine own_st (fun _ kS => XS.bipush X0.here hx rfl (hb hby at_166) kS) ?_
    refine oiload X0 hx hby at_168 rfl ?_
    refine oiload X0 hx hby at_170 rfl ?_
    refine own_st (fun _ kS => XS.imul X0.here hx rfl (hb hby at_172) rfl kS) ?_
    refine own_st (fun _ kS => XS.isub X0.here hx rfl (hb hby at_173) rfl kS) ?_
    refine own_st (fun _ kS => XS.istore X0.here hx rfl (hb hby at_174) rfl (l' := #[.val (.long q1), .second, vi p2, vi p3, vi kk1, vi 1, vr wf, vi w, vi le, vr bA, vi ((8 : Int32) - ((1 : Int32) * w)), .unset, .unset, .unset]) rfl kS) ?_
    refine oiloadN X0 hx hby at_176 rfl ?_
    show gs T0 m 177 #[.val (.long q1), .second, vi p2, vi p3, vi kk1, vi 1, vr wf, vi w, vi le, vr bA, vi ((8 : Int32) - ((1 : Int32) * w)), .unset, .unset, .unset] [(.int p3)]
    refine own_st (fun _ kS => X0.ldcInt hx hown (mvT hZ (own_w hw 0 rfl)) (g := (mkF m 177 #[.val (.long q1), .second, vi p2, vi p3, vi kk1, vi 1, vr wf, vi w, vi le, vr bA, vi ((8 : Int32) - ((1 : Int32) * w)), .unset, .unset, .unset] [(.int p3)])) rfl (hb hby at_177) _ kS) ?_
    show gs T0 m 179 #[.val (.long q1), .second, vi p2, vi p3, vi kk1, vi 1, vr wf, vi w, vi le, vr bA, vi ((8 : Int32) - ((1 : Int32) * w)), .unset, .unset, .unset] [(.int 2147483647), (.int p3)]
    refine own_st (fun _ kS => XS.iand X0.here hx rfl (hb hby at_179) rfl kS) ?_
    refine oiload X0 hx hby at_180 rfl ?_
    refine oiconst X0 hx hby at_182 ?_
    refine own_st (fun _ kS => XS.iadd X0.here hx rfl (hb hby at_183) rfl kS) ?_
    show gs T0 m 184 #[.val (.long q1), .second, vi p2, vi p3, vi kk1, vi 1, vr wf, vi w, vi le, vr bA, vi ((8 : Int32) - ((1 : Int32) * w)), .unset, .unset, .unset] [(.int (((8 : Int32) - ((1 : Int32) * w)) + (1 : Int32))), (.int (p3 &&& (2147483647 : Int32)))]
    refine own_st (fun _ kS => iremM (g := (mkF m 184 #[.val (.long q1), .second, vi p2, vi p3, vi kk1, vi 1, vr wf, vi w, vi le, vr bA, vi ((8 : Int32) - ((1 : Int32) * w)), .unset, .unset, .unset] [(.int (((8 : Int32) - ((1 : Int32) * w)) + (1 : Int32))), (.int (p3 &&& (2147483647 : Int32)))])) X0 hx rfl (hb hby at_184) rfl (own_rnz (Or.inr (Or.inl rfl)) (own_w3 hW)) kS) ?_
    show gs T0 m 185 #[.val (.long q1), .second, vi p2, vi p3, vi kk1, vi 1, vr wf, vi w, vi le, vr bA, vi ((8 : Int32) - ((1 : Int32) * w)), .unset, .unset, .unset] [(.int ((p3 &&& (2147483647 : Int32)) % (((8 : Int32) - ((1 : Int32) * w)) + (1 : Int32))))]
    obtain ⟨fr, hfr⟩ : ∃ z, z = ((p3 &&& (2147483647 : Int32)) % (((8 : Int32) - ((1 : Int32) * w)) + (1 : Int32))) := ⟨_, rfl⟩
    rw [← hfr]
    show gs T0 m 185 #[.val (.long q1), .second, vi p2, vi p3, vi kk1, vi 1, vr wf, vi w, vi le, vr bA, vi ((8 : Int32) - ((1 : Int32) * w)), .unset, .unset, .unset] [(.int fr)]
    refine own_st (fun _ kS => XS.istore X0.here hx rfl (hb hby at_185) rfl (l' := #[.val (.long q1), .second, vi p2, vi p3, vi kk1, vi 1, vr wf, vi w, vi le, vr bA, vi ((8 : Int32) - ((1 : Int32) * w)), vi fr, .unset, .unset]) rfl kS) ?_
    refine oiload X0 hx hby at_187 rfl ?_
    refine oiload X0 hx hby at_189 rfl ?_
    refine oiload X0 hx hby at_191 rfl ?_
    refine own_st (fun _ kS => XS.imul X0.here hx rfl (hb hby at_193) rfl kS) ?_
    refine own_st (fun _ kS => XS.iadd X0.here hx rfl (hb hby at_194) rfl kS) ?_
    show gs T0 m 195 #[.val (.long q1), .second, vi p2, vi p3, vi kk1, vi 1, vr wf, vi w, vi le, vr bA, vi ((8 : Int32) - ((1 : Int32) * w)), vi fr, .unset, .unset] [(.int (fr + ((1 : Int32) * w)))]
    obtain ⟨t1, ht1⟩ : ∃ z, z = (fr + ((1 : Int32) * w)) := ⟨_, rfl⟩
    rw [← ht1]
    have hr : own_rg (1 : Int32) w fr t1 := own_rgx p3 fr t1 (Or.inr (Or.inl rfl)) (own_w3 hW) hfr ht1
    show gs T0 m 195 #[.val (.long q1), .second, vi p2, vi p3, vi kk1, vi 1, vr wf, vi w, vi le, vr bA, vi ((8 : Int32) - ((1 : Int32) * w)), vi fr, .unset, .unset] [(.int t1)]
    refine own_st (fun _ kS => XS.istore X0.here hx rfl (hb hby at_195) rfl (l' := #[.val (.long q1), .second, vi p2, vi p3, vi kk1, vi 1, vr wf, vi w, vi le, vr bA, vi ((8 : Int32) - ((1 : Int32) * w)), vi fr, vi t1, .unset]) rfl kS) ?_
    show gs T0 m 197 #[.val (.long q1), .second, vi p2, vi p3, vi kk1, vi 1, vr wf, vi w, vi le, vr bA, vi ((8 : Int32) - ((1 : Int32) * w)), vi fr, vi t1, .unset] []
    obtain ⟨u0, hwl0⟩ := own_wlx cB fr hW
    by_cases hC0 : (255 : Int32) < (own_chr u0)
    · skip
      exact sg_C_1_U hx hby hml hown hlk hret hZ hw Z0  X0 e0 N0 O0 q1 p2 p3 kk1 wf w le zCS fm bA cB ((8 : Int32) - ((1 : Int32) * w)) fr t1 u0 Tb Ef Fw Fl S_CS P_CS S_SF P_SF S_AD S_HI S_LO hr hwl0 hC0
    · skip
      exact sg_C_1_L hx hby hml hown hlk hret hZ hw Z0  X0 e0 N0 O0 q1 p2 p3 kk1 wf w le zCS fm bA cB ((8 : Int32) - ((1 : Int32) * w)) fr t1 u0 Tb Ef Fw Fl S_CS P_CS S_SF P_SF S_AD S_HI S_LO hr hwl0 hC0
  · rw [hk1]
    show gs T0 m 166 #[.val (.long q1), .second, vi p2, vi p3, vi kk1, vi 2, vr wf, vi w, vi le, vr bA, .unset, .unset, .unset, .unset] []
    refine own_st (fun _ kS => XS.bipush X0.here hx rfl (hb hby at_166) kS) ?_
    refine oiload X0 hx hby at_168 rfl ?_
    refine oiload X0 hx hby at_170 rfl ?_
    refine own_st (fun _ kS => XS.imul X0.here hx rfl (hb hby at_172) rfl kS) ?_
    refine own_st (fun _ kS => XS.isub X0.here hx rfl (hb hby at_173) rfl kS) ?_
    refine own_st (fun _ kS => XS.istore X0.here hx rfl (hb hby at_174) rfl (l' := #[.val (.long q1), .second, vi p2, vi p3, vi kk1, vi 2, vr wf, vi w, vi le, vr bA, vi ((8 : Int32) - ((2 : Int32) * w)), .unset, .unset, .unset]) rfl kS) ?_
    refine oiloadN X0 hx hby at_176 rfl ?_
    show gs T0 m 177 #[.val (.long q1), .second, vi p2, vi p3, vi kk1, vi 2, vr wf, vi w, vi le, vr bA, vi ((8 : Int32) - ((2 : Int32) * w)), .unset, .unset, .unset] [(.int p3)]
    refine own_st (fun _ kS => X0.ldcInt hx hown (mvT hZ (own_w hw 0 rfl)) (g := (mkF m 177 #[.val (.long q1), .second, vi p2, vi p3, vi kk1, vi 2, vr wf, vi w, vi le, vr bA, vi ((8 : Int32) - ((2 : Int32) * w)), .unset, .unset, .unset] [(.int p3)])) rfl (hb hby at_177) _ kS) ?_
    show gs T0 m 179 #[.val (.long q1), .second, vi p2, vi p3, vi kk1, vi 2, vr wf, vi w, vi le, vr bA, vi ((8 : Int32) - ((2 : Int32) * w)), .unset, .unset, .unset] [(.int 2147483647), (.int p3)]
    refine own_st (fun _ kS => XS.iand X0.here hx rfl (hb hby at_179) rfl kS) ?_
    refine oiload X0 hx hby at_180 rfl ?_
    refine oiconst X0 hx hby at_182 ?_
    refine own_st (fun _ kS => XS.iadd X0.here hx rfl (hb hby at_183) rfl kS) ?_
    show gs T0 m 184 #[.val (.long q1), .second, vi p2, vi p3, vi kk1, vi 2, vr wf, vi w, vi le, vr bA, vi ((8 : Int32) - ((2 : Int32) * w)), .unset, .unset, .unset] [(.int (((8 : Int32) - ((2 : Int32) * w)) + (1 : Int32))), (.int (p3 &&& (2147483647 : Int32)))]
    refine own_st (fun _ kS => iremM (g := (mkF m 184 #[.val (.long q1), .second, vi p2, vi p3, vi kk1, vi 2, vr wf, vi w, vi le, vr bA, vi ((8 : Int32) - ((2 : Int32) * w)), .unset, .unset, .unset] [(.int (((8 : Int32) - ((2 : Int32) * w)) + (1 : Int32))), (.int (p3 &&& (2147483647 : Int32)))])) X0 hx rfl (hb hby at_184) rfl (own_rnz (Or.inr (Or.inr rfl)) (own_w3 hW)) kS) ?_
    show gs T0 m 185 #[.val (.long q1), .second, vi p2, vi p3, vi kk1, vi 2, vr wf, vi w, vi le, vr bA, vi ((8 : Int32) - ((2 : Int32) * w)), .unset, .unset, .unset] [(.int ((p3 &&& (2147483647 : Int32)) % (((8 : Int32) - ((2 : Int32) * w)) + (1 : Int32))))]
    obtain ⟨fr, hfr⟩ : ∃ z, z = ((p3 &&& (2147483647 : Int32)) % (((8 : Int32) - ((2 : Int32) * w)) + (1 : Int32))) := ⟨_, rfl⟩
    rw [← hfr]
    show gs T0 m 185 #[.val (.long q1), .second, vi p2, vi p3, vi kk1, vi 2, vr wf, vi w, vi le, vr bA, vi ((8 : Int32) - ((2 : Int32) * w)), .unset, .unset, .unset] [(.int fr)]
    refine own_st (fun _ kS => XS.istore X0.here hx rfl (hb hby at_185) rfl (l' := #[.val (.long q1), .second, vi p2, vi p3, vi kk1, vi 2, vr wf, vi w, vi le, vr bA, vi ((8 : Int32) - ((2 : Int32) * w)), vi fr, .unset, .unset]) rfl kS) ?_
    refine oiload X0 hx hby at_187 rfl ?_
    refine oiload X0 hx hby at_189 rfl ?_
    refine oiload X0 hx hby at_191 rfl ?_
    refine own_st (fun _ kS => XS.imul X0.here hx rfl (hb hby at_193) rfl kS) ?_
    refine own_st (fun _ kS => XS.iadd X0.here hx rfl (hb hby at_194) rfl kS) ?_
    show gs T0 m 195 #[.val (.long q1), .second, vi p2, vi p3, vi kk1, vi 2, vr wf, vi w, vi le, vr bA, vi ((8 : Int32) - ((2 : Int32) * w)), vi fr, .unset, .unset] [(.int (fr + ((2 : Int32) * w)))]
    obtain ⟨t1, ht1⟩ : ∃ z, z = (fr + ((2 : Int32) * w)) := ⟨_, rfl⟩
    rw [← ht1]
    have hr : own_rg (2 : Int32) w fr t1 := own_rgx p3 fr t1 (Or.inr (Or.inr rfl)) (own_w3 hW) hfr ht1
    show gs T0 m 195 #[.val (.long q1), .second, vi p2, vi p3, vi kk1, vi 2, vr wf, vi w, vi le, vr bA, vi ((8 : Int32) - ((2 : Int32) * w)), vi fr, .unset, .unset] [(.int t1)]
    refine own_st (fun _ kS => XS.istore X0.here hx rfl (hb hby at_195) rfl (l' := #[.val (.long q1), .second, vi p2, vi p3, vi kk1, vi 2, vr wf, vi w, vi le, vr bA, vi ((8 : Int32) - ((2 : Int32) * w)), vi fr, vi t1, .unset]) rfl kS) ?_
    show gs T0 m 197 #[.val (.long q1), .second, vi p2, vi p3, vi kk1, vi 2, vr wf, vi w, vi le, vr bA, vi ((8 : Int32) - ((2 : Int32) * w)), vi fr, vi t1, .unset] []
    obtain ⟨u0, hwl0⟩ := own_wlx cB fr hW
    obtain ⟨u1, hwl1⟩ := own_wlx cB (fr + w) hW
    by_cases hC0 : (255 : Int32) < (own_chr u0)
    · skip
      exact sg_C_2_UW hx hby hml hown hlk hret hZ hw Z0  X0 e0 N0 O0 q1 p2 p3 kk1 wf w le zCS fm bA cB ((8 : Int32) - ((2 : Int32) * w)) fr t1 u0 u1 Tb Ef Fw Fl S_CS P_CS S_SF P_SF S_AD S_HI S_LO hr hwl0 hwl1 hC0
    · skip
      by_cases hC1 : (255 : Int32) < (own_chr u1)
      · skip
        exact sg_C_2_LU hx hby hml hown hlk hret hZ hw Z0  X0 e0 N0 O0 q1 p2 p3 kk1 wf w le zCS fm bA cB ((8 : Int32) - ((2 : Int32) * w)) fr t1 u0 u1 Tb Ef Fw Fl S_CS P_CS S_SF P_SF S_AD S_HI S_LO hr hwl0 hwl1 hC0 hC1
      · skip
        exact sg_C_2_LL hx hby hml hown hlk hret hZ hw Z0  X0 e0 N0 O0 q1 p2 p3 kk1 wf w le zCS fm bA cB ((8 : Int32) - ((2 : Int32) * w)) fr t1 u0 u1 Tb Ef Fw Fl S_CS P_CS S_SF P_SF S_AD S_HI S_LO hr hwl0 hwl1 hC0 hC1
theorem sg_A {p : Program} {l : Launch} {e : Env} {s : State} {m : MethodId} {args : Array Value} {below : List Frame} {meth : Method} {c : Code} {T0 : State} {locs : List Loc} {Z : State} {a0 : Array Value} {h0 : Heap} {n0 : Nat} (hx : p.tables.exec = Jvm.exec) (hby : c.code = code) (hml : c.maxLocals = 14) (hown : s.vm.findClass "com/example/provenir/provenir/TextEncodingDecodePinLaw" = some m.cls) (hlk : meth.locks = false) (hret : meth.sig.returnType = some .boolean) (hZ : Z.Warmed39 s.vm) (hw : HW a0 Z) (Z0 : n0 ≤ h0.size)
    (X0 : Stand p l e room_1 s m args below meth c T0 locs 0 0) (e0 : T0.heap = h0) (N0 : Fr n0 locs) (O0 : Old Z n0 h0) (q1 : Int64) (p2 : Int32) (p3 : Int32) (kk1 : Int32) (wf : Addr) (w : Int32) (le : Int32) (zCS : Int32) (fm : Value) (nn : Int32) (Ef : ek22 Z Z.heap wf) (Fw : fk17 Z Z.heap wf (.int w)) (Fl : fk18 Z Z.heap wf (.int le)) (S_CS : sk0 Z Z.heap (.int zCS)) (P_CS : ¬ zCS = 0) (S_SF : sk4 Z Z.heap fm) (P_SF : fm.isRef = true) (S_AD : sk1 Z Z.heap (.int 1)) (S_HI : sk2 Z Z.heap (.int 0)) (S_LO : sk3 Z Z.heap (.int 8)) (hN : nn = (0 : Int32) ∨ nn = (1 : Int32) ∨ nn = (2 : Int32)) (hW : own_w5 w le) :
    own_G p.tables e below (own_E s (Q_law n0) room_1.cells room_1.slots) (T0.setTop (mkF m 81 #[.val (.long q1), .second, vi p2, vi p3, vi kk1, vi nn, vr wf, vi w, vi le, .unset, .unset, .unset, .unset, .unset] [])) := by
  show gs T0 m 81 #[.val (.long q1), .second, vi p2, vi p3, vi kk1, vi nn, vr wf, vi w, vi le, .unset, .unset, .unset, .unset, .unset] []
  refine own_st (fun _ kS => XS.bipush X0.here hx rfl (hb hby at_81) kS) ?_
  show gs T0 m 83 #[.val (.long q1), .second, vi p2, vi p3, vi kk1, vi nn, vr wf, vi w, vi le, .unset, .unset, .unset, .unset, .unset] [(.int 8)]
  obtain ⟨T1, h1, k1, X1, e1, E1, A1, B1, st1⟩ := newPE X0 hx hZ (own_w hw 8 rfl) e0 (g := (mkF m 83 #[.val (.long q1), .second, vi p2, vi p3, vi kk1, vi nn, vr wf, vi w, vi le, .unset, .unset, .unset, .unset, .unset] [(.int 8)])) rfl (hb hby at_83) rfl (by decide) (cap := 8) (by decide) (by decide) (by decide) (by decide) (ad := "[B") rfl
  obtain ⟨b1, g1⟩ : ∃ z, z = h0.size := ⟨_, rfl⟩
  have ge_b1 : n0 ≤ b1 := Nat.le_trans Z0 (Nat.le_of_eq g1.symm)
  rw [← g1] at A1 B1 st1
  have O1 := O0.ext E1
  have R1 : Arv Z h1 b1 k1 .byte (8 : Int32) [(.int 0), (.int 0), (.int 0), (.int 0), (.int 0), (.int 0), (.int 0), (.int 0)] (.int 0) := (Arv.new A1 (by decide)).pad (pad_rep [] (.int 0) 8)
  refine own_st st1 ?_
  show gs T1 m 85 #[.val (.long q1), .second, vi p2, vi p3, vi kk1, vi nn, vr wf, vi w, vi le, .unset, .unset, .unset, .unset, .unset] [(.ref b1)]
  refine own_st (fun _ kS => XS.astore X1.here hx rfl (hb hby at_85) rfl rfl (l' := #[.val (.long q1), .second, vi p2, vi p3, vi kk1, vi nn, vr wf, vi w, vi le, vr b1, .unset, .unset, .unset, .unset]) rfl kS) ?_
  refine oaload X1 hx hby at_87 rfl rfl ?_
  refine oiconst X1 hx hby at_89 ?_
  refine own_st (fun _ kS => XT.lloadN X1.here hx rfl (hb hby at_90) rfl kS) ?_
  refine own_st (fun _ kS => XT.l2i X1.here hx rfl (hb hby at_91) rfl kS) ?_
  refine own_st (fun _ kS => XT.i2b X1.here hx rfl (hb hby at_92) rfl kS) ?_
  show gs T1 m 93 #[.val (.long q1), .second, vi p2, vi p3, vi kk1, vi nn, vr wf, vi w, vi le, vr b1, .unset, .unset, .unset, .unset] [(.int ((q1.toInt32).toInt8.toInt32)), (.int 0), (.ref b1)]
  obtain ⟨cl2, Ar2, qa2, qs2, qn2, qh2, qg2⟩ := id R1
  obtain ⟨T2, h2, X2, e2, W2, st2⟩ := stB X1 hx hZ e1 Ar2 (j := (0 : Int32)) (inb_of qs2 ⟨by decide, by decide⟩) (g := (mkF m 93 #[.val (.long q1), .second, vi p2, vi p3, vi kk1, vi nn, vr wf, vi w, vi le, vr b1, .unset, .unset, .unset, .unset] [(.int ((q1.toInt32).toInt8.toInt32)), (.int 0), (.ref b1)])) rfl rfl (hb hby at_93)
  have N2 := Fr.snoc X2 N0 ge_b1
  have O2 := O1.wr W2 ge_b1
  have R2 : Arv Z h2 b1 k1 .byte (8 : Int32) [(.int (nar .byte ((q1.toInt32).toInt8.toInt32))), (.int 0), (.int 0), (.int 0), (.int 0), (.int 0), (.int 0), (.int 0)] (.int 0) := Arv.set Ar2 qa2 qs2 qn2 qh2 qg2 (fits_nar_byte _) W2 0 rfl (Nat.le_of_ble_eq_true rfl)
  refine own_st st2 ?_
  show gs T2 m 94 #[.val (.long q1), .second, vi p2, vi p3, vi kk1, vi nn, vr wf, vi w, vi le, vr b1, .unset, .unset, .unset, .unset] []
  refine oaload X2 hx hby at_94 rfl rfl ?_
  refine oiconst X2 hx hby at_96 ?_
  refine own_st (fun _ kS => XT.lloadN X2.here hx rfl (hb hby at_97) rfl kS) ?_
  refine own_st (fun _ kS => XS.bipush X2.here hx rfl (hb hby at_98) kS) ?_
  refine own_st (fun _ kS => XT.lushr X2.here hx rfl (hb hby at_100) rfl kS) ?_
  refine own_st (fun _ kS => XT.l2i X2.here hx rfl (hb hby at_101) rfl kS) ?_
  refine own_st (fun _ kS => XT.i2b X2.here hx rfl (hb hby at_102) rfl kS) ?_
  show gs T2 m 103 #[.val (.long q1), .second, vi p2, vi p3, vi kk1, vi nn, vr wf, vi w, vi le, vr b1, .unset, .unset, .unset, .unset] [(.int (((XT.ushrL q1 (8 : Int32)).toInt32).toInt8.toInt32)), (.int 1), (.ref b1)]
  obtain ⟨cl3, Ar3, qa3, qs3, qn3, qh3, qg3⟩ := id R2
  obtain ⟨T3, h3, X3, e3, W3, st3⟩ := stB X2 hx hZ e2 Ar3 (j := (1 : Int32)) (inb_of qs3 ⟨by decide, by decide⟩) (g := (mkF m 103 #[.val (.long q1), .second, vi p2, vi p3, vi kk1, vi nn, vr wf, vi w, vi le, vr b1, .unset, .unset, .unset, .unset] [(.int (((XT.ushrL q1 (8 : Int32)).toInt32).toInt8.toInt32)), (.int 1), (.ref b1)])) rfl rfl (hb hby at_103)
  have N3 := Fr.snoc X3 N2 ge_b1
  have O3 := O2.wr W3 ge_b1
  have R3 : Arv Z h3 b1 k1 .byte (8 : Int32) [(.int (nar .byte ((q1.toInt32).toInt8.toInt32))), (.int (nar .byte (((XT.ushrL q1 (8 : Int32)).toInt32).toInt8.toInt32))), (.int 0), (.int 0), (.int 0), (.int 0), (.int 0), (.int 0)] (.int 0) := Arv.set Ar3 qa3 qs3 qn3 qh3 qg3 (fits_nar_byte _) W3 1 rfl (Nat.le_of_ble_eq_true rfl)
  refine own_st st3 ?_
  show gs T3 m 104 #[.val (.long q1), .second, vi p2, vi p3, vi kk1, vi nn, vr wf, vi w, vi le, vr b1, .unset, .unset, .unset, .unset] []
  refine oaload X3 hx hby at_104 rfl rfl ?_
  refine oiconst X3 hx hby at_106 ?_
  refine own_st (fun _ kS => XT.lloadN X3.here hx rfl (hb hby at_107) rfl kS) ?_
  refine own_st (fun _ kS => XS.bipush X3.here hx rfl (hb hby at_108) kS) ?_
  refine own_st (fun _ kS => XT.lushr X3.here hx rfl (hb hby at_110) rfl kS) ?_
  refine own_st (fun _ kS => XT.l2i X3.here hx rfl (hb hby at_111) rfl kS) ?_
  refine own_st (fun _ kS => XT.i2b X3.here hx rfl (hb hby at_112) rfl kS) ?_
  show gs T3 m 113 #[.val (.long q1), .second, vi p2, vi p3, vi kk1, vi nn, vr wf, vi w, vi le, vr b1, .unset, .unset, .unset, .unset] [(.int (((XT.ushrL q1 (16 : Int32)).toInt32).toInt8.toInt32)), (.int 2), (.ref b1)]
  obtain ⟨cl4, Ar4, qa4, qs4, qn4, qh4, qg4⟩ := id R3
  obtain ⟨T4, h4, X4, e4, W4, st4⟩ := stB X3 hx hZ e3 Ar4 (j := (2 : Int32)) (inb_of qs4 ⟨by decide, by decide⟩) (g := (mkF m 113 #[.val (.long q1), .second, vi p2, vi p3, vi kk1, vi nn, vr wf, vi w, vi le, vr b1, .unset, .unset, .unset, .unset] [(.int (((XT.ushrL q1 (16 : Int32)).toInt32).toInt8.toInt32)), (.int 2), (.ref b1)])) rfl rfl (hb hby at_113)
  have N4 := Fr.snoc X4 N3 ge_b1
  have O4 := O3.wr W4 ge_b1
  have R4 : Arv Z h4 b1 k1 .byte (8 : Int32) [(.int (nar .byte ((q1.toInt32).toInt8.toInt32))), (.int (nar .byte (((XT.ushrL q1 (8 : Int32)).toInt32).toInt8.toInt32))), (.int (nar .byte (((XT.ushrL q1 (16 : Int32)).toInt32).toInt8.toInt32))), (.int 0), (.int 0), (.int 0), (.int 0), (.int 0)] (.int 0) := Arv.set Ar4 qa4 qs4 qn4 qh4 qg4 (fits_nar_byte _) W4 2 rfl (Nat.le_of_ble_eq_true rfl)
  refine own_st st4 ?_
  show gs T4 m 114 #[.val (.long q1), .second, vi p2, vi p3, vi kk1, vi nn, vr wf, vi w, vi le, vr b1, .unset, .unset, .unset, .unset] []
  refine oaload X4 hx hby at_114 rfl rfl ?_
  refine oiconst X4 hx hby at_116 ?_
  refine own_st (fun _ kS => XT.lloadN X4.here hx rfl (hb hby at_117) rfl kS) ?_
  refine own_st (fun _ kS => XS.bipush X4.here hx rfl (hb hby at_118) kS) ?_
  refine own_st (fun _ kS => XT.lushr X4.here hx rfl (hb hby at_120) rfl kS) ?_
  refine own_st (fun _ kS => XT.l2i X4.here hx rfl (hb hby at_121) rfl kS) ?_
  refine own_st (fun _ kS => XT.i2b X4.here hx rfl (hb hby at_122) rfl kS) ?_
  show gs T4 m 123 #[.val (.long q1), .second, vi p2, vi p3, vi kk1, vi nn, vr wf, vi w, vi le, vr b1, .unset, .unset, .unset, .unset] [(.int (((XT.ushrL q1 (24 : Int32)).toInt32).toInt8.toInt32)), (.int 3), (.ref b1)]
  obtain ⟨cl5, Ar5, qa5, qs5, qn5, qh5, qg5⟩ := id R4
  obtain ⟨T5, h5, X5, e5, W5, st5⟩ := stB X4 hx hZ e4 Ar5 (j := (3 : Int32)) (inb_of qs5 ⟨by decide, by decide⟩) (g := (mkF m 123 #[.val (.long q1), .second, vi p2, vi p3, vi kk1, vi nn, vr wf, vi w, vi le, vr b1, .unset, .unset, .unset, .unset] [(.int (((XT.ushrL q1 (24 : Int32)).toInt32).toInt8.toInt32)), (.int 3), (.ref b1)])) rfl rfl (hb hby at_123)
  have N5 := Fr.snoc X5 N4 ge_b1
  have O5 := O4.wr W5 ge_b1
  have R5 : Arv Z h5 b1 k1 .byte (8 : Int32) [(.int (nar .byte ((q1.toInt32).toInt8.toInt32))), (.int (nar .byte (((XT.ushrL q1 (8 : Int32)).toInt32).toInt8.toInt32))), (.int (nar .byte (((XT.ushrL q1 (16 : Int32)).toInt32).toInt8.toInt32))), (.int (nar .byte (((XT.ushrL q1 (24 : Int32)).toInt32).toInt8.toInt32))), (.int 0), (.int 0), (.int 0), (.int 0)] (.int 0) := Arv.set Ar5 qa5 qs5 qn5 qh5 qg5 (fits_nar_byte _) W5 3 rfl (Nat.le_of_ble_eq_true rfl)
  refine own_st st5 ?_
  show gs T5 m 124 #[.val (.long q1), .second, vi p2, vi p3, vi kk1, vi nn, vr wf, vi w, vi le, vr b1, .unset, .unset, .unset, .unset] []
  refine oaload X5 hx hby at_124 rfl rfl ?_
  refine oiconst X5 hx hby at_126 ?_
  refine own_st (fun _ kS => XT.lloadN X5.here hx rfl (hb hby at_127) rfl kS) ?_
  refine own_st (fun _ kS => XS.bipush X5.here hx rfl (hb hby at_128) kS) ?_
  refine own_st (fun _ kS => XT.lushr X5.here hx rfl (hb hby at_130) rfl kS) ?_
  refine own_st (fun _ kS => XT.l2i X5.here hx rfl (hb hby at_131) rfl kS) ?_
  refine own_st (fun _ kS => XT.i2b X5.here hx rfl (hb hby at_132) rfl kS) ?_
  show gs T5 m 133 #[.val (.long q1), .second, vi p2, vi p3, vi kk1, vi nn, vr wf, vi w, vi le, vr b1, .unset, .unset, .unset, .unset] [(.int (((XT.ushrL q1 (32 : Int32)).toInt32).toInt8.toInt32)), (.int 4), (.ref b1)]
  obtain ⟨cl6, Ar6, qa6, qs6, qn6, qh6, qg6⟩ := id R5
  obtain ⟨T6, h6, X6, e6, W6, st6⟩ := stB X5 hx hZ e5 Ar6 (j := (4 : Int32)) (inb_of qs6 ⟨by decide, by decide⟩) (g := (mkF m 133 #[.val (.long q1), .second, vi p2, vi p3, vi kk1, vi nn, vr wf, vi w, vi le, vr b1, .unset, .unset, .unset, .unset] [(.int (((XT.ushrL q1 (32 : Int32)).toInt32).toInt8.toInt32)), (.int 4), (.ref b1)])) rfl rfl (hb hby at_133)
  have N6 := Fr.snoc X6 N5 ge_b1
  have O6 := O5.wr W6 ge_b1
  have R6 : Arv Z h6 b1 k1 .byte (8 : Int32) [(.int (nar .byte ((q1.toInt32).toInt8.toInt32))), (.int (nar .byte (((XT.ushrL q1 (8 : Int32)).toInt32).toInt8.toInt32))), (.int (nar .byte (((XT.ushrL q1 (16 : Int32)).toInt32).toInt8.toInt32))), (.int (nar .byte (((XT.ushrL q1 (24 : Int32)).toInt32).toInt8.toInt32))), (.int (nar .byte (((XT.ushrL q1 (32 : Int32)).toInt32).toInt8.toInt32))), (.int 0), (.int 0), (.int 0)] (.int 0) := Arv.set Ar6 qa6 qs6 qn6 qh6 qg6 (fits_nar_byte _) W6 4 rfl (Nat.le_of_ble_eq_true rfl)
  refine own_st st6 ?_
  show gs T6 m 134 #[.val (.long q1), .second, vi p2, vi p3, vi kk1, vi nn, vr wf, vi w, vi le, vr b1, .unset, .unset, .unset, .unset] []
  refine oaload X6 hx hby at_134 rfl rfl ?_
  refine oiconst X6 hx hby at_136 ?_
  refine own_st (fun _ kS => XT.lloadN X6.here hx rfl (hb hby at_137) rfl kS) ?_
  refine own_st (fun _ kS => XS.bipush X6.here hx rfl (hb hby at_138) kS) ?_
  refine own_st (fun _ kS => XT.lushr X6.here hx rfl (hb hby at_140) rfl kS) ?_
  refine own_st (fun _ kS => XT.l2i X6.here hx rfl (hb hby at_141) rfl kS) ?_
  refine own_st (fun _ kS => XT.i2b X6.here hx rfl (hb hby at_142) rfl kS) ?_
  show gs T6 m 143 #[.val (.long q1), .second, vi p2, vi p3, vi kk1, vi nn, vr wf, vi w, vi le, vr b1, .unset, .unset, .unset, .unset] [(.int (((XT.ushrL q1 (40 : Int32)).toInt32).toInt8.toInt32)), (.int 5), (.ref b1)]
  obtain ⟨cl7, Ar7, qa7, qs7, qn7, qh7, qg7⟩ := id R6
  obtain ⟨T7, h7, X7, e7, W7, st7⟩ := stB X6 hx hZ e6 Ar7 (j := (5 : Int32)) (inb_of qs7 ⟨by decide, by decide⟩) (g := (mkF m 143 #[.val (.long q1), .second, vi p2, vi p3, vi kk1, vi nn, vr wf, vi w, vi le, vr b1, .unset, .unset, .unset, .unset] [(.int (((XT.ushrL q1 (40 : Int32)).toInt32).toInt8.toInt32)), (.int 5), (.ref b1)])) rfl rfl (hb hby at_143)
  have N7 := Fr.snoc X7 N6 ge_b1
  have O7 := O6.wr W7 ge_b1
  have R7 : Arv Z h7 b1 k1 .byte (8 : Int32) [(.int (nar .byte ((q1.toInt32).toInt8.toInt32))), (.int (nar .byte (((XT.ushrL q1 (8 : Int32)).toInt32).toInt8.toInt32))), (.int (nar .byte (((XT.ushrL q1 (16 : Int32)).toInt32).toInt8.toInt32))), (.int (nar .byte (((XT.ushrL q1 (24 : Int32)).toInt32).toInt8.toInt32))), (.int (nar .byte (((XT.ushrL q1 (32 : Int32)).toInt32).toInt8.toInt32))), (.int (nar .byte (((XT.ushrL q1 (40 : Int32)).toInt32).toInt8.toInt32))), (.int 0), (.int 0)] (.int 0) := Arv.set Ar7 qa7 qs7 qn7 qh7 qg7 (fits_nar_byte _) W7 5 rfl (Nat.le_of_ble_eq_true rfl)
  refine own_st st7 ?_
  show gs T7 m 144 #[.val (.long q1), .second, vi p2, vi p3, vi kk1, vi nn, vr wf, vi w, vi le, vr b1, .unset, .unset, .unset, .unset] []
  refine oaload X7 hx hby at_144 rfl rfl ?_
  refine own_st (fun _ kS => XS.bipush X7.here hx rfl (hb hby at_146) kS) ?_
  refine own_st (fun _ kS => XT.lloadN X7.here hx rfl (hb hby at_148) rfl kS) ?_
  refine own_st (fun _ kS => XS.bipush X7.here hx rfl (hb hby at_149) kS) ?_
  refine own_st (fun _ kS => XT.lushr X7.here hx rfl (hb hby at_151) rfl kS) ?_
  refine own_st (fun _ kS => XT.l2i X7.here hx rfl (hb hby at_152) rfl kS) ?_
  refine own_st (fun _ kS => XT.i2b X7.here hx rfl (hb hby at_153) rfl kS) ?_
  show gs T7 m 154 #[.val (.long q1), .second, vi p2, vi p3, vi kk1, vi nn, vr wf, vi w, vi le, vr b1, .unset, .unset, .unset, .unset] [(.int (((XT.ushrL q1 (48 : Int32)).toInt32).toInt8.toInt32)), (.int 6), (.ref b1)]
  obtain ⟨cl8, Ar8, qa8, qs8, qn8, qh8, qg8⟩ := id R7
  obtain ⟨T8, h8, X8, e8, W8, st8⟩ := stB X7 hx hZ e7 Ar8 (j := (6 : Int32)) (inb_of qs8 ⟨by decide, by decide⟩) (g := (mkF m 154 #[.val (.long q1), .second, vi p2, vi p3, vi kk1, vi nn, vr wf, vi w, vi le, vr b1, .unset, .unset, .unset, .unset] [(.int (((XT.ushrL q1 (48 : Int32)).toInt32).toInt8.toInt32)), (.int 6), (.ref b1)])) rfl rfl (hb hby at_154)
  have N8 := Fr.snoc X8 N7 ge_b1
  have O8 := O7.wr W8 ge_b1
  have R8 : Arv Z h8 b1 k1 .byte (8 : Int32) [(.int (nar .byte ((q1.toInt32).toInt8.toInt32))), (.int (nar .byte (((XT.ushrL q1 (8 : Int32)).toInt32).toInt8.toInt32))), (.int (nar .byte (((XT.ushrL q1 (16 : Int32)).toInt32).toInt8.toInt32))), (.int (nar .byte (((XT.ushrL q1 (24 : Int32)).toInt32).toInt8.toInt32))), (.int (nar .byte (((XT.ushrL q1 (32 : Int32)).toInt32).toInt8.toInt32))), (.int (nar .byte (((XT.ushrL q1 (40 : Int32)).toInt32).toInt8.toInt32))), (.int (nar .byte (((XT.ushrL q1 (48 : Int32)).toInt32).toInt8.toInt32))), (.int 0)] (.int 0) := Arv.set Ar8 qa8 qs8 qn8 qh8 qg8 (fits_nar_byte _) W8 6 rfl (Nat.le_of_ble_eq_true rfl)
  refine own_st st8 ?_
  show gs T8 m 155 #[.val (.long q1), .second, vi p2, vi p3, vi kk1, vi nn, vr wf, vi w, vi le, vr b1, .unset, .unset, .unset, .unset] []
  refine oaload X8 hx hby at_155 rfl rfl ?_
  refine own_st (fun _ kS => XS.bipush X8.here hx rfl (hb hby at_157) kS) ?_
  refine own_st (fun _ kS => XT.lloadN X8.here hx rfl (hb hby at_159) rfl kS) ?_
  refine own_st (fun _ kS => XS.bipush X8.here hx rfl (hb hby at_160) kS) ?_
  refine own_st (fun _ kS => XT.lushr X8.here hx rfl (hb hby at_162) rfl kS) ?_
  refine own_st (fun _ kS => XT.l2i X8.here hx rfl (hb hby at_163) rfl kS) ?_
  refine own_st (fun _ kS => XT.i2b X8.here hx rfl (hb hby at_164) rfl kS) ?_
  show gs T8 m 165 #[.val (.long q1), .second, vi p2, vi p3, vi kk1, vi nn, vr wf, vi w, vi le, vr b1, .unset, .unset, .unset, .unset] [(.int (((XT.ushrL q1 (56 : Int32)).toInt32).toInt8.toInt32)), (.int 7), (.ref b1)]
  obtain ⟨cl9, Ar9, qa9, qs9, qn9, qh9, qg9⟩ := id R8
  obtain ⟨T9, h9, X9, e9, W9, st9⟩ := stB X8 hx hZ e8 Ar9 (j := (7 : Int32)) (inb_of qs9 ⟨by decide, by decide⟩) (g := (mkF m 165 #[.val (.long q1), .second, vi p2, vi p3, vi kk1, vi nn, vr wf, vi w, vi le, vr b1, .unset, .unset, .unset, .unset] [(.int (((XT.ushrL q1 (56 : Int32)).toInt32).toInt8.toInt32)), (.int 7), (.ref b1)])) rfl rfl (hb hby at_165)
  have N9 := Fr.snoc X9 N8 ge_b1
  have O9 := O8.wr W9 ge_b1
  have R9 : Arv Z h9 b1 k1 .byte (8 : Int32) [(.int (nar .byte ((q1.toInt32).toInt8.toInt32))), (.int (nar .byte (((XT.ushrL q1 (8 : Int32)).toInt32).toInt8.toInt32))), (.int (nar .byte (((XT.ushrL q1 (16 : Int32)).toInt32).toInt8.toInt32))), (.int (nar .byte (((XT.ushrL q1 (24 : Int32)).toInt32).toInt8.toInt32))), (.int (nar .byte (((XT.ushrL q1 (32 : Int32)).toInt32).toInt8.toInt32))), (.int (nar .byte (((XT.ushrL q1 (40 : Int32)).toInt32).toInt8.toInt32))), (.int (nar .byte (((XT.ushrL q1 (48 : Int32)).toInt32).toInt8.toInt32))), (.int (nar .byte (((XT.ushrL q1 (56 : Int32)).toInt32).toInt8.toInt32)))] (.int 0) := Arv.set Ar9 qa9 qs9 qn9 qh9 qg9 (fits_nar_byte _) W9 7 rfl (Nat.le_of_ble_eq_true rfl)
  refine own_st st9 ?_
  show gs T9 m 166 #[.val (.long q1), .second, vi p2, vi p3, vi kk1, vi nn, vr wf, vi w, vi le, vr b1, .unset, .unset, .unset, .unset] []
  obtain ⟨cB, Tb⟩ := own_tab R9 (fun i => by match i with | 0 => exact ⟨_, rfl⟩ | 1 => exact ⟨_, rfl⟩ | 2 => exact ⟨_, rfl⟩ | 3 => exact ⟨_, rfl⟩ | 4 => exact ⟨_, rfl⟩ | 5 => exact ⟨_, rfl⟩ | 6 => exact ⟨_, rfl⟩ | 7 => exact ⟨_, rfl⟩ | _ + 8 => exact ⟨_, rfl⟩)
  exact sg_B hx hby hml hown hlk hret hZ hw (Nat.le_trans (Nat.le_trans (Nat.le_trans (Nat.le_trans (Nat.le_trans (Nat.le_trans (Nat.le_trans (Nat.le_trans (Nat.le_trans Z0 E1.1) (Keep.of_wr W2).1) (Keep.of_wr W3).1) (Keep.of_wr W4).1) (Keep.of_wr W5).1) (Keep.of_wr W6).1) (Keep.of_wr W7).1) (Keep.of_wr W8).1) (Keep.of_wr W9).1)  X9 e9 N9 O9 q1 p2 p3 kk1 wf w le zCS fm nn b1 cB Tb Ef Fw Fl S_CS P_CS S_SF P_SF S_AD S_HI S_LO hN hW
theorem own_pd29 : parseMethodDescriptor "(I)Lcom/example/provenir/provenir/TextEncoding;" = some ⟨[.int], some (.object "com/example/provenir/provenir/TextEncoding")⟩ := by decide +kernel
theorem ef_law (m : MethodId) (x0 : Int64) (x1 : Int32) (x2 : Int32) : entryFrame m #[(.long x0), (.int x1), (.int x2)] maxLocals = mkF m 0 #[.val (.long x0), .second, .val (.int x1), .val (.int x2), .unset, .unset, .unset, .unset, .unset, .unset, .unset, .unset, .unset, .unset] [] := by first | (simp [entryFrame, mkF, argsToLocals, Value.category, maxLocals]; done) | rfl
theorem rm_law (l : Launch) (Z : State) (a0 : Array Value) (hw : HW a0 Z) (ws : List Jvm.Cond) (q1 : Int64) (p2 : Int32) (p3 : Int32) (w_UTF_8 : Addr) (w_UTF_32BE : Addr) (w_UTF_32LE : Addr) (w_UTF_16BE : Addr) (w_UTF_16LE : Addr) (w_UNMARKED : Addr) (zCS : Int32) (fm : Value) (h0 : Heap) (n0 : Nat) (Z0 : n0 ≤ h0.size) (O0 : Old Z n0 h0) (S_UTF_8 : sk5 Z Z.heap (.ref w_UTF_8)) (S_UTF_32BE : sk6 Z Z.heap (.ref w_UTF_32BE)) (S_UTF_32LE : sk7 Z Z.heap (.ref w_UTF_32LE)) (S_UTF_16BE : sk8 Z Z.heap (.ref w_UTF_16BE)) (S_UTF_16LE : sk9 Z Z.heap (.ref w_UTF_16LE)) (S_UNMARKED : sk10 Z Z.heap (.ref w_UNMARKED)) (E_UTF_8 : ek22 Z Z.heap w_UTF_8) (E_UTF_32BE : ek22 Z Z.heap w_UTF_32BE) (E_UTF_32LE : ek22 Z Z.heap w_UTF_32LE) (E_UTF_16BE : ek22 Z Z.heap w_UTF_16BE) (E_UTF_16LE : ek22 Z Z.heap w_UTF_16LE) (E_UNMARKED : ek22 Z Z.heap w_UNMARKED) (F_UTF_8_width : fk17 Z Z.heap w_UTF_8 (.int 1)) (F_UTF_8_littleEndian : fk18 Z Z.heap w_UTF_8 (.int 0)) (F_UTF_32BE_width : fk17 Z Z.heap w_UTF_32BE (.int 4)) (F_UTF_32BE_littleEndian : fk18 Z Z.heap w_UTF_32BE (.int 0)) (F_UTF_32LE_width : fk17 Z Z.heap w_UTF_32LE (.int 4)) (F_UTF_32LE_littleEndian : fk18 Z Z.heap w_UTF_32LE (.int 1)) (F_UTF_16BE_width : fk17 Z Z.heap w_UTF_16BE (.int 2)) (F_UTF_16BE_littleEndian : fk18 Z Z.heap w_UTF_16BE (.int 0)) (F_UTF_16LE_width : fk17 Z Z.heap w_UTF_16LE (.int 2)) (F_UTF_16LE_littleEndian : fk18 Z Z.heap w_UTF_16LE (.int 1)) (F_UNMARKED_width : fk17 Z Z.heap w_UNMARKED (.int 1)) (F_UNMARKED_littleEndian : fk18 Z Z.heap w_UNMARKED (.int 0)) (S_CS : sk0 Z Z.heap (.int zCS)) (P_CS : ¬ zCS = 0) (S_SF : sk4 Z Z.heap fm) (P_SF : fm.isRef = true) (S_AD : sk1 Z Z.heap (.int 1)) (S_HI : sk2 Z Z.heap (.int 0)) (S_LO : sk3 Z Z.heap (.int 8)) :
    MetFree l x (head1 (Jvm.Cond.code x code maxLocals ret :: ws) room_1) (fun a U => a = #[(.long q1), (.int p2), (.int p3)] ∧ Z.Warmed39 U.vm ∧ U.heap = h0) (fun _ _ _ _ _ => True) (fun _ U o U' => ∃ v L, o = .returned v ∧ Q_law n0 v U'.heap L ∧ FrameEnd U o U' L room_1.cells room_1.slots) := by
  refine MetFree.of_bodySF (plainFor_of_name pn_0) hisR ?_
  intro p e s m args below meth c s₁ Bd hml0 hP hK
  obtain ⟨rfl, hZ, hh⟩ := hP
  have hx := Bd.exec
  have hby := Bd.bytes
  have hml : c.maxLocals = 14 := hml0
  have hown : s.vm.findClass "com/example/provenir/provenir/TextEncodingDecodePinLaw" = some m.cls := findClass_of_methodNamed Bd.named
  have hnm := (name_of_methodNamed Bd.named Bd.method).1
  have hlk := Bd.notSynchronized
  have hret := Bd.returns
  have X0 : Stand p l e room_1 s m #[(.long q1), (.int p2), (.int p3)] below meth c s₁ [] 0 0 := Stand.of_body Bd
  have e0 : s₁.heap = h0 := by rw [← hh, Bd.state]; rfl
  have N0 := Fr.nil n0
  refine own_in room_1.cells room_1.slots (Q_law n0) (ef_law m q1 p2 p3) ?_
  show gs s₁ m 0 #[.val (.long q1), .second, vi p2, vi p3, .unset, .unset, .unset, .unset, .unset, .unset, .unset, .unset, .unset, .unset] []
  refine oiloadN X0 hx hby at_0 rfl ?_
  show gs s₁ m 1 #[.val (.long q1), .second, vi p2, vi p3, .unset, .unset, .unset, .unset, .unset, .unset, .unset, .unset, .unset, .unset] [(.int p2)]
  refine own_st (fun _ kS => X0.ldcInt hx hown (mvT hZ (own_w hw 0 rfl)) (g := (mkF m 1 #[.val (.long q1), .second, vi p2, vi p3, .unset, .unset, .unset, .unset, .unset, .unset, .unset, .unset, .unset, .unset] [(.int p2)])) rfl (hb hby at_1) _ kS) ?_
  show gs s₁ m 3 #[.val (.long q1), .second, vi p2, vi p3, .unset, .unset, .unset, .unset, .unset, .unset, .unset, .unset, .unset, .unset] [(.int 2147483647), (.int p2)]
  refine own_st (fun _ kS => XS.iand X0.here hx rfl (hb hby at_3) rfl kS) ?_
  refine own_st (fun _ kS => XS.bipush X0.here hx rfl (hb hby at_4) kS) ?_
  show gs s₁ m 6 #[.val (.long q1), .second, vi p2, vi p3, .unset, .unset, .unset, .unset, .unset, .unset, .unset, .unset, .unset, .unset] [(.int 6), (.int (p2 &&& (2147483647 : Int32)))]
  refine own_st (fun _ kS => iremM (g := (mkF m 6 #[.val (.long q1), .second, vi p2, vi p3, .unset, .unset, .unset, .unset, .unset, .unset, .unset, .unset, .unset, .unset] [(.int 6), (.int (p2 &&& (2147483647 : Int32)))])) X0 hx rfl (hb hby at_6) rfl (by decide) kS) ?_
  show gs s₁ m 7 #[.val (.long q1), .second, vi p2, vi p3, .unset, .unset, .unset, .unset, .unset, .unset, .unset, .unset, .unset, .unset] [(.int ((p2 &&& (2147483647 : Int32)) % (6 : Int32)))]
  rcases own_mod6 p2 with hk1 | hk1 | hk1 | hk1 | hk1 | hk1
  · rw [hk1]
    show gs s₁ m 7 #[.val (.long q1), .second, vi p2, vi p3, .unset, .unset, .unset, .unset, .unset, .unset, .unset, .unset, .unset, .unset] [(.int 0)]
    refine own_st (fun _ kS => XS.istore X0.here hx rfl (hb hby at_7) rfl (l' := #[.val (.long q1), .second, vi p2, vi p3, vi 0, .unset, .unset, .unset, .unset, .unset, .unset, .unset, .unset, .unset]) rfl kS) ?_
    refine oiloadN X0 hx hby at_9 rfl ?_
    refine own_st (fun _ kS => XS.bipush X0.here hx rfl (hb hby at_10) kS) ?_
    refine own_st (fun _ kS => XT.iushr X0.here hx rfl (hb hby at_12) rfl kS) ?_
    show gs s₁ m 13 #[.val (.long q1), .second, vi p2, vi p3, vi 0, .unset, .unset, .unset, .unset, .unset, .unset, .unset, .unset, .unset] [(.int (XT.ushr p2 (8 : Int32)))]
    refine own_st (fun _ kS => X0.ldcInt hx hown (mvT hZ (own_w hw 0 rfl)) (g := (mkF m 13 #[.val (.long q1), .second, vi p2, vi p3, vi 0, .unset, .unset, .unset, .unset, .unset, .unset, .unset, .unset, .unset] [(.int (XT.ushr p2 (8 : Int32)))])) rfl (hb hby at_13) _ kS) ?_
    show gs s₁ m 15 #[.val (.long q1), .second, vi p2, vi p3, vi 0, .unset, .unset, .unset, .unset, .unset, .unset, .unset, .unset, .unset] [(.int 2147483647), (.int (XT.ushr p2 (8 : Int32)))]
    refine own_st (fun _ kS => XS.iand X0.here hx rfl (hb hby at_15) rfl kS) ?_
    refine oiconst X0 hx hby at_16 ?_
    show gs s₁ m 17 #[.val (.long q1), .second, vi p2, vi p3, vi 0, .unset, .unset, .unset, .unset, .unset, .unset, .unset, .unset, .unset] [(.int 3), (.int ((XT.ushr p2 (8 : Int32)) &&& (2147483647 : Int32)))]
    refine own_st (fun _ kS => iremM (g := (mkF m 17 #[.val (.long q1), .second, vi p2, vi p3, vi 0, .unset, .unset, .unset, .unset, .unset, .unset, .unset, .unset, .unset] [(.int 3), (.int ((XT.ushr p2 (8 : Int32)) &&& (2147483647 : Int32)))])) X0 hx rfl (hb hby at_17) rfl (by decide) kS) ?_
    show gs s₁ m 18 #[.val (.long q1), .second, vi p2, vi p3, vi 0, .unset, .unset, .unset, .unset, .unset, .unset, .unset, .unset, .unset] [(.int (((XT.ushr p2 (8 : Int32)) &&& (2147483647 : Int32)) % (3 : Int32)))]
    obtain ⟨nn, hnn⟩ : ∃ z, z = (((XT.ushr p2 (8 : Int32)) &&& (2147483647 : Int32)) % (3 : Int32)) := ⟨_, rfl⟩
    rw [← hnn]
    show gs s₁ m 18 #[.val (.long q1), .second, vi p2, vi p3, vi 0, .unset, .unset, .unset, .unset, .unset, .unset, .unset, .unset, .unset] [(.int nn)]
    refine own_st (fun _ kS => XS.istore X0.here hx rfl (hb hby at_18) rfl (l' := #[.val (.long q1), .second, vi p2, vi p3, vi 0, vi nn, .unset, .unset, .unset, .unset, .unset, .unset, .unset, .unset]) rfl kS) ?_
    refine oiload X0 hx hby at_20 rfl ?_
    refine oS 0 X0 hx hZ hby hml hown (own_w hw 1 rfl) (own_w hw 2 rfl) (own_w hw 3 rfl) (own_w hw 4 rfl) (rm_enc_0 l Z a0 hw [] w_UTF_8 h0 n0 Z0 O0 S_UTF_8) e0 (by decide) own_pd29 at_22 rfl rfl rfl (fun T2 L2 v2 X2 hQ2 => ?_)
    obtain ⟨rfl, Nq2, eq2⟩ := hQ2
    have N2 := Fr.app N0 Nq2
    show gs T2 m 25 #[.val (.long q1), .second, vi p2, vi p3, vi 0, vi nn, .unset, .unset, .unset, .unset, .unset, .unset, .unset, .unset] [(.ref w_UTF_8)]
    refine own_st (fun _ kS => XS.astore X2.here hx rfl (hb hby at_25) rfl rfl (l' := #[.val (.long q1), .second, vi p2, vi p3, vi 0, vi nn, vr w_UTF_8, .unset, .unset, .unset, .unset, .unset, .unset, .unset]) rfl kS) ?_
    refine oiload X2 hx hby at_27 rfl ?_
    refine oiconst X2 hx hby at_29 ?_
    refine own_st (fun _ kS => XS.icmpNo X2.here hx rfl (hb hby at_30) rfl (feq (by decide : ¬ ((0 : Int32) = (1 : Int32)))).1 kS) ?_
    show gs T2 m 33 #[.val (.long q1), .second, vi p2, vi p3, vi 0, vi nn, vr w_UTF_8, .unset, .unset, .unset, .unset, .unset, .unset, .unset] []
    refine oiload X2 hx hby at_33 rfl ?_
    refine oiconst X2 hx hby at_35 ?_
    refine own_st (fun _ kS => XS.icmpYes X2.here hx rfl (pc0 := 36) (pc' := 43) rfl (hb hby at_36) rfl (feq (by decide : ¬ ((0 : Int32) = (2 : Int32)))).2 (by decide) (by decide) kS) ?_
    show gs T2 m 43 #[.val (.long q1), .second, vi p2, vi p3, vi 0, vi nn, vr w_UTF_8, .unset, .unset, .unset, .unset, .unset, .unset, .unset] []
    refine oiload X2 hx hby at_43 rfl ?_
    refine oiconst X2 hx hby at_45 ?_
    refine own_st (fun _ kS => XS.icmpNo X2.here hx rfl (hb hby at_46) rfl (feq (by decide : ¬ ((0 : Int32) = (3 : Int32)))).1 kS) ?_
    show gs T2 m 49 #[.val (.long q1), .second, vi p2, vi p3, vi 0, vi nn, vr w_UTF_8, .unset, .unset, .unset, .unset, .unset, .unset, .unset] []
    refine oiload X2 hx hby at_49 rfl ?_
    refine oiconst X2 hx hby at_51 ?_
    refine own_st (fun _ kS => XS.icmpYes X2.here hx rfl (pc0 := 52) (pc' := 59) rfl (hb hby at_52) rfl (feq (by decide : ¬ ((0 : Int32) = (4 : Int32)))).2 (by decide) (by decide) kS) ?_
    show gs T2 m 59 #[.val (.long q1), .second, vi p2, vi p3, vi 0, vi nn, vr w_UTF_8, .unset, .unset, .unset, .unset, .unset, .unset, .unset] []
    refine oiconst X2 hx hby at_59 ?_
    refine own_st (fun _ kS => XS.istore X2.here hx rfl (hb hby at_60) rfl (l' := #[.val (.long q1), .second, vi p2, vi p3, vi 0, vi nn, vr w_UTF_8, vi 1, .unset, .unset, .unset, .unset, .unset, .unset]) rfl kS) ?_
    refine oiload X2 hx hby at_62 rfl ?_
    refine oiconst X2 hx hby at_64 ?_
    refine own_st (fun _ kS => XS.icmpNo X2.here hx rfl (hb hby at_65) rfl (feq (by decide : ¬ ((0 : Int32) = (2 : Int32)))).1 kS) ?_
    show gs T2 m 68 #[.val (.long q1), .second, vi p2, vi p3, vi 0, vi nn, vr w_UTF_8, vi 1, .unset, .unset, .unset, .unset, .unset, .unset] []
    refine oiload X2 hx hby at_68 rfl ?_
    refine oiconst X2 hx hby at_70 ?_
    refine own_st (fun _ kS => XS.icmpYes X2.here hx rfl (pc0 := 71) (pc' := 78) rfl (hb hby at_71) rfl (feq (by decide : ¬ ((0 : Int32) = (4 : Int32)))).2 (by decide) (by decide) kS) ?_
    show gs T2 m 78 #[.val (.long q1), .second, vi p2, vi p3, vi 0, vi nn, vr w_UTF_8, vi 1, .unset, .unset, .unset, .unset, .unset, .unset] []
    refine oiconst X2 hx hby at_78 ?_
    refine own_st (fun _ kS => XS.istore X2.here hx rfl (hb hby at_79) rfl (l' := #[.val (.long q1), .second, vi p2, vi p3, vi 0, vi nn, vr w_UTF_8, vi 1, vi 0, .unset, .unset, .unset, .unset, .unset]) rfl kS) ?_
    show gs T2 m 81 #[.val (.long q1), .second, vi p2, vi p3, vi 0, vi nn, vr w_UTF_8, vi 1, vi 0, .unset, .unset, .unset, .unset, .unset] []
    exact sg_A hx hby hml hown hlk hret hZ hw Z0  X2 eq2 N2 O0 q1 p2 p3 (0 : Int32) w_UTF_8 (1 : Int32) (0 : Int32) zCS fm nn E_UTF_8 F_UTF_8_width F_UTF_8_littleEndian S_CS P_CS S_SF P_SF S_AD S_HI S_LO (hnn ▸ own_mod3 (XT.ushr p2 (8 : Int32))) (Or.inl ⟨rfl, rfl⟩)
  · rw [hk1]
    show gs s₁ m 7 #[.val (.long q1), .second, vi p2, vi p3, .unset, .unset, .unset, .unset, .unset, .unset, .unset, .unset, .unset, .unset] [(.int 1)]
    refine own_st (fun _ kS => XS.istore X0.here hx rfl (hb hby at_7) rfl (l' := #[.val (.long q1), .second, vi p2, vi p3, vi 1, .unset, .unset, .unset, .unset, .unset, .unset, .unset, .unset, .unset]) rfl kS) ?_
    refine oiloadN X0 hx hby at_9 rfl ?_
    refine own_st (fun _ kS => XS.bipush X0.here hx rfl (hb hby at_10) kS) ?_
    refine own_st (fun _ kS => XT.iushr X0.here hx rfl (hb hby at_12) rfl kS) ?_
    show gs s₁ m 13 #[.val (.long q1), .second, vi p2, vi p3, vi 1, .unset, .unset, .unset, .unset, .unset, .unset, .unset, .unset, .unset] [(.int (XT.ushr p2 (8 : Int32)))]
    refine own_st (fun _ kS => X0.ldcInt hx hown (mvT hZ (own_w hw 0 rfl)) (g := (mkF m 13 #[.val (.long q1), .second, vi p2, vi p3, vi 1, .unset, .unset, .unset, .unset, .unset, .unset, .unset, .unset, .unset] [(.int (XT.ushr p2 (8 : Int32)))])) rfl (hb hby at_13) _ kS) ?_
    show gs s₁ m 15 #[.val (.long q1), .second, vi p2, vi p3, vi 1, .unset, .unset, .unset, .unset, .unset, .unset, .unset, .unset, .unset] [(.int 2147483647), (.int (XT.ushr p2 (8 : Int32)))]
    refine own_st (fun _ kS => XS.iand X0.here hx rfl (hb hby at_15) rfl kS) ?_
    refine oiconst X0 hx hby at_16 ?_
    show gs s₁ m 17 #[.val (.long q1), .second, vi p2, vi p3, vi 1, .unset, .unset, .unset, .unset, .unset, .unset, .unset, .unset, .unset] [(.int 3), (.int ((XT.ushr p2 (8 : Int32)) &&& (2147483647 : Int32)))]
    refine own_st (fun _ kS => iremM (g := (mkF m 17 #[.val (.long q1), .second, vi p2, vi p3, vi 1, .unset, .unset, .unset, .unset, .unset, .unset, .unset, .unset, .unset] [(.int 3), (.int ((XT.ushr p2 (8 : Int32)) &&& (2147483647 : Int32)))])) X0 hx rfl (hb hby at_17) rfl (by decide) kS) ?_
    show gs s₁ m 18 #[.val (.long q1), .second, vi p2, vi p3, vi 1, .unset, .unset, .unset, .unset, .unset, .unset, .unset, .unset, .unset] [(.int (((XT.ushr p2 (8 : Int32)) &&& (2147483647 : Int32)) % (3 : Int32)))]
    obtain ⟨nn, hnn⟩ : ∃ z, z = (((XT.ushr p2 (8 : Int32)) &&& (2147483647 : Int32)) % (3 : Int32)) := ⟨_, rfl⟩
    rw [← hnn]
    show gs s₁ m 18 #[.val (.long q1), .second, vi p2, vi p3, vi 1, .unset, .unset, .unset, .unset, .unset, .unset, .unset, .unset, .unset] [(.int nn)]
    refine own_st (fun _ kS => XS.istore X0.here hx rfl (hb hby at_18) rfl (l' := #[.val (.long q1), .second, vi p2, vi p3, vi 1, vi nn, .unset, .unset, .unset, .unset, .unset, .unset, .unset, .unset]) rfl kS) ?_
    refine oiload X0 hx hby at_20 rfl ?_
    refine oS 0 X0 hx hZ hby hml hown (own_w hw 1 rfl) (own_w hw 2 rfl) (own_w hw 3 rfl) (own_w hw 4 rfl) (rm_enc_1 l Z a0 hw [] w_UTF_32BE h0 n0 Z0 O0 S_UTF_32BE) e0 (by decide) own_pd29 at_22 rfl rfl rfl (fun T3 L3 v3 X3 hQ3 => ?_)
    obtain ⟨rfl, Nq3, eq3⟩ := hQ3
    have N3 := Fr.app N0 Nq3
    show gs T3 m 25 #[.val (.long q1), .second, vi p2, vi p3, vi 1, vi nn, .unset, .unset, .unset, .unset, .unset, .unset, .unset, .unset] [(.ref w_UTF_32BE)]
    refine own_st (fun _ kS => XS.astore X3.here hx rfl (hb hby at_25) rfl rfl (l' := #[.val (.long q1), .second, vi p2, vi p3, vi 1, vi nn, vr w_UTF_32BE, .unset, .unset, .unset, .unset, .unset, .unset, .unset]) rfl kS) ?_
    refine oiload X3 hx hby at_27 rfl ?_
    refine oiconst X3 hx hby at_29 ?_
    refine own_st (fun _ kS => XS.icmpYes X3.here hx rfl (pc0 := 30) (pc' := 39) rfl (hb hby at_30) rfl (teq (by decide : (1 : Int32) = (1 : Int32))).1 (by decide) (by decide) kS) ?_
    show gs T3 m 39 #[.val (.long q1), .second, vi p2, vi p3, vi 1, vi nn, vr w_UTF_32BE, .unset, .unset, .unset, .unset, .unset, .unset, .unset] []
    refine oiconst X3 hx hby at_39 ?_
    refine own_st (fun _ kS => XS.goto X3.here hx rfl (pc0 := 40) (pc' := 60) rfl (hb hby at_40) (by decide) (by decide) kS) ?_
    refine own_st (fun _ kS => XS.istore X3.here hx rfl (hb hby at_60) rfl (l' := #[.val (.long q1), .second, vi p2, vi p3, vi 1, vi nn, vr w_UTF_32BE, vi 4, .unset, .unset, .unset, .unset, .unset, .unset]) rfl kS) ?_
    refine oiload X3 hx hby at_62 rfl ?_
    refine oiconst X3 hx hby at_64 ?_
    refine own_st (fun _ kS => XS.icmpNo X3.here hx rfl (hb hby at_65) rfl (feq (by decide : ¬ ((1 : Int32) = (2 : Int32)))).1 kS) ?_
    show gs T3 m 68 #[.val (.long q1), .second, vi p2, vi p3, vi 1, vi nn, vr w_UTF_32BE, vi 4, .unset, .unset, .unset, .unset, .unset, .unset] []
    refine oiload X3 hx hby at_68 rfl ?_
    refine oiconst X3 hx hby at_70 ?_
    refine own_st (fun _ kS => XS.icmpYes X3.here hx rfl (pc0 := 71) (pc' := 78) rfl (hb hby at_71) rfl (feq (by decide : ¬ ((1 : Int32) = (4 : Int32)))).2 (by decide) (by decide) kS) ?_
    show gs T3 m 78 #[.val (.long q1), .second, vi p2, vi p3, vi 1, vi nn, vr w_UTF_32BE, vi 4, .unset, .unset, .unset, .unset, .unset, .unset] []
    refine oiconst X3 hx hby at_78 ?_
    refine own_st (fun _ kS => XS.istore X3.here hx rfl (hb hby at_79) rfl (l' := #[.val (.long q1), .second, vi p2, vi p3, vi 1, vi nn, vr w_UTF_32BE, vi 4, vi 0, .unset, .unset, .unset, .unset, .unset]) rfl kS) ?_
    show gs T3 m 81 #[.val (.long q1), .second, vi p2, vi p3, vi 1, vi nn, vr w_UTF_32BE, vi 4, vi 0, .unset, .unset, .unset, .unset, .unset] []
    exact sg_A hx hby hml hown hlk hret hZ hw Z0  X3 eq3 N3 O0 q1 p2 p3 (1 : Int32) w_UTF_32BE (4 : Int32) (0 : Int32) zCS fm nn E_UTF_32BE F_UTF_32BE_width F_UTF_32BE_littleEndian S_CS P_CS S_SF P_SF S_AD S_HI S_LO (hnn ▸ own_mod3 (XT.ushr p2 (8 : Int32))) (Or.inr (Or.inl ⟨rfl, rfl⟩))
  · rw [hk1]
    show gs s₁ m 7 #[.val (.long q1), .second, vi p2, vi p3, .unset, .unset, .unset, .unset, .unset, .unset, .unset, .unset, .unset, .unset] [(.int 2)]
    refine own_st (fun _ kS => XS.istore X0.here hx rfl (hb hby at_7) rfl (l' := #[.val (.long q1), .second, vi p2, vi p3, vi 2, .unset, .unset, .unset, .unset, .unset, .unset, .unset, .unset, .unset]) rfl kS) ?_
    refine oiloadN X0 hx hby at_9 rfl ?_
    refine own_st (fun _ kS => XS.bipush X0.here hx rfl (hb hby at_10) kS) ?_
    refine own_st (fun _ kS => XT.iushr X0.here hx rfl (hb hby at_12) rfl kS) ?_
    show gs s₁ m 13 #[.val (.long q1), .second, vi p2, vi p3, vi 2, .unset, .unset, .unset, .unset, .unset, .unset, .unset, .unset, .unset] [(.int (XT.ushr p2 (8 : Int32)))]
    refine own_st (fun _ kS => X0.ldcInt hx hown (mvT hZ (own_w hw 0 rfl)) (g := (mkF m 13 #[.val (.long q1), .second, vi p2, vi p3, vi 2, .unset, .unset, .unset, .unset, .unset, .unset, .unset, .unset, .unset] [(.int (XT.ushr p2 (8 : Int32)))])) rfl (hb hby at_13) _ kS) ?_
    show gs s₁ m 15 #[.val (.long q1), .second, vi p2, vi p3, vi 2, .unset, .unset, .unset, .unset, .unset, .unset, .unset, .unset, .unset] [(.int 2147483647), (.int (XT.ushr p2 (8 : Int32)))]
    refine own_st (fun _ kS => XS.iand X0.here hx rfl (hb hby at_15) rfl kS) ?_
    refine oiconst X0 hx hby at_16 ?_
    show gs s₁ m 17 #[.val (.long q1), .second, vi p2, vi p3, vi 2, .unset, .unset, .unset, .unset, .unset, .unset, .unset, .unset, .unset] [(.int 3), (.int ((XT.ushr p2 (8 : Int32)) &&& (2147483647 : Int32)))]
    refine own_st (fun _ kS => iremM (g := (mkF m 17 #[.val (.long q1), .second, vi p2, vi p3, vi 2, .unset, .unset, .unset, .unset, .unset, .unset, .unset, .unset, .unset] [(.int 3), (.int ((XT.ushr p2 (8 : Int32)) &&& (2147483647 : Int32)))])) X0 hx rfl (hb hby at_17) rfl (by decide) kS) ?_
    show gs s₁ m 18 #[.val (.long q1), .second, vi p2, vi p3, vi 2, .unset, .unset, .unset, .unset, .unset, .unset, .unset, .unset, .unset] [(.int (((XT.ushr p2 (8 : Int32)) &&& (2147483647 : Int32)) % (3 : Int32)))]
    obtain ⟨nn, hnn⟩ : ∃ z, z = (((XT.ushr p2 (8 : Int32)) &&& (2147483647 : Int32)) % (3 : Int32)) := ⟨_, rfl⟩
    rw [← hnn]
    show gs s₁ m 18 #[.val (.long q1), .second, vi p2, vi p3, vi 2, .unset, .unset, .unset, .unset, .unset, .unset, .unset, .unset, .unset] [(.int nn)]
    refine own_st (fun _ kS => XS.istore X0.here hx rfl (hb hby at_18) rfl (l' := #[.val (.long q1), .second, vi p2, vi p3, vi 2, vi nn, .unset, .unset, .unset, .unset, .unset, .unset, .unset, .unset]) rfl kS) ?_
    refine oiload X0 hx hby at_20 rfl ?_
    refine oS 0 X0 hx hZ hby hml hown (own_w hw 1 rfl) (own_w hw 2 rfl) (own_w hw 3 rfl) (own_w hw 4 rfl) (rm_enc_2 l Z a0 hw [] w_UTF_32LE h0 n0 Z0 O0 S_UTF_32LE) e0 (by decide) own_pd29 at_22 rfl rfl rfl (fun T4 L4 v4 X4 hQ4 => ?_)
    obtain ⟨rfl, Nq4, eq4⟩ := hQ4
    have N4 := Fr.app N0 Nq4
    show gs T4 m 25 #[.val (.long q1), .second, vi p2, vi p3, vi 2, vi nn, .unset, .unset, .unset, .unset, .unset, .unset, .unset, .unset] [(.ref w_UTF_32LE)]
    refine own_st (fun _ kS => XS.astore X4.here hx rfl (hb hby at_25) rfl rfl (l' := #[.val (.long q1), .second, vi p2, vi p3, vi 2, vi nn, vr w_UTF_32LE, .unset, .unset, .unset, .unset, .unset, .unset, .unset]) rfl kS) ?_
    refine oiload X4 hx hby at_27 rfl ?_
    refine oiconst X4 hx hby at_29 ?_
    refine own_st (fun _ kS => XS.icmpNo X4.here hx rfl (hb hby at_30) rfl (feq (by decide : ¬ ((2 : Int32) = (1 : Int32)))).1 kS) ?_
    show gs T4 m 33 #[.val (.long q1), .second, vi p2, vi p3, vi 2, vi nn, vr w_UTF_32LE, .unset, .unset, .unset, .unset, .unset, .unset, .unset] []
    refine oiload X4 hx hby at_33 rfl ?_
    refine oiconst X4 hx hby at_35 ?_
    refine own_st (fun _ kS => XS.icmpNo X4.here hx rfl (hb hby at_36) rfl (teq (by decide : (2 : Int32) = (2 : Int32))).2 kS) ?_
    show gs T4 m 39 #[.val (.long q1), .second, vi p2, vi p3, vi 2, vi nn, vr w_UTF_32LE, .unset, .unset, .unset, .unset, .unset, .unset, .unset] []
    refine oiconst X4 hx hby at_39 ?_
    refine own_st (fun _ kS => XS.goto X4.here hx rfl (pc0 := 40) (pc' := 60) rfl (hb hby at_40) (by decide) (by decide) kS) ?_
    refine own_st (fun _ kS => XS.istore X4.here hx rfl (hb hby at_60) rfl (l' := #[.val (.long q1), .second, vi p2, vi p3, vi 2, vi nn, vr w_UTF_32LE, vi 4, .unset, .unset, .unset, .unset, .unset, .unset]) rfl kS) ?_
    refine oiload X4 hx hby at_62 rfl ?_
    refine oiconst X4 hx hby at_64 ?_
    refine own_st (fun _ kS => XS.icmpYes X4.here hx rfl (pc0 := 65) (pc' := 74) rfl (hb hby at_65) rfl (teq (by decide : (2 : Int32) = (2 : Int32))).1 (by decide) (by decide) kS) ?_
    show gs T4 m 74 #[.val (.long q1), .second, vi p2, vi p3, vi 2, vi nn, vr w_UTF_32LE, vi 4, .unset, .unset, .unset, .unset, .unset, .unset] []
    refine oiconst X4 hx hby at_74 ?_
    refine own_st (fun _ kS => XS.goto X4.here hx rfl (pc0 := 75) (pc' := 79) rfl (hb hby at_75) (by decide) (by decide) kS) ?_
    refine own_st (fun _ kS => XS.istore X4.here hx rfl (hb hby at_79) rfl (l' := #[.val (.long q1), .second, vi p2, vi p3, vi 2, vi nn, vr w_UTF_32LE, vi 4, vi 1, .unset, .unset, .unset, .unset, .unset]) rfl kS) ?_
    show gs T4 m 81 #[.val (.long q1), .second, vi p2, vi p3, vi 2, vi nn, vr w_UTF_32LE, vi 4, vi 1, .unset, .unset, .unset, .unset, .unset] []
    exact sg_A hx hby hml hown hlk hret hZ hw Z0  X4 eq4 N4 O0 q1 p2 p3 (2 : Int32) w_UTF_32LE (4 : Int32) (1 : Int32) zCS fm nn E_UTF_32LE F_UTF_32LE_width F_UTF_32LE_littleEndian S_CS P_CS S_SF P_SF S_AD S_HI S_LO (hnn ▸ own_mod3 (XT.ushr p2 (8 : Int32))) (Or.inr (Or.inr (Or.inl ⟨rfl, rfl⟩)))
  · rw [hk1]
    show gs s₁ m 7 #[.val (.long q1), .second, vi p2, vi p3, .unset, .unset, .unset, .unset, .unset, .unset, .unset, .unset, .unset, .unset] [(.int 3)]
    refine own_st (fun _ kS => XS.istore X0.here hx rfl (hb hby at_7) rfl (l' := #[.val (.long q1), .second, vi p2, vi p3, vi 3, .unset, .unset, .unset, .unset, .unset, .unset, .unset, .unset, .unset]) rfl kS) ?_
    refine oiloadN X0 hx hby at_9 rfl ?_
    refine own_st (fun _ kS => XS.bipush X0.here hx rfl (hb hby at_10) kS) ?_
    refine own_st (fun _ kS => XT.iushr X0.here hx rfl (hb hby at_12) rfl kS) ?_
    show gs s₁ m 13 #[.val (.long q1), .second, vi p2, vi p3, vi 3, .unset, .unset, .unset, .unset, .unset, .unset, .unset, .unset, .unset] [(.int (XT.ushr p2 (8 : Int32)))]
    refine own_st (fun _ kS => X0.ldcInt hx hown (mvT hZ (own_w hw 0 rfl)) (g := (mkF m 13 #[.val (.long q1), .second, vi p2, vi p3, vi 3, .unset, .unset, .unset, .unset, .unset, .unset, .unset, .unset, .unset] [(.int (XT.ushr p2 (8 : Int32)))])) rfl (hb hby at_13) _ kS) ?_
    show gs s₁ m 15 #[.val (.long q1), .second, vi p2, vi p3, vi 3, .unset, .unset, .unset, .unset, .unset, .unset, .unset, .unset, .unset] [(.int 2147483647), (.int (XT.ushr p2 (8 : Int32)))]
    refine own_st (fun _ kS => XS.iand X0.here hx rfl (hb hby at_15) rfl kS) ?_
    refine oiconst X0 hx hby at_16 ?_
    show gs s₁ m 17 #[.val (.long q1), .second, vi p2, vi p3, vi 3, .unset, .unset, .unset, .unset, .unset, .unset, .unset, .unset, .unset] [(.int 3), (.int ((XT.ushr p2 (8 : Int32)) &&& (2147483647 : Int32)))]
    refine own_st (fun _ kS => iremM (g := (mkF m 17 #[.val (.long q1), .second, vi p2, vi p3, vi 3, .unset, .unset, .unset, .unset, .unset, .unset, .unset, .unset, .unset] [(.int 3), (.int ((XT.ushr p2 (8 : Int32)) &&& (2147483647 : Int32)))])) X0 hx rfl (hb hby at_17) rfl (by decide) kS) ?_
    show gs s₁ m 18 #[.val (.long q1), .second, vi p2, vi p3, vi 3, .unset, .unset, .unset, .unset, .unset, .unset, .unset, .unset, .unset] [(.int (((XT.ushr p2 (8 : Int32)) &&& (2147483647 : Int32)) % (3 : Int32)))]
    obtain ⟨nn, hnn⟩ : ∃ z, z = (((XT.ushr p2 (8 : Int32)) &&& (2147483647 : Int32)) % (3 : Int32)) := ⟨_, rfl⟩
    rw [← hnn]
    show gs s₁ m 18 #[.val (.long q1), .second, vi p2, vi p3, vi 3, .unset, .unset, .unset, .unset, .unset, .unset, .unset, .unset, .unset] [(.int nn)]
    refine own_st (fun _ kS => XS.istore X0.here hx rfl (hb hby at_18) rfl (l' := #[.val (.long q1), .second, vi p2, vi p3, vi 3, vi nn, .unset, .unset, .unset, .unset, .unset, .unset, .unset, .unset]) rfl kS) ?_
    refine oiload X0 hx hby at_20 rfl ?_
    refine oS 0 X0 hx hZ hby hml hown (own_w hw 1 rfl) (own_w hw 2 rfl) (own_w hw 3 rfl) (own_w hw 4 rfl) (rm_enc_3 l Z a0 hw [] w_UTF_16BE h0 n0 Z0 O0 S_UTF_16BE) e0 (by decide) own_pd29 at_22 rfl rfl rfl (fun T5 L5 v5 X5 hQ5 => ?_)
    obtain ⟨rfl, Nq5, eq5⟩ := hQ5
    have N5 := Fr.app N0 Nq5
    show gs T5 m 25 #[.val (.long q1), .second, vi p2, vi p3, vi 3, vi nn, .unset, .unset, .unset, .unset, .unset, .unset, .unset, .unset] [(.ref w_UTF_16BE)]
    refine own_st (fun _ kS => XS.astore X5.here hx rfl (hb hby at_25) rfl rfl (l' := #[.val (.long q1), .second, vi p2, vi p3, vi 3, vi nn, vr w_UTF_16BE, .unset, .unset, .unset, .unset, .unset, .unset, .unset]) rfl kS) ?_
    refine oiload X5 hx hby at_27 rfl ?_
    refine oiconst X5 hx hby at_29 ?_
    refine own_st (fun _ kS => XS.icmpNo X5.here hx rfl (hb hby at_30) rfl (feq (by decide : ¬ ((3 : Int32) = (1 : Int32)))).1 kS) ?_
    show gs T5 m 33 #[.val (.long q1), .second, vi p2, vi p3, vi 3, vi nn, vr w_UTF_16BE, .unset, .unset, .unset, .unset, .unset, .unset, .unset] []
    refine oiload X5 hx hby at_33 rfl ?_
    refine oiconst X5 hx hby at_35 ?_
    refine own_st (fun _ kS => XS.icmpYes X5.here hx rfl (pc0 := 36) (pc' := 43) rfl (hb hby at_36) rfl (feq (by decide : ¬ ((3 : Int32) = (2 : Int32)))).2 (by decide) (by decide) kS) ?_
    show gs T5 m 43 #[.val (.long q1), .second, vi p2, vi p3, vi 3, vi nn, vr w_UTF_16BE, .unset, .unset, .unset, .unset, .unset, .unset, .unset] []
    refine oiload X5 hx hby at_43 rfl ?_
    refine oiconst X5 hx hby at_45 ?_
    refine own_st (fun _ kS => XS.icmpYes X5.here hx rfl (pc0 := 46) (pc' := 55) rfl (hb hby at_46) rfl (teq (by decide : (3 : Int32) = (3 : Int32))).1 (by decide) (by decide) kS) ?_
    show gs T5 m 55 #[.val (.long q1), .second, vi p2, vi p3, vi 3, vi nn, vr w_UTF_16BE, .unset, .unset, .unset, .unset, .unset, .unset, .unset] []
    refine oiconst X5 hx hby at_55 ?_
    refine own_st (fun _ kS => XS.goto X5.here hx rfl (pc0 := 56) (pc' := 60) rfl (hb hby at_56) (by decide) (by decide) kS) ?_
    refine own_st (fun _ kS => XS.istore X5.here hx rfl (hb hby at_60) rfl (l' := #[.val (.long q1), .second, vi p2, vi p3, vi 3, vi nn, vr w_UTF_16BE, vi 2, .unset, .unset, .unset, .unset, .unset, .unset]) rfl kS) ?_
    refine oiload X5 hx hby at_62 rfl ?_
    refine oiconst X5 hx hby at_64 ?_
    refine own_st (fun _ kS => XS.icmpNo X5.here hx rfl (hb hby at_65) rfl (feq (by decide : ¬ ((3 : Int32) = (2 : Int32)))).1 kS) ?_
    show gs T5 m 68 #[.val (.long q1), .second, vi p2, vi p3, vi 3, vi nn, vr w_UTF_16BE, vi 2, .unset, .unset, .unset, .unset, .unset, .unset] []
    refine oiload X5 hx hby at_68 rfl ?_
    refine oiconst X5 hx hby at_70 ?_
    refine own_st (fun _ kS => XS.icmpYes X5.here hx rfl (pc0 := 71) (pc' := 78) rfl (hb hby at_71) rfl (feq (by decide : ¬ ((3 : Int32) = (4 : Int32)))).2 (by decide) (by decide) kS) ?_
    show gs T5 m 78 #[.val (.long q1), .second, vi p2, vi p3, vi 3, vi nn, vr w_UTF_16BE, vi 2, .unset, .unset, .unset, .unset, .unset, .unset] []
    refine oiconst X5 hx hby at_78 ?_
    refine own_st (fun _ kS => XS.istore X5.here hx rfl (hb hby at_79) rfl (l' := #[.val (.long q1), .second, vi p2, vi p3, vi 3, vi nn, vr w_UTF_16BE, vi 2, vi 0, .unset, .unset, .unset, .unset, .unset]) rfl kS) ?_
    show gs T5 m 81 #[.val (.long q1), .second, vi p2, vi p3, vi 3, vi nn, vr w_UTF_16BE, vi 2, vi 0, .unset, .unset, .unset, .unset, .unset] []
    exact sg_A hx hby hml hown hlk hret hZ hw Z0  X5 eq5 N5 O0 q1 p2 p3 (3 : Int32) w_UTF_16BE (2 : Int32) (0 : Int32) zCS fm nn E_UTF_16BE F_UTF_16BE_width F_UTF_16BE_littleEndian S_CS P_CS S_SF P_SF S_AD S_HI S_LO (hnn ▸ own_mod3 (XT.ushr p2 (8 : Int32))) (Or.inr (Or.inr (Or.inr (Or.inl ⟨rfl, rfl⟩))))
  · rw [hk1]
    show gs s₁ m 7 #[.val (.long q1), .second, vi p2, vi p3, .unset, .unset, .unset, .unset, .unset, .unset, .unset, .unset, .unset, .unset] [(.int 4)]
    refine own_st (fun _ kS => XS.istore X0.here hx rfl (hb hby at_7) rfl (l' := #[.val (.long q1), .second, vi p2, vi p3, vi 4, .unset, .unset, .unset, .unset, .unset, .unset, .unset, .unset, .unset]) rfl kS) ?_
    refine oiloadN X0 hx hby at_9 rfl ?_
    refine own_st (fun _ kS => XS.bipush X0.here hx rfl (hb hby at_10) kS) ?_
    refine own_st (fun _ kS => XT.iushr X0.here hx rfl (hb hby at_12) rfl kS) ?_
    show gs s₁ m 13 #[.val (.long q1), .second, vi p2, vi p3, vi 4, .unset, .unset, .unset, .unset, .unset, .unset, .unset, .unset, .unset] [(.int (XT.ushr p2 (8 : Int32)))]
    refine own_st (fun _ kS => X0.ldcInt hx hown (mvT hZ (own_w hw 0 rfl)) (g := (mkF m 13 #[.val (.long q1), .second, vi p2, vi p3, vi 4, .unset, .unset, .unset, .unset, .unset, .unset, .unset, .unset, .unset] [(.int (XT.ushr p2 (8 : Int32)))])) rfl (hb hby at_13) _ kS) ?_
    show gs s₁ m 15 #[.val (.long q1), .second, vi p2, vi p3, vi 4, .unset, .unset, .unset, .unset, .unset, .unset, .unset, .unset, .unset] [(.int 2147483647), (.int (XT.ushr p2 (8 : Int32)))]
    refine own_st (fun _ kS => XS.iand X0.here hx rfl (hb hby at_15) rfl kS) ?_
    refine oiconst X0 hx hby at_16 ?_
    show gs s₁ m 17 #[.val (.long q1), .second, vi p2, vi p3, vi 4, .unset, .unset, .unset, .unset, .unset, .unset, .unset, .unset, .unset] [(.int 3), (.int ((XT.ushr p2 (8 : Int32)) &&& (2147483647 : Int32)))]
    refine own_st (fun _ kS => iremM (g := (mkF m 17 #[.val (.long q1), .second, vi p2, vi p3, vi 4, .unset, .unset, .unset, .unset, .unset, .unset, .unset, .unset, .unset] [(.int 3), (.int ((XT.ushr p2 (8 : Int32)) &&& (2147483647 : Int32)))])) X0 hx rfl (hb hby at_17) rfl (by decide) kS) ?_
    show gs s₁ m 18 #[.val (.long q1), .second, vi p2, vi p3, vi 4, .unset, .unset, .unset, .unset, .unset, .unset, .unset, .unset, .unset] [(.int (((XT.ushr p2 (8 : Int32)) &&& (2147483647 : Int32)) % (3 : Int32)))]
    obtain ⟨nn, hnn⟩ : ∃ z, z = (((XT.ushr p2 (8 : Int32)) &&& (2147483647 : Int32)) % (3 : Int32)) := ⟨_, rfl⟩
    rw [← hnn]
    show gs s₁ m 18 #[.val (.long q1), .second, vi p2, vi p3, vi 4, .unset, .unset, .unset, .unset, .unset, .unset, .unset, .unset, .unset] [(.int nn)]
    refine own_st (fun _ kS => XS.istore X0.here hx rfl (hb hby at_18) rfl (l' := #[.val (.long q1), .second, vi p2, vi p3, vi 4, vi nn, .unset, .unset, .unset, .unset, .unset, .unset, .unset, .unset]) rfl kS) ?_
    refine oiload X0 hx hby at_20 rfl ?_
    refine oS 0 X0 hx hZ hby hml hown (own_w hw 1 rfl) (own_w hw 2 rfl) (own_w hw 3 rfl) (own_w hw 4 rfl) (rm_enc_4 l Z a0 hw [] w_UTF_16LE h0 n0 Z0 O0 S_UTF_16LE) e0 (by decide) own_pd29 at_22 rfl rfl rfl (fun T6 L6 v6 X6 hQ6 => ?_)
    obtain ⟨rfl, Nq6, eq6⟩ := hQ6
    have N6 := Fr.app N0 Nq6
    show gs T6 m 25 #[.val (.long q1), .second, vi p2, vi p3, vi 4, vi nn, .unset, .unset, .unset, .unset, .unset, .unset, .unset, .unset] [(.ref w_UTF_16LE)]
    refine own_st (fun _ kS => XS.astore X6.here hx rfl (hb hby at_25) rfl rfl (l' := #[.val (.long q1), .second, vi p2, vi p3, vi 4, vi nn, vr w_UTF_16LE, .unset, .unset, .unset, .unset, .unset, .unset, .unset]) rfl kS) ?_
    refine oiload X6 hx hby at_27 rfl ?_
    refine oiconst X6 hx hby at_29 ?_
    refine own_st (fun _ kS => XS.icmpNo X6.here hx rfl (hb hby at_30) rfl (feq (by decide : ¬ ((4 : Int32) = (1 : Int32)))).1 kS) ?_
    show gs T6 m 33 #[.val (.long q1), .second, vi p2, vi p3, vi 4, vi nn, vr w_UTF_16LE, .unset, .unset, .unset, .unset, .unset, .unset, .unset] []
    refine oiload X6 hx hby at_33 rfl ?_
    refine oiconst X6 hx hby at_35 ?_
    refine own_st (fun _ kS => XS.icmpYes X6.here hx rfl (pc0 := 36) (pc' := 43) rfl (hb hby at_36) rfl (feq (by decide : ¬ ((4 : Int32) = (2 : Int32)))).2 (by decide) (by decide) kS) ?_
    show gs T6 m 43 #[.val (.long q1), .second, vi p2, vi p3, vi 4, vi nn, vr w_UTF_16LE, .unset, .unset, .unset, .unset, .unset, .unset, .unset] []
    refine oiload X6 hx hby at_43 rfl ?_
    refine oiconst X6 hx hby at_45 ?_
    refine own_st (fun _ kS => XS.icmpNo X6.here hx rfl (hb hby at_46) rfl (feq (by decide : ¬ ((4 : Int32) = (3 : Int32)))).1 kS) ?_
    show gs T6 m 49 #[.val (.long q1), .second, vi p2, vi p3, vi 4, vi nn, vr w_UTF_16LE, .unset, .unset, .unset, .unset, .unset, .unset, .unset] []
    refine oiload X6 hx hby at_49 rfl ?_
    refine oiconst X6 hx hby at_51 ?_
    refine own_st (fun _ kS => XS.icmpNo X6.here hx rfl (hb hby at_52) rfl (teq (by decide : (4 : Int32) = (4 : Int32))).2 kS) ?_
    show gs T6 m 55 #[.val (.long q1), .second, vi p2, vi p3, vi 4, vi nn, vr w_UTF_16LE, .unset, .unset, .unset, .unset, .unset, .unset, .unset] []
    refine oiconst X6 hx hby at_55 ?_
    refine own_st (fun _ kS => XS.goto X6.here hx rfl (pc0 := 56) (pc' := 60) rfl (hb hby at_56) (by decide) (by decide) kS) ?_
    refine own_st (fun _ kS => XS.istore X6.here hx rfl (hb hby at_60) rfl (l' := #[.val (.long q1), .second, vi p2, vi p3, vi 4, vi nn, vr w_UTF_16LE, vi 2, .unset, .unset, .unset, .unset, .unset, .unset]) rfl kS) ?_
    refine oiload X6 hx hby at_62 rfl ?_
    refine oiconst X6 hx hby at_64 ?_
    refine own_st (fun _ kS => XS.icmpNo X6.here hx rfl (hb hby at_65) rfl (feq (by decide : ¬ ((4 : Int32) = (2 : Int32)))).1 kS) ?_
    show gs T6 m 68 #[.val (.long q1), .second, vi p2, vi p3, vi 4, vi nn, vr w_UTF_16LE, vi 2, .unset, .unset, .unset, .unset, .unset, .unset] []
    refine oiload X6 hx hby at_68 rfl ?_
    refine oiconst X6 hx hby at_70 ?_
    refine own_st (fun _ kS => XS.icmpNo X6.here hx rfl (hb hby at_71) rfl (teq (by decide : (4 : Int32) = (4 : Int32))).2 kS) ?_
    show gs T6 m 74 #[.val (.long q1), .second, vi p2, vi p3, vi 4, vi nn, vr w_UTF_16LE, vi 2, .unset, .unset, .unset, .unset, .unset, .unset] []
    refine oiconst X6 hx hby at_74 ?_
    refine own_st (fun _ kS => XS.goto X6.here hx rfl (pc0 := 75) (pc' := 79) rfl (hb hby at_75) (by decide) (by decide) kS) ?_
    refine own_st (fun _ kS => XS.istore X6.here hx rfl (hb hby at_79) rfl (l' := #[.val (.long q1), .second, vi p2, vi p3, vi 4, vi nn, vr w_UTF_16LE, vi 2, vi 1, .unset, .unset, .unset, .unset, .unset]) rfl kS) ?_
    show gs T6 m 81 #[.val (.long q1), .second, vi p2, vi p3, vi 4, vi nn, vr w_UTF_16LE, vi 2, vi 1, .unset, .unset, .unset, .unset, .unset] []
    exact sg_A hx hby hml hown hlk hret hZ hw Z0  X6 eq6 N6 O0 q1 p2 p3 (4 : Int32) w_UTF_16LE (2 : Int32) (1 : Int32) zCS fm nn E_UTF_16LE F_UTF_16LE_width F_UTF_16LE_littleEndian S_CS P_CS S_SF P_SF S_AD S_HI S_LO (hnn ▸ own_mod3 (XT.ushr p2 (8 : Int32))) (Or.inr (Or.inr (Or.inr (Or.inr (⟨rfl, rfl⟩)))))
  · rw [hk1]
    show gs s₁ m 7 #[.val (.long q1), .second, vi p2, vi p3, .unset, .unset, .unset, .unset, .unset, .unset, .unset, .unset, .unset, .unset] [(.int 5)]
    refine own_st (fun _ kS => XS.istore X0.here hx rfl (hb hby at_7) rfl (l' := #[.val (.long q1), .second, vi p2, vi p3, vi 5, .unset, .unset, .unset, .unset, .unset, .unset, .unset, .unset, .unset]) rfl kS) ?_
    refine oiloadN X0 hx hby at_9 rfl ?_
    refine own_st (fun _ kS => XS.bipush X0.here hx rfl (hb hby at_10) kS) ?_
    refine own_st (fun _ kS => XT.iushr X0.here hx rfl (hb hby at_12) rfl kS) ?_
    show gs s₁ m 13 #[.val (.long q1), .second, vi p2, vi p3, vi 5, .unset, .unset, .unset, .unset, .unset, .unset, .unset, .unset, .unset] [(.int (XT.ushr p2 (8 : Int32)))]
    refine own_st (fun _ kS => X0.ldcInt hx hown (mvT hZ (own_w hw 0 rfl)) (g := (mkF m 13 #[.val (.long q1), .second, vi p2, vi p3, vi 5, .unset, .unset, .unset, .unset, .unset, .unset, .unset, .unset, .unset] [(.int (XT.ushr p2 (8 : Int32)))])) rfl (hb hby at_13) _ kS) ?_
    show gs s₁ m 15 #[.val (.long q1), .second, vi p2, vi p3, vi 5, .unset, .unset, .unset, .unset, .unset, .unset, .unset, .unset, .unset] [(.int 2147483647), (.int (XT.ushr p2 (8 : Int32)))]
    refine own_st (fun _ kS => XS.iand X0.here hx rfl (hb hby at_15) rfl kS) ?_
    refine oiconst X0 hx hby at_16 ?_
    show gs s₁ m 17 #[.val (.long q1), .second, vi p2, vi p3, vi 5, .unset, .unset, .unset, .unset, .unset, .unset, .unset, .unset, .unset] [(.int 3), (.int ((XT.ushr p2 (8 : Int32)) &&& (2147483647 : Int32)))]
    refine own_st (fun _ kS => iremM (g := (mkF m 17 #[.val (.long q1), .second, vi p2, vi p3, vi 5, .unset, .unset, .unset, .unset, .unset, .unset, .unset, .unset, .unset] [(.int 3), (.int ((XT.ushr p2 (8 : Int32)) &&& (2147483647 : Int32)))])) X0 hx rfl (hb hby at_17) rfl (by decide) kS) ?_
    show gs s₁ m 18 #[.val (.long q1), .second, vi p2, vi p3, vi 5, .unset, .unset, .unset, .unset, .unset, .unset, .unset, .unset, .unset] [(.int (((XT.ushr p2 (8 : Int32)) &&& (2147483647 : Int32)) % (3 : Int32)))]
    obtain ⟨nn, hnn⟩ : ∃ z, z = (((XT.ushr p2 (8 : Int32)) &&& (2147483647 : Int32)) % (3 : Int32)) := ⟨_, rfl⟩
    rw [← hnn]
    show gs s₁ m 18 #[.val (.long q1), .second, vi p2, vi p3, vi 5, .unset, .unset, .unset, .unset, .unset, .unset, .unset, .unset, .unset] [(.int nn)]
    refine own_st (fun _ kS => XS.istore X0.here hx rfl (hb hby at_18) rfl (l' := #[.val (.long q1), .second, vi p2, vi p3, vi 5, vi nn, .unset, .unset, .unset, .unset, .unset, .unset, .unset, .unset]) rfl kS) ?_
    refine oiload X0 hx hby at_20 rfl ?_
    refine oS 0 X0 hx hZ hby hml hown (own_w hw 1 rfl) (own_w hw 2 rfl) (own_w hw 3 rfl) (own_w hw 4 rfl) (rm_enc_5 l Z a0 hw [] w_UNMARKED h0 n0 Z0 O0 S_UNMARKED) e0 (by decide) own_pd29 at_22 rfl rfl rfl (fun T7 L7 v7 X7 hQ7 => ?_)
    obtain ⟨rfl, Nq7, eq7⟩ := hQ7
    have N7 := Fr.app N0 Nq7
    show gs T7 m 25 #[.val (.long q1), .second, vi p2, vi p3, vi 5, vi nn, .unset, .unset, .unset, .unset, .unset, .unset, .unset, .unset] [(.ref w_UNMARKED)]
    refine own_st (fun _ kS => XS.astore X7.here hx rfl (hb hby at_25) rfl rfl (l' := #[.val (.long q1), .second, vi p2, vi p3, vi 5, vi nn, vr w_UNMARKED, .unset, .unset, .unset, .unset, .unset, .unset, .unset]) rfl kS) ?_
    refine oiload X7 hx hby at_27 rfl ?_
    refine oiconst X7 hx hby at_29 ?_
    refine own_st (fun _ kS => XS.icmpNo X7.here hx rfl (hb hby at_30) rfl (feq (by decide : ¬ ((5 : Int32) = (1 : Int32)))).1 kS) ?_
    show gs T7 m 33 #[.val (.long q1), .second, vi p2, vi p3, vi 5, vi nn, vr w_UNMARKED, .unset, .unset, .unset, .unset, .unset, .unset, .unset] []
    refine oiload X7 hx hby at_33 rfl ?_
    refine oiconst X7 hx hby at_35 ?_
    refine own_st (fun _ kS => XS.icmpYes X7.here hx rfl (pc0 := 36) (pc' := 43) rfl (hb hby at_36) rfl (feq (by decide : ¬ ((5 : Int32) = (2 : Int32)))).2 (by decide) (by decide) kS) ?_
    show gs T7 m 43 #[.val (.long q1), .second, vi p2, vi p3, vi 5, vi nn, vr w_UNMARKED, .unset, .unset, .unset, .unset, .unset, .unset, .unset] []
    refine oiload X7 hx hby at_43 rfl ?_
    refine oiconst X7 hx hby at_45 ?_
    refine own_st (fun _ kS => XS.icmpNo X7.here hx rfl (hb hby at_46) rfl (feq (by decide : ¬ ((5 : Int32) = (3 : Int32)))).1 kS) ?_
    show gs T7 m 49 #[.val (.long q1), .second, vi p2, vi p3, vi 5, vi nn, vr w_UNMARKED, .unset, .unset, .unset, .unset, .unset, .unset, .unset] []
    refine oiload X7 hx hby at_49 rfl ?_
    refine oiconst X7 hx hby at_51 ?_
    refine own_st (fun _ kS => XS.icmpYes X7.here hx rfl (pc0 := 52) (pc' := 59) rfl (hb hby at_52) rfl (feq (by decide : ¬ ((5 : Int32) = (4 : Int32)))).2 (by decide) (by decide) kS) ?_
    show gs T7 m 59 #[.val (.long q1), .second, vi p2, vi p3, vi 5, vi nn, vr w_UNMARKED, .unset, .unset, .unset, .unset, .unset, .unset, .unset] []
    refine oiconst X7 hx hby at_59 ?_
    refine own_st (fun _ kS => XS.istore X7.here hx rfl (hb hby at_60) rfl (l' := #[.val (.long q1), .second, vi p2, vi p3, vi 5, vi nn, vr w_UNMARKED, vi 1, .unset, .unset, .unset, .unset, .unset, .unset]) rfl kS) ?_
    refine oiload X7 hx hby at_62 rfl ?_
    refine oiconst X7 hx hby at_64 ?_
    refine own_st (fun _ kS => XS.icmpNo X7.here hx rfl (hb hby at_65) rfl (feq (by decide : ¬ ((5 : Int32) = (2 : Int32)))).1 kS) ?_
    show gs T7 m 68 #[.val (.long q1), .second, vi p2, vi p3, vi 5, vi nn, vr w_UNMARKED, vi 1, .unset, .unset, .unset, .unset, .unset, .unset] []
    refine oiload X7 hx hby at_68 rfl ?_
    refine oiconst X7 hx hby at_70 ?_
    refine own_st (fun _ kS => XS.icmpYes X7.here hx rfl (pc0 := 71) (pc' := 78) rfl (hb hby at_71) rfl (feq (by decide : ¬ ((5 : Int32) = (4 : Int32)))).2 (by decide) (by decide) kS) ?_
    show gs T7 m 78 #[.val (.long q1), .second, vi p2, vi p3, vi 5, vi nn, vr w_UNMARKED, vi 1, .unset, .unset, .unset, .unset, .unset, .unset] []
    refine oiconst X7 hx hby at_78 ?_
    refine own_st (fun _ kS => XS.istore X7.here hx rfl (hb hby at_79) rfl (l' := #[.val (.long q1), .second, vi p2, vi p3, vi 5, vi nn, vr w_UNMARKED, vi 1, vi 0, .unset, .unset, .unset, .unset, .unset]) rfl kS) ?_
    show gs T7 m 81 #[.val (.long q1), .second, vi p2, vi p3, vi 5, vi nn, vr w_UNMARKED, vi 1, vi 0, .unset, .unset, .unset, .unset, .unset] []
    exact sg_A hx hby hml hown hlk hret hZ hw Z0  X7 eq7 N7 O0 q1 p2 p3 (5 : Int32) w_UNMARKED (1 : Int32) (0 : Int32) zCS fm nn E_UNMARKED F_UNMARKED_width F_UNMARKED_littleEndian S_CS P_CS S_SF P_SF S_AD S_HI S_LO (hnn ▸ own_mod3 (XT.ushr p2 (8 : Int32))) (Or.inl ⟨rfl, rfl⟩)
set_option maxRecDepth 65536 in
set_option maxHeartbeats 40000000 in
theorem comes_1 {Post : Tables → Env → Array Value → State → Outcome → State → Prop} (hpost : ∀ tb e args s v u, (limb_1_1.after args s (.returned v) u = true ∧ limb_1_2.after args s (.returned v) u = true ∧ True) → FrameEnd s (.returned v) u (Jvm.fieldLocs frame_1_writes args s ++ Jvm.arrayLocs frame_1_arrays args s ++ Jvm.staticLocs frame_1_statics s) 24 128 → Post tb e args s (.returned v) u) :
    ArmFor flags0 classFile x code maxLocals ret World_1 tables_1 room_1 Calls_1 rest_1 Pre_1 Post := by
  intro l hfl _ _ p e ha hc hk s m args below hf hA hF happ hP
  obtain ⟨hcalls, hrest, hpre⟩ := hP
  obtain ⟨-, -, -, hnamed, -, -, -, hat⟩ := (Spec.applies_iff hf).mp happ
  obtain ⟨hg, hn⟩ := and_e (Cond.before_iff.mp (show (Jvm.Cond.and given_1 narrow_1).before args s = true from hpre))
  obtain ⟨g1a, g1b⟩ := and_e hg
  obtain ⟨g2a, g2b⟩ := and_e g1b
  obtain ⟨g3a, g3b⟩ := and_e g2b
  obtain ⟨w0, w1, w2, rfl⟩ : ∃ w0 w1 w2 : Value, args = #[w0, w1, w2] := by
    have hs : args.size = 3 := by simpa [Cond.value, given_1] using g1a
    obtain ⟨L⟩ := args
    match L, hs with
    | [w0, w1, w2], _ => exact ⟨w0, w1, w2, rfl⟩
  have hw := fun d (hd : d ∈ tables_1) => atoms_spec (ws := Jvm.Cond.code x code maxLocals ret :: tables_1) hat d (List.mem_cons_of_mem _ hd)
  have hfit : Fit s := fun {y c} hc i hi => by
    obtain ⟨ha, rfl⟩ := Array.getElem?_eq_some_iff.mp hc
    have q := List.all_eq_true.mp ((Array.all_eq_true_iff_forall_mem.mp hF) _ (Array.getElem_mem ha)) i (List.mem_range.mpr hi)
    simpa [Array.getElem?_eq_getElem hi] using q
  obtain ⟨hsets, hown0⟩ := atoms_of _ (rest_1_c_eq ▸ (show rest_1_c.before _ s = true from hrest))
  have hr0 := Cond.before_iff.mp hown0
  obtain ⟨i0, ei0⟩ := isL_v g2a
  obtain rfl : w0 = (.long i0) := Option.some.inj ei0
  obtain ⟨i1, ei1⟩ := is_v g3a
  obtain rfl : w1 = (.int i1) := Option.some.inj ei1
  obtain ⟨i2, ei2⟩ := is_v g3b
  obtain rfl : w2 = (.int i2) := Option.some.inj ei2
  obtain ⟨g4a, g4b⟩ := and_e hn
  obtain ⟨g5a, g5b⟩ := and_e g4b
  obtain ⟨g6a, g6b⟩ := and_e g5b
  obtain ⟨g7a, g7b⟩ := and_e g6b
  obtain ⟨g8a, g8b⟩ := and_e g7b
  obtain ⟨g9a, g9b⟩ := and_e g8b
  obtain ⟨g10a, g10b⟩ := and_e g9b
  obtain ⟨g11a, g11b⟩ := and_e g10b
  obtain ⟨g12a, g12b⟩ := and_e g11b
  obtain ⟨g13a, g13b⟩ := and_e g12b
  obtain ⟨g14a, g14b⟩ := and_e g13b
  obtain ⟨g15a, g15b⟩ := and_e g14b
  obtain ⟨g16a, g16b⟩ := and_e g15b
  obtain ⟨g17a, g17b⟩ := and_e g16b
  obtain ⟨g18a, g18b⟩ := and_e g17b
  obtain ⟨g19a, g19b⟩ := and_e g18b
  obtain ⟨g20a, g20b⟩ := and_e g19b
  obtain ⟨w_UTF_32LE, v_UTF_32LE⟩ := exa_v g4a
  have E_UTF_32LE := Exa.start v_UTF_32LE g4a
  have S_UTF_32LE := Sta.start v_UTF_32LE (Or.inr ⟨(own_w hw 6 rfl), (own_w hw 7 rfl)⟩)
  obtain ⟨w_UTF_16LE, v_UTF_16LE⟩ := exa_v g6a
  have E_UTF_16LE := Exa.start v_UTF_16LE g6a
  have S_UTF_16LE := Sta.start v_UTF_16LE (Or.inr ⟨(own_w hw 6 rfl), (own_w hw 102 rfl)⟩)
  obtain ⟨w_UTF_8, v_UTF_8⟩ := exa_v g8a
  have E_UTF_8 := Exa.start v_UTF_8 g8a
  have S_UTF_8 := Sta.start v_UTF_8 (Or.inr ⟨(own_w hw 6 rfl), (own_w hw 104 rfl)⟩)
  obtain ⟨w_UTF_32BE, v_UTF_32BE⟩ := exa_v g10a
  have E_UTF_32BE := Exa.start v_UTF_32BE g10a
  have S_UTF_32BE := Sta.start v_UTF_32BE (Or.inr ⟨(own_w hw 6 rfl), (own_w hw 106 rfl)⟩)
  obtain ⟨w_UTF_16BE, v_UTF_16BE⟩ := exa_v g13a
  have E_UTF_16BE := Exa.start v_UTF_16BE g13a
  have S_UTF_16BE := Sta.start v_UTF_16BE (Or.inr ⟨(own_w hw 6 rfl), (own_w hw 213 rfl)⟩)
  obtain ⟨w_UNMARKED, v_UNMARKED⟩ := exa_v g15a
  have E_UNMARKED := Exa.start v_UNMARKED g15a
  have S_UNMARKED := Sta.start v_UNMARKED (Or.inr ⟨(own_w hw 6 rfl), (own_w hw 215 rfl)⟩)
  have F_UTF_32LE_width : Fld s s.heap w_UTF_32LE "com/example/provenir/provenir/TextEncoding" "width" "I" (.int (4 : Int32)) := Fld.start ((fld_at v_UTF_32LE).symm.trans (eqv_i (Term.int_eval (4)) g5a))
  have F_UTF_16LE_width : Fld s s.heap w_UTF_16LE "com/example/provenir/provenir/TextEncoding" "width" "I" (.int (2 : Int32)) := Fld.start ((fld_at v_UTF_16LE).symm.trans (eqv_i (Term.int_eval (2)) g7a))
  have F_UTF_8_width : Fld s s.heap w_UTF_8 "com/example/provenir/provenir/TextEncoding" "width" "I" (.int (1 : Int32)) := Fld.start ((fld_at v_UTF_8).symm.trans (eqv_i (Term.int_eval (1)) g9a))
  have F_UTF_32BE_width : Fld s s.heap w_UTF_32BE "com/example/provenir/provenir/TextEncoding" "width" "I" (.int (4 : Int32)) := Fld.start ((fld_at v_UTF_32BE).symm.trans (eqv_i (Term.int_eval (4)) g11a))
  have F_UTF_32BE_littleEndian : Fld s s.heap w_UTF_32BE "com/example/provenir/provenir/TextEncoding" "littleEndian" "Z" (.int (0 : Int32)) := Fld.start ((fld_at v_UTF_32BE).symm.trans (eqv_i (Term.int_eval (0)) g12a))
  have F_UTF_16BE_width : Fld s s.heap w_UTF_16BE "com/example/provenir/provenir/TextEncoding" "width" "I" (.int (2 : Int32)) := Fld.start ((fld_at v_UTF_16BE).symm.trans (eqv_i (Term.int_eval (2)) g14a))
  have F_UNMARKED_width : Fld s s.heap w_UNMARKED "com/example/provenir/provenir/TextEncoding" "width" "I" (.int (1 : Int32)) := Fld.start ((fld_at v_UNMARKED).symm.trans (eqv_i (Term.int_eval (1)) g16a))
  have F_UTF_16LE_littleEndian : Fld s s.heap w_UTF_16LE "com/example/provenir/provenir/TextEncoding" "littleEndian" "Z" (.int (1 : Int32)) := Fld.start ((fld_at v_UTF_16LE).symm.trans (eqv_i (Term.int_eval (1)) g17a))
  have F_UTF_16BE_littleEndian : Fld s s.heap w_UTF_16BE "com/example/provenir/provenir/TextEncoding" "littleEndian" "Z" (.int (0 : Int32)) := Fld.start ((fld_at v_UTF_16BE).symm.trans (eqv_i (Term.int_eval (0)) g18a))
  have F_UTF_32LE_littleEndian : Fld s s.heap w_UTF_32LE "com/example/provenir/provenir/TextEncoding" "littleEndian" "Z" (.int (1 : Int32)) := Fld.start ((fld_at v_UTF_32LE).symm.trans (eqv_i (Term.int_eval (1)) g19a))
  have F_UTF_8_littleEndian : Fld s s.heap w_UTF_8 "com/example/provenir/provenir/TextEncoding" "littleEndian" "Z" (.int (0 : Int32)) := Fld.start ((fld_at v_UTF_8).symm.trans (eqv_i (Term.int_eval (0)) g20a))
  have F_UNMARKED_littleEndian : Fld s s.heap w_UNMARKED "com/example/provenir/provenir/TextEncoding" "littleEndian" "Z" (.int (0 : Int32)) := Fld.start ((fld_at v_UNMARKED).symm.trans (eqv_i (Term.int_eval (0)) g20b))
  obtain ⟨zCS, eCS⟩ := is_v (Cond.before_iff.mp (hsets _ (List.mem_of_getElem? (i := 1) rfl)))
  have S_CS := Sta.start eCS (Or.inl (hsets _ (List.mem_of_getElem? (i := 0) rfl)))
  have P_CS : ¬ zCS = 0 := gotF (Cond.eq_ints eCS (Term.int_eval (0))) (not_v (Cond.before_iff.mp (hsets _ (List.mem_of_getElem? (i := 2) rfl))))
  obtain ⟨fm, eSF, P_SF⟩ := isR_v (Cond.before_iff.mp (hsets _ (List.mem_of_getElem? (i := 8) rfl)))
  have S_SF := Sta.start eSF (Or.inl (hsets _ (List.mem_of_getElem? (i := 7) rfl)))
  have S_AD := Sta.start (eqv_i (Term.int_eval (1)) (Cond.before_iff.mp (hsets _ (List.mem_of_getElem? (i := 12) rfl)))) (Or.inl (hsets _ (List.mem_of_getElem? (i := 11) rfl)))
  have S_HI := Sta.start (eqv_i (Term.int_eval (0)) (Cond.before_iff.mp (hsets _ (List.mem_of_getElem? (i := 15) rfl)))) (Or.inl (hsets _ (List.mem_of_getElem? (i := 14) rfl)))
  have S_LO := Sta.start (eqv_i (Term.int_eval (8)) (Cond.before_iff.mp (hsets _ (List.mem_of_getElem? (i := 18) rfl)))) (Or.inl (hsets _ (List.mem_of_getElem? (i := 17) rfl)))
  obtain ⟨n, o, h1, h2, h3, _, L, rfl, ⟨rfl, N⟩, hq⟩ := rm_law l s _ hw tables_1 i0 i1 i2 w_UTF_8 w_UTF_32BE w_UTF_32LE w_UTF_16BE w_UTF_16LE w_UNMARKED zCS fm s.heap s.heap.size (Nat.le_refl _) (Old.start s) S_UTF_8 S_UTF_32BE S_UTF_32LE S_UTF_16BE S_UTF_16LE S_UNMARKED E_UTF_8 E_UTF_32BE E_UTF_32LE E_UTF_16BE E_UTF_16LE E_UNMARKED F_UTF_8_width F_UTF_8_littleEndian F_UTF_32BE_width F_UTF_32BE_littleEndian F_UTF_32LE_width F_UTF_32LE_littleEndian F_UTF_16BE_width F_UTF_16BE_littleEndian F_UTF_16LE_width F_UTF_16LE_littleEndian F_UNMARKED_width F_UNMARKED_littleEndian S_CS P_CS S_SF P_SF S_AD S_HI S_LO p e ha hc hk s m _ below hf ((Spec.applies_iff_loose hf).mp happ).1 ⟨rfl, State.Warmed39.refl s, rfl⟩ trivial
  refine ⟨n, _, h1, h2, h3, hpost _ _ _ _ _ _ ⟨Cond.after_iff.mpr rfl, Cond.after_iff.mpr (eq_i res_at (Term.int_eval (1)) rfl), trivial⟩ ⟨hq.1, hq.2.1, (hq.2.2.sift fun y hy => Or.inr (N y hy)).mono (by decide) (by decide)⟩⟩
theorem main_1_1 : Claimed_1_1 := comes_1 fun _ _ _ _ _ _ h hF => ⟨h.1, hF⟩
theorem main_1_2 : Claimed_1_2 := comes_1 fun _ _ _ _ _ _ h hF => ⟨h.2.1, hF⟩
end Jvm.Pilot.@@N@@
namespace Jvm.Pilot.@@N@@
open Jvm Jvm.ClassFile Sem Op Lib Jvm.Free Jvm.Stand Jvm.Pilot.@@N@@.Jvm.D
/-! MADE BY PROGRAM (witnessworld.py) out of the Statement's table words and the real class files: 23 classes; the members and pool entries that the words name. The judged class is class 1, her method 1. -/
namespace start1
open Jvm.ClassFile
def u (s : String) : CpInfo := .utf8 (stringToUtf16 s)
/-- a pool by its gaps: so many unusable entries, then the entry; so many at the end -/
def gap : Nat → List CpInfo → List CpInfo
  | 0, r => r
  | n + 1, r => .unusable :: gap n r
def poolList (es : List (Nat × CpInfo)) (last : Nat) : List CpInfo := es.foldr (fun e r => gap e.1 (e.2 :: r)) (gap last [])
def pool (es : List (Nat × CpInfo)) (last : Nat) : Array CpInfo := ⟨poolList es last⟩
def fileOf (pool : Array CpInfo) (this : Nat) (attrs : Array Attribute := #[]) (ms : Array MethodInfo := #[]) (fl : Nat := 33) (sup : Nat := 0) (ifs : Array Nat := #[]) (fds : Array FieldInfo := #[]) : ClassFile where
  minorVersion := 0
  majorVersion := 65
  constantPool := pool
  accessFlags := fl
  thisClass := this
  superClass := sup
  interfaces := ifs
  fields := fds
  methods := ms
  attributes := attrs
def plain (name : String) (sup : Option ClassId) : Class where
  name := name
  kind := .ordinary
  loader := none
  accessFlags := 33
  super := sup
  interfaces := #[]
  cf := none
  fields := #[]
  methods := #[]
  instanceTypes := #[]
  staticTypes := #[]
  resolved := #[]
  callSites := []
  init := .initialized
  statics := none
  mirror := none

def pool0 : Array CpInfo := pool [(5, u "<init>"), (0, u "()V"), (1, .class_ 10), (1, u "java/lang/Object"), (85, u "clone"), (0, u "()Ljava/lang/Object;")] 26

def k0c0 : Code := { maxStack := 0, maxLocals := 1, code := object_method_1_code, exceptionTable := #[], attributes := #[] }
def k0m0 : Method := { name := "<init>", desc := "()V", sig := { parameters := [], returnType := none }, accessFlags := 1, code := some k0c0 }
def k0m1 : Method := { name := "clone", desc := "()Ljava/lang/Object;", sig := { parameters := [], returnType := some (.object "java/lang/Object") }, accessFlags := 260, code := none }
/-- java/lang/Object -/
def k0 : Class := { plain "java/lang/Object" none with
  accessFlags := 33
  interfaces := #[]
  cf := some (fileOf pool0 8 #[] #[{ accessFlags := 1, nameIndex := 5, descriptorIndex := 6, attributes := #[] }, { accessFlags := 260, nameIndex := 96, descriptorIndex := 97, attributes := #[] }] 33 0 #[] #[])
  fields := #[]
  methods := #[k0m0, k0m1]
  instanceTypes := #[]
  staticTypes := #[]
  resolved := Array.replicate 124 none
  statics := none }

def pool1 : Array CpInfo := pool [(2, .class_ 4), (1, u "java/lang/Object"), (0, u "<init>"), (0, u "()V"), (0, .integer 2147483647), (0, .methodref 9 10), (0, .class_ 11), (0, .nameAndType 12 13), (0, u "com/example/provenir/provenir/TextEncodingDecodePinLaw"), (0, u "encoding"), (0, u "(I)Lcom/example/provenir/provenir/TextEncoding;"), (0, .methodref 15 16), (0, .class_ 17), (0, .nameAndType 18 19), (0, u "com/example/provenir/provenir/TextEncoding"), (0, u "decode"), (0, u "([BII)Ljava/lang/String;"), (0, .methodref 21 22), (0, .class_ 23), (0, .nameAndType 24 25), (0, u "java/lang/String"), (0, u "length"), (0, u "()I"), (0, .methodref 21 27), (0, .nameAndType 28 29), (0, u "charAt"), (0, u "(I)C"), (0, .methodref 9 31), (0, .nameAndType 32 33), (0, u "expected"), (0, u "([BIIZ)C"), (0, .fieldref 15 35), (0, .nameAndType 36 37), (0, u "UTF_8"), (0, u "Lcom/example/provenir/provenir/TextEncoding;"), (0, .fieldref 15 39), (0, .nameAndType 40 37), (0, u "UTF_32BE"), (0, .fieldref 15 42), (0, .nameAndType 43 37), (0, u "UTF_32LE"), (0, .fieldref 15 45), (0, .nameAndType 46 37), (0, u "UTF_16BE"), (0, .fieldref 15 48), (0, .nameAndType 49 37), (0, u "UTF_16LE"), (0, .fieldref 15 51), (0, .nameAndType 52 37), (0, u "UNMARKED"), (0, .integer 65533), (2, u "law"), (0, u "(JII)Z")] 5

def k1m0 : Method := { name := "<init>", desc := "()V", sig := { parameters := [], returnType := none }, accessFlags := 1, code := none }
def k1c1 : Code := { maxStack := 5, maxLocals := 14, code := code, exceptionTable := #[], attributes := #[] }
def k1m1 : Method := { name := "law", desc := "(JII)Z", sig := { parameters := [.long, .int, .int], returnType := some .boolean }, accessFlags := 9, code := some k1c1 }
def k1c2 : Code := { maxStack := 2, maxLocals := 1, code := method_3_code, exceptionTable := #[], attributes := #[] }
def k1m2 : Method := { name := "encoding", desc := "(I)Lcom/example/provenir/provenir/TextEncoding;", sig := { parameters := [.int], returnType := some (.object "com/example/provenir/provenir/TextEncoding") }, accessFlags := 10, code := some k1c2 }
def k1c3 : Code := { maxStack := 3, maxLocals := 8, code := method_4_code, exceptionTable := #[], attributes := #[] }
def k1m3 : Method := { name := "expected", desc := "([BIIZ)C", sig := { parameters := [(.array .byte), .int, .int, .boolean], returnType := some .char }, accessFlags := 10, code := some k1c3 }
/-- com/example/provenir/provenir/TextEncodingDecodePinLaw -/
def k1 : Class := { plain "com/example/provenir/provenir/TextEncodingDecodePinLaw" (some 0) with
  accessFlags := 49
  interfaces := #[]
  cf := some (fileOf pool1 9 #[] #[{ accessFlags := 1, nameIndex := 5, descriptorIndex := 6, attributes := #[] }, { accessFlags := 9, nameIndex := 56, descriptorIndex := 57, attributes := #[] }, { accessFlags := 10, nameIndex := 12, descriptorIndex := 13, attributes := #[] }, { accessFlags := 10, nameIndex := 32, descriptorIndex := 33, attributes := #[] }] 49 2 #[] #[])
  fields := #[]
  methods := #[k1m0, k1m1, k1m2, k1m3]
  instanceTypes := #[]
  staticTypes := #[]
  resolved := Array.replicate 63 none
  statics := none }

def pool2 : Array CpInfo := pool [(1, .class_ 2), (0, u "java/lang/constant/Constable"), (0, .class_ 4), (0, u "java/lang/Object")] 6

/-- java/lang/constant/Constable -/
def k2 : Class := { plain "java/lang/constant/Constable" (some 0) with
  accessFlags := 1537
  interfaces := #[]
  cf := some (fileOf pool2 1 #[] #[] 1537 3 #[] #[])
  fields := #[]
  methods := #[]
  instanceTypes := #[]
  staticTypes := #[]
  resolved := Array.replicate 11 none
  statics := none }

def pool3 : Array CpInfo := pool [(1, .class_ 2), (0, u "java/lang/Comparable"), (0, .class_ 4), (0, u "java/lang/Object")] 7

/-- java/lang/Comparable -/
def k3 : Class := { plain "java/lang/Comparable" (some 0) with
  accessFlags := 1537
  interfaces := #[]
  cf := some (fileOf pool3 1 #[] #[] 1537 3 #[] #[])
  fields := #[]
  methods := #[]
  instanceTypes := #[]
  staticTypes := #[]
  resolved := Array.replicate 12 none
  statics := none }

def pool4 : Array CpInfo := pool [(1, .class_ 2), (0, u "java/io/Serializable"), (0, .class_ 4), (0, u "java/lang/Object")] 2

/-- java/io/Serializable -/
def k4 : Class := { plain "java/io/Serializable" (some 0) with
  accessFlags := 1537
  interfaces := #[]
  cf := some (fileOf pool4 1 #[] #[] 1537 3 #[] #[])
  fields := #[]
  methods := #[]
  instanceTypes := #[]
  staticTypes := #[]
  resolved := Array.replicate 7 none
  statics := none }

def pool5 : Array CpInfo := pool [(2, .class_ 4), (1, u "java/lang/Enum"), (0, u "name"), (0, u "Ljava/lang/String;"), (2, u "ordinal"), (0, u "I"), (1, .class_ 14), (1, u "java/lang/Object"), (4, u "hash"), (86, .class_ 108), (1, u "java/lang/Enum$EnumDesc"), (2, .class_ 112), (0, u "java/lang/constant/Constable"), (0, .class_ 114), (0, u "java/lang/Comparable"), (0, .class_ 116), (0, u "java/io/Serializable")] 87

/-- java/lang/Enum -/
def k5 : Class := { plain "java/lang/Enum" (some 0) with
  accessFlags := 1057
  interfaces := #[2, 3, 4]
  cf := some (fileOf pool5 2 #[.nestMembers #[106]] #[] 1057 12 #[111, 113, 115] #[{ accessFlags := 18, nameIndex := 5, descriptorIndex := 6, attributes := #[] }, { accessFlags := 18, nameIndex := 9, descriptorIndex := 10, attributes := #[] }, { accessFlags := 2, nameIndex := 19, descriptorIndex := 10, attributes := #[] }])
  fields := #[{ name := "name", type := (.object "java/lang/String"), accessFlags := 18, slot := 0, constantValue := 0 }, { name := "ordinal", type := .int, accessFlags := 18, slot := 1, constantValue := 0 }, { name := "hash", type := .int, accessFlags := 2, slot := 2, constantValue := 0 }]
  methods := #[]
  instanceTypes := #[(.object "java/lang/String"), .int, .int]
  staticTypes := #[]
  resolved := Array.replicate 204 none
  statics := none }

def pool6 : Array CpInfo := pool [(1, .class_ 2), (0, u "com/example/provenir/provenir/TextEncoding"), (2, u "UTF_8"), (0, u "Lcom/example/provenir/provenir/TextEncoding;"), (2, u "UTF_32BE"), (2, u "UTF_32LE"), (2, u "UTF_16BE"), (2, u "UTF_16LE"), (2, u "UNMARKED"), (2, u "$VALUES"), (0, u "[Lcom/example/provenir/provenir/TextEncoding;"), (6, .class_ 34), (1, u "java/lang/Enum"), (4, u "<init>"), (1, .fieldref 1 42), (0, .nameAndType 43 44), (0, u "width"), (0, u "I"), (0, .fieldref 1 46), (0, .nameAndType 47 48), (0, u "littleEndian"), (0, u "Z"), (2, u "mark"), (0, u "[B"), (42, .class_ 96), (0, u "java/lang/StringBuilder"), (0, .methodref 95 98), (0, .nameAndType 39 99), (0, u "(I)V"), (0, .methodref 1 101), (0, .nameAndType 102 103), (0, u "unitAt"), (0, u "([BI)I"), (2, .integer 65535), (0, .integer 65533), (0, .methodref 95 109), (0, .nameAndType 110 111), (0, u "append"), (0, u "(C)Ljava/lang/StringBuilder;"), (0, .methodref 95 113), (0, .nameAndType 114 115), (0, u "toString"), (0, u "()Ljava/lang/String;"), (12, u "LONGEST_MARK"), (19, u "decode"), (0, u "([BII)Ljava/lang/String;")] 5

def k6c0 : Code := { maxStack := 4, maxLocals := 5, code := prog_73_method_8_code, exceptionTable := #[], attributes := #[] }
def k6m0 : Method := { name := "unitAt", desc := "([BI)I", sig := { parameters := [(.array .byte), .int], returnType := some .int }, accessFlags := 0, code := some k6c0 }
def k6c1 : Code := { maxStack := 4, maxLocals := 7, code := prog_73_method_10_code, exceptionTable := #[], attributes := #[] }
def k6m1 : Method := { name := "decode", desc := "([BII)Ljava/lang/String;", sig := { parameters := [(.array .byte), .int, .int], returnType := some (.object "java/lang/String") }, accessFlags := 0, code := some k6c1 }
/-- com/example/provenir/provenir/TextEncoding -/
def k6 : Class := { plain "com/example/provenir/provenir/TextEncoding" (some 5) with
  accessFlags := 16432
  interfaces := #[]
  cf := some (fileOf pool6 1 #[] #[{ accessFlags := 0, nameIndex := 102, descriptorIndex := 103, attributes := #[] }, { accessFlags := 0, nameIndex := 148, descriptorIndex := 149, attributes := #[] }] 16432 32 #[] #[{ accessFlags := 16409, nameIndex := 5, descriptorIndex := 6, attributes := #[] }, { accessFlags := 16409, nameIndex := 9, descriptorIndex := 6, attributes := #[] }, { accessFlags := 16409, nameIndex := 12, descriptorIndex := 6, attributes := #[] }, { accessFlags := 16409, nameIndex := 15, descriptorIndex := 6, attributes := #[] }, { accessFlags := 16409, nameIndex := 18, descriptorIndex := 6, attributes := #[] }, { accessFlags := 16409, nameIndex := 21, descriptorIndex := 6, attributes := #[] }, { accessFlags := 26, nameIndex := 128, descriptorIndex := 44, attributes := #[] }, { accessFlags := 18, nameIndex := 43, descriptorIndex := 44, attributes := #[] }, { accessFlags := 18, nameIndex := 47, descriptorIndex := 48, attributes := #[] }, { accessFlags := 18, nameIndex := 51, descriptorIndex := 52, attributes := #[] }, { accessFlags := 4122, nameIndex := 24, descriptorIndex := 25, attributes := #[] }])
  fields := #[{ name := "UTF_8", type := (.object "com/example/provenir/provenir/TextEncoding"), accessFlags := 16409, slot := 0, constantValue := 0 }, { name := "UTF_32BE", type := (.object "com/example/provenir/provenir/TextEncoding"), accessFlags := 16409, slot := 1, constantValue := 0 }, { name := "UTF_32LE", type := (.object "com/example/provenir/provenir/TextEncoding"), accessFlags := 16409, slot := 2, constantValue := 0 }, { name := "UTF_16BE", type := (.object "com/example/provenir/provenir/TextEncoding"), accessFlags := 16409, slot := 3, constantValue := 0 }, { name := "UTF_16LE", type := (.object "com/example/provenir/provenir/TextEncoding"), accessFlags := 16409, slot := 4, constantValue := 0 }, { name := "UNMARKED", type := (.object "com/example/provenir/provenir/TextEncoding"), accessFlags := 16409, slot := 5, constantValue := 0 }, { name := "LONGEST_MARK", type := .int, accessFlags := 26, slot := 6, constantValue := 0 }, { name := "width", type := .int, accessFlags := 18, slot := 3, constantValue := 0 }, { name := "littleEndian", type := .boolean, accessFlags := 18, slot := 4, constantValue := 0 }, { name := "mark", type := (.array .byte), accessFlags := 18, slot := 5, constantValue := 0 }, { name := "$VALUES", type := (.array (.object "com/example/provenir/provenir/TextEncoding")), accessFlags := 4122, slot := 7, constantValue := 0 }]
  methods := #[k6m0, k6m1]
  instanceTypes := #[(.object "java/lang/String"), .int, .int, .int, .boolean, (.array .byte)]
  staticTypes := #[(.object "com/example/provenir/provenir/TextEncoding"), (.object "com/example/provenir/provenir/TextEncoding"), (.object "com/example/provenir/provenir/TextEncoding"), (.object "com/example/provenir/provenir/TextEncoding"), (.object "com/example/provenir/provenir/TextEncoding"), (.object "com/example/provenir/provenir/TextEncoding"), .int, (.array (.object "com/example/provenir/provenir/TextEncoding"))]
  resolved := Array.replicate 155 none
  statics := some 0 }

def pool7 : Array CpInfo := pool [(1, .class_ 2), (0, u "java/lang/Appendable"), (0, .class_ 4), (0, u "java/lang/Object")] 9

/-- java/lang/Appendable -/
def k7 : Class := { plain "java/lang/Appendable" (some 0) with
  accessFlags := 1537
  interfaces := #[]
  cf := some (fileOf pool7 1 #[] #[] 1537 3 #[] #[])
  fields := #[]
  methods := #[]
  instanceTypes := #[]
  staticTypes := #[]
  resolved := Array.replicate 14 none
  statics := none }

def pool8 : Array CpInfo := pool [(2, .class_ 4), (1, u "java/lang/CharSequence"), (42, .class_ 48), (0, u "java/lang/CharSequence$1CodePointIterator"), (10, .class_ 60), (0, u "java/lang/CharSequence$1CharIterator"), (5, .class_ 67), (0, u "java/lang/Object")] 63

/-- java/lang/CharSequence -/
def k8 : Class := { plain "java/lang/CharSequence" (some 0) with
  accessFlags := 1537
  interfaces := #[]
  cf := some (fileOf pool8 2 #[.nestMembers #[47, 59]] #[] 1537 66 #[] #[])
  fields := #[]
  methods := #[]
  instanceTypes := #[]
  staticTypes := #[]
  resolved := Array.replicate 131 none
  statics := none }

def pool9 : Array CpInfo := pool [(1, .class_ 2), (0, u "java/lang/String"), (0, .methodref 4 5), (0, .class_ 6), (0, .nameAndType 7 8), (0, u "java/lang/Object"), (0, u "<init>"), (0, u "()V"), (1, .class_ 12), (1, u "java/lang/AbstractStringBuilder"), (0, u "EMPTYVALUE"), (0, u "[B"), (0, .fieldref 10 16), (0, .nameAndType 17 14), (0, u "value"), (0, .fieldref 1 19), (0, .nameAndType 20 21), (0, u "COMPACT_STRINGS"), (0, u "Z"), (0, .fieldref 10 23), (0, .nameAndType 24 25), (0, u "coder"), (0, u "B"), (0, .methodref 27 28), (0, .class_ 29), (0, .nameAndType 30 31), (0, u "java/lang/StringUTF16"), (0, u "newBytesFor"), (0, u "(I)[B"), (2, u "length"), (0, u "()I"), (9, u "append"), (2, .class_ 49), (0, u "java/lang/CharSequence"), (25, u "maybeLatin1"), (3, .fieldref 10 80), (0, .nameAndType 81 82), (0, u "count"), (0, u "I"), (0, .methodref 10 84), (0, .nameAndType 85 86), (0, u "isLatin1"), (0, u "()Z"), (1, .class_ 90), (1, u "java/lang/StringLatin1"), (9, .methodref 10 101), (0, .nameAndType 102 103), (0, u "ensureCapacityInternal"), (0, u "(I)V"), (21, .methodref 88 126), (0, .nameAndType 127 128), (0, u "inflate"), (0, u "([BI[BII)V"), (7, u "([BII)V"), (54, .methodref 88 192), (0, .nameAndType 193 194), (0, u "canEncode"), (0, u "(C)Z"), (0, .methodref 10 196), (0, .nameAndType 127 8), (0, .methodref 27 198), (0, .nameAndType 199 136), (0, u "putCharSB"), (92, u "(C)Ljava/lang/AbstractStringBuilder;"), (110, u "()[B"), (40, .class_ 445), (0, u "java/lang/Appendable"), (106, u "getValue")] 56

def k9m0 : Method := { name := "<init>", desc := "()V", sig := { parameters := [], returnType := none }, accessFlags := 0, code := none }
def k9c1 : Code := { maxStack := 2, maxLocals := 2, code := jdk_68_method_2_code, exceptionTable := #[], attributes := #[] }
def k9m1 : Method := { name := "<init>", desc := "(I)V", sig := { parameters := [.int], returnType := none }, accessFlags := 0, code := some k9c1 }
def k9c2 : Code := { maxStack := 1, maxLocals := 1, code := jdk_68_method_6_code, exceptionTable := #[], attributes := #[] }
def k9m2 : Method := { name := "length", desc := "()I", sig := { parameters := [], returnType := some .int }, accessFlags := 1, code := some k9c2 }
def k9c3 : Code := { maxStack := 4, maxLocals := 3, code := jdk_68_method_9_code, exceptionTable := #[], attributes := #[] }
def k9m3 : Method := { name := "ensureCapacityInternal", desc := "(I)V", sig := { parameters := [.int], returnType := none }, accessFlags := 2, code := some k9c3 }
def k9c4 : Code := { maxStack := 5, maxLocals := 2, code := jdk_68_method_11_code, exceptionTable := #[], attributes := #[] }
def k9m4 : Method := { name := "inflate", desc := "()V", sig := { parameters := [], returnType := none }, accessFlags := 2, code := some k9c4 }
def k9c5 : Code := { maxStack := 5, maxLocals := 2, code := jdk_68_method_31_code, exceptionTable := #[], attributes := #[] }
def k9m5 : Method := { name := "append", desc := "(C)Ljava/lang/AbstractStringBuilder;", sig := { parameters := [.char], returnType := some (.object "java/lang/AbstractStringBuilder") }, accessFlags := 1, code := some k9c5 }
def k9c6 : Code := { maxStack := 1, maxLocals := 1, code := jdk_68_method_64_code, exceptionTable := #[], attributes := #[] }
def k9m6 : Method := { name := "getValue", desc := "()[B", sig := { parameters := [], returnType := some (.array .byte) }, accessFlags := 16, code := some k9c6 }
def k9c7 : Code := { maxStack := 1, maxLocals := 1, code := jdk_68_method_68_code, exceptionTable := #[], attributes := #[] }
def k9m7 : Method := { name := "isLatin1", desc := "()Z", sig := { parameters := [], returnType := some .boolean }, accessFlags := 16, code := some k9c7 }
/-- java/lang/AbstractStringBuilder -/
def k9 : Class := { plain "java/lang/AbstractStringBuilder" (some 0) with
  accessFlags := 1056
  interfaces := #[7, 8]
  cf := some (fileOf pool9 10 #[] #[{ accessFlags := 0, nameIndex := 7, descriptorIndex := 8, attributes := #[] }, { accessFlags := 0, nameIndex := 7, descriptorIndex := 103, attributes := #[] }, { accessFlags := 1, nameIndex := 34, descriptorIndex := 35, attributes := #[] }, { accessFlags := 2, nameIndex := 102, descriptorIndex := 103, attributes := #[] }, { accessFlags := 2, nameIndex := 127, descriptorIndex := 8, attributes := #[] }, { accessFlags := 1, nameIndex := 45, descriptorIndex := 292, attributes := #[] }, { accessFlags := 16, nameIndex := 552, descriptorIndex := 403, attributes := #[] }, { accessFlags := 16, nameIndex := 85, descriptorIndex := 86, attributes := #[] }] 1056 4 #[444, 48] #[{ accessFlags := 0, nameIndex := 17, descriptorIndex := 14, attributes := #[] }, { accessFlags := 0, nameIndex := 24, descriptorIndex := 25, attributes := #[] }, { accessFlags := 0, nameIndex := 75, descriptorIndex := 21, attributes := #[] }, { accessFlags := 0, nameIndex := 81, descriptorIndex := 82, attributes := #[] }, { accessFlags := 26, nameIndex := 13, descriptorIndex := 14, attributes := #[] }])
  fields := #[{ name := "value", type := (.array .byte), accessFlags := 0, slot := 0, constantValue := 0 }, { name := "coder", type := .byte, accessFlags := 0, slot := 1, constantValue := 0 }, { name := "maybeLatin1", type := .boolean, accessFlags := 0, slot := 2, constantValue := 0 }, { name := "count", type := .int, accessFlags := 0, slot := 3, constantValue := 0 }, { name := "EMPTYVALUE", type := (.array .byte), accessFlags := 26, slot := 0, constantValue := 0 }]
  methods := #[k9m0, k9m1, k9m2, k9m3, k9m4, k9m5, k9m6, k9m7]
  instanceTypes := #[(.array .byte), .byte, .boolean, .int]
  staticTypes := #[(.array .byte)]
  resolved := Array.replicate 609 none
  statics := none }

def pool10 : Array CpInfo := pool [(1, .methodref 2 3), (0, .class_ 4), (0, .nameAndType 5 6), (0, u "java/lang/AbstractStringBuilder"), (0, u "<init>"), (0, u "(I)V"), (11, .class_ 20), (1, u "java/lang/String"), (3, .class_ 26), (1, u "java/lang/StringBuilder"), (0, u "append"), (22, .methodref 2 51), (0, .nameAndType 27 52), (0, u "(C)Ljava/lang/AbstractStringBuilder;"), (84, .methodref 18 138), (0, .nameAndType 5 139), (0, u "(Ljava/lang/StringBuilder;)V"), (5, u "()V"), (10, u "()I"), (129, u "(C)Ljava/lang/StringBuilder;"), (56, .methodref 2 344), (0, .nameAndType 345 156), (0, u "length"), (3, .class_ 350), (0, u "java/lang/Appendable"), (0, .class_ 352), (0, u "java/io/Serializable"), (0, .class_ 354), (0, u "java/lang/Comparable"), (0, .class_ 356), (0, u "java/lang/CharSequence"), (0, u "serialVersionUID"), (0, u "J"), (40, u "toString"), (0, u "()Ljava/lang/String;")] 21

def k10m0 : Method := { name := "<init>", desc := "()V", sig := { parameters := [], returnType := none }, accessFlags := 1, code := none }
def k10c1 : Code := { maxStack := 2, maxLocals := 2, code := jdk_67_method_2_code, exceptionTable := #[], attributes := #[] }
def k10m1 : Method := { name := "<init>", desc := "(I)V", sig := { parameters := [.int], returnType := none }, accessFlags := 1, code := some k10c1 }
def k10c2 : Code := { maxStack := 2, maxLocals := 2, code := jdk_67_method_14_code, exceptionTable := #[], attributes := #[] }
def k10m2 : Method := { name := "append", desc := "(C)Ljava/lang/StringBuilder;", sig := { parameters := [.char], returnType := some (.object "java/lang/StringBuilder") }, accessFlags := 1, code := some k10c2 }
def k10c3 : Code := { maxStack := 3, maxLocals := 1, code := jdk_67_method_42_code, exceptionTable := #[], attributes := #[] }
def k10m3 : Method := { name := "toString", desc := "()Ljava/lang/String;", sig := { parameters := [], returnType := some (.object "java/lang/String") }, accessFlags := 1, code := some k10c3 }
def k10c4 : Code := { maxStack := 1, maxLocals := 1, code := jdk_67_method_93_code, exceptionTable := #[], attributes := #[] }
def k10m4 : Method := { name := "length", desc := "()I", sig := { parameters := [], returnType := some .int }, accessFlags := 4161, code := some k10c4 }
/-- java/lang/StringBuilder -/
def k10 : Class := { plain "java/lang/StringBuilder" (some 9) with
  accessFlags := 49
  interfaces := #[7, 4, 3, 8]
  cf := some (fileOf pool10 24 #[] #[{ accessFlags := 1, nameIndex := 5, descriptorIndex := 145, attributes := #[] }, { accessFlags := 1, nameIndex := 5, descriptorIndex := 6, attributes := #[] }, { accessFlags := 1, nameIndex := 27, descriptorIndex := 286, attributes := #[] }, { accessFlags := 1, nameIndex := 399, descriptorIndex := 400, attributes := #[] }, { accessFlags := 4161, nameIndex := 345, descriptorIndex := 156, attributes := #[] }] 49 2 #[349, 351, 353, 355] #[{ accessFlags := 24, nameIndex := 357, descriptorIndex := 358, attributes := #[] }])
  fields := #[{ name := "serialVersionUID", type := .long, accessFlags := 24, slot := 0, constantValue := 0 }]
  methods := #[k10m0, k10m1, k10m2, k10m3, k10m4]
  instanceTypes := #[(.array .byte), .byte, .boolean, .int]
  staticTypes := #[.long]
  resolved := Array.replicate 422 none
  statics := none }

def pool11 : Array CpInfo := pool [(1, .class_ 2), (0, u "java/lang/constant/ConstantDesc"), (0, .class_ 4), (0, u "java/lang/Object")] 32

/-- java/lang/constant/ConstantDesc -/
def k11 : Class := { plain "java/lang/constant/ConstantDesc" (some 0) with
  accessFlags := 1537
  interfaces := #[]
  cf := some (fileOf pool11 1 #[] #[] 1537 3 #[] #[])
  fields := #[]
  methods := #[]
  instanceTypes := #[]
  staticTypes := #[]
  resolved := Array.replicate 37 none
  statics := none }

def pool12 : Array CpInfo := pool [(1, .methodref 2 3), (0, .class_ 4), (0, .nameAndType 5 6), (0, u "java/lang/Object"), (0, u "<init>"), (0, u "()V"), (2, .fieldref 10 11), (0, .class_ 12), (0, .nameAndType 13 14), (0, u "java/lang/String"), (0, u "value"), (0, u "[B"), (0, .fieldref 10 16), (0, .nameAndType 17 18), (0, u "coder"), (0, u "B"), (2, u "hash"), (0, u "I"), (2, u "hashIsZero"), (0, u "Z"), (9, u "checkBoundsOffCount"), (0, u "(III)I"), (0, .fieldref 10 39), (0, .nameAndType 40 26), (0, u "COMPACT_STRINGS"), (1, .class_ 44), (1, u "java/lang/StringUTF16"), (9, .methodref 55 56), (0, .class_ 57), (0, .nameAndType 58 59), (0, u "java/util/Arrays"), (0, u "copyOfRange"), (0, u "([BII)[B"), (47, .class_ 109), (1, u "java/lang/StringLatin1"), (32, u "()Z"), (191, u "()I"), (0, .methodref 10 336), (0, .nameAndType 17 337), (0, u "()B"), (2, u "()[B"), (22, u "([BI)C"), (27, u "(II)V"), (35, u "(I)C"), (61, .methodref 10 490), (0, .nameAndType 5 491), (0, u "(Ljava/lang/AbstractStringBuilder;Ljava/lang/Void;)V"), (0, .methodref 10 493), (0, .nameAndType 494 142), (0, u "isLatin1"), (0, .methodref 107 496), (0, .nameAndType 497 363), (0, u "charAt"), (0, .methodref 42 496), (2, u "checkIndex"), (4, .nameAndType 507 334), (0, u "length"), (41, .methodref 550 506), (0, .class_ 551), (0, u "java/lang/AbstractStringBuilder"), (0, .methodref 550 553), (0, .nameAndType 554 340), (0, u "getValue"), (20, .class_ 576), (0, u "java/lang/CharSequence"), (22, u "CASE_INSENSITIVE_ORDER"), (0, u "Ljava/util/Comparator;"), (446, .methodref 550 493), (0, .fieldref 550 1049), (0, .nameAndType 1050 26), (0, u "maybeLatin1"), (2, .fieldref 1054 1055), (0, .class_ 1056), (0, .nameAndType 1057 1058), (0, u "jdk/internal/util/Preconditions"), (0, u "SIOOBE_FORMATTER"), (0, u "Ljava/util/function/BiFunction;"), (0, .methodref 1054 1060), (0, .nameAndType 501 1061), (0, u "(IILjava/util/function/BiFunction;)I"), (2, u "(IIILjava/util/function/BiFunction;)I"), (0, .methodref 1054 1066), (0, .nameAndType 1067 1064), (0, u "checkFromIndexSize"), (33, u "serialPersistentFields"), (0, u "[Ljava/io/ObjectStreamField;"), (0, .class_ 1104), (0, u "java/lang/String$CaseInsensitiveComparator"), (1, .class_ 1107), (0, u "java/io/Serializable"), (0, .class_ 1109), (0, u "java/lang/Comparable"), (0, .class_ 1111), (0, u "java/lang/constant/Constable"), (0, .class_ 1113), (0, u "java/lang/constant/ConstantDesc"), (2, u "serialVersionUID"), (0, u "J"), (3, u "REPL"), (0, u "C"), (2, u "LATIN1"), (1, u "UTF16"), (105, u "(Ljava/lang/StringBuilder;)V")] 217

def k12m0 : Method := { name := "<init>", desc := "()V", sig := { parameters := [], returnType := none }, accessFlags := 1, code := none }
def k12c1 : Code := { maxStack := 3, maxLocals := 2, code := jdk_42_method_53_code, exceptionTable := #[], attributes := #[] }
def k12m1 : Method := { name := "<init>", desc := "(Ljava/lang/StringBuilder;)V", sig := { parameters := [(.object "java/lang/StringBuilder")], returnType := none }, accessFlags := 1, code := some k12c1 }
def k12c2 : Code := { maxStack := 2, maxLocals := 1, code := jdk_42_method_54_code, exceptionTable := #[], attributes := #[] }
def k12m2 : Method := { name := "length", desc := "()I", sig := { parameters := [], returnType := some .int }, accessFlags := 1, code := some k12c2 }
def k12c3 : Code := { maxStack := 2, maxLocals := 2, code := jdk_42_method_56_code, exceptionTable := #[], attributes := #[] }
def k12m3 : Method := { name := "charAt", desc := "(I)C", sig := { parameters := [.int], returnType := some .char }, accessFlags := 1, code := some k12c3 }
def k12c4 : Code := { maxStack := 5, maxLocals := 5, code := jdk_42_method_150_code, exceptionTable := #[], attributes := #[] }
def k12m4 : Method := { name := "<init>", desc := "(Ljava/lang/AbstractStringBuilder;Ljava/lang/Void;)V", sig := { parameters := [(.object "java/lang/AbstractStringBuilder"), (.object "java/lang/Void")], returnType := none }, accessFlags := 0, code := some k12c4 }
def k12c5 : Code := { maxStack := 1, maxLocals := 1, code := jdk_42_method_152_code, exceptionTable := #[], attributes := #[] }
def k12m5 : Method := { name := "coder", desc := "()B", sig := { parameters := [], returnType := some .byte }, accessFlags := 0, code := some k12c5 }
def k12c6 : Code := { maxStack := 1, maxLocals := 1, code := jdk_42_method_154_code, exceptionTable := #[], attributes := #[] }
def k12m6 : Method := { name := "isLatin1", desc := "()Z", sig := { parameters := [], returnType := some .boolean }, accessFlags := 0, code := some k12c6 }
def k12c7 : Code := { maxStack := 3, maxLocals := 2, code := jdk_42_method_155_code, exceptionTable := #[], attributes := #[] }
def k12m7 : Method := { name := "checkIndex", desc := "(II)V", sig := { parameters := [.int, .int], returnType := none }, accessFlags := 8, code := some k12c7 }
def k12c8 : Code := { maxStack := 4, maxLocals := 3, code := jdk_42_method_157_code, exceptionTable := #[], attributes := #[] }
def k12m8 : Method := { name := "checkBoundsOffCount", desc := "(III)I", sig := { parameters := [.int, .int, .int], returnType := some .int }, accessFlags := 8, code := some k12c8 }
/-- java/lang/String -/
def k12 : Class := { plain "java/lang/String" (some 0) with
  accessFlags := 49
  interfaces := #[4, 3, 8, 2, 11]
  cf := some (fileOf pool12 10 #[.nestMembers #[1103]] #[{ accessFlags := 1, nameIndex := 5, descriptorIndex := 6, attributes := #[] }, { accessFlags := 1, nameIndex := 5, descriptorIndex := 1233, attributes := #[] }, { accessFlags := 1, nameIndex := 507, descriptorIndex := 334, attributes := #[] }, { accessFlags := 1, nameIndex := 497, descriptorIndex := 427, attributes := #[] }, { accessFlags := 0, nameIndex := 5, descriptorIndex := 491, attributes := #[] }, { accessFlags := 0, nameIndex := 17, descriptorIndex := 337, attributes := #[] }, { accessFlags := 0, nameIndex := 494, descriptorIndex := 142, attributes := #[] }, { accessFlags := 8, nameIndex := 501, descriptorIndex := 391, attributes := #[] }, { accessFlags := 8, nameIndex := 36, descriptorIndex := 37, attributes := #[] }] 49 2 #[1106, 1108, 575, 1110, 1112] #[{ accessFlags := 18, nameIndex := 13, descriptorIndex := 14, attributes := #[] }, { accessFlags := 18, nameIndex := 17, descriptorIndex := 18, attributes := #[] }, { accessFlags := 2, nameIndex := 21, descriptorIndex := 22, attributes := #[] }, { accessFlags := 2, nameIndex := 25, descriptorIndex := 26, attributes := #[] }, { accessFlags := 26, nameIndex := 1116, descriptorIndex := 1117, attributes := #[] }, { accessFlags := 24, nameIndex := 40, descriptorIndex := 26, attributes := #[] }, { accessFlags := 26, nameIndex := 1101, descriptorIndex := 1102, attributes := #[] }, { accessFlags := 26, nameIndex := 1121, descriptorIndex := 1122, attributes := #[] }, { accessFlags := 25, nameIndex := 599, descriptorIndex := 600, attributes := #[] }, { accessFlags := 24, nameIndex := 1125, descriptorIndex := 18, attributes := #[] }, { accessFlags := 24, nameIndex := 1127, descriptorIndex := 18, attributes := #[] }])
  fields := #[{ name := "value", type := (.array .byte), accessFlags := 18, slot := 0, constantValue := 0 }, { name := "coder", type := .byte, accessFlags := 18, slot := 1, constantValue := 0 }, { name := "hash", type := .int, accessFlags := 2, slot := 2, constantValue := 0 }, { name := "hashIsZero", type := .boolean, accessFlags := 2, slot := 3, constantValue := 0 }, { name := "serialVersionUID", type := .long, accessFlags := 26, slot := 0, constantValue := 0 }, { name := "COMPACT_STRINGS", type := .boolean, accessFlags := 24, slot := 1, constantValue := 0 }, { name := "serialPersistentFields", type := (.array (.object "java/io/ObjectStreamField")), accessFlags := 26, slot := 2, constantValue := 0 }, { name := "REPL", type := .char, accessFlags := 26, slot := 3, constantValue := 0 }, { name := "CASE_INSENSITIVE_ORDER", type := (.object "java/util/Comparator"), accessFlags := 25, slot := 4, constantValue := 0 }, { name := "LATIN1", type := .byte, accessFlags := 24, slot := 5, constantValue := 0 }, { name := "UTF16", type := .byte, accessFlags := 24, slot := 6, constantValue := 0 }]
  methods := #[k12m0, k12m1, k12m2, k12m3, k12m4, k12m5, k12m6, k12m7, k12m8]
  instanceTypes := #[(.array .byte), .byte, .int, .boolean]
  staticTypes := #[.long, .boolean, (.array (.object "java/io/ObjectStreamField")), .char, (.object "java/util/Comparator"), .byte, .byte]
  resolved := Array.replicate 1451 none
  statics := some 1 }

def pool13 : Array CpInfo := pool [(2, .class_ 4), (1, u "java/lang/Object"), (0, u "<init>"), (0, u "()V"), (7, .class_ 16), (1, u "java/util/Arrays"), (57, .class_ 76), (1, u "java/util/Arrays$NaturalOrder"), (32, u "()Ljava/lang/Object;"), (3, .class_ 115), (1, u "java/util/Arrays$LegacyMergeSort"), (1, u "Z"), (10, .nameAndType 129 109), (0, u "clone"), (9, u "copyOfRange"), (170, .methodref 311 128), (0, .class_ 312), (0, u "[B"), (29, u "([BII)[B"), (32, .class_ 376), (0, u "java/util/Arrays$ArrayList"), (68, u "$assertionsDisabled"), (269, u "MIN_ARRAY_SORT_GRAN"), (0, u "I"), (2, u "INSERTIONSORT_THRESHOLD"), (255, .class_ 976), (0, u "java/util/Arrays$ArrayItr")] 52

def k13m0 : Method := { name := "<init>", desc := "()V", sig := { parameters := [], returnType := none }, accessFlags := 2, code := none }
def k13c1 : Code := { maxStack := 3, maxLocals := 3, code := jdk_65_method_132_code, exceptionTable := #[], attributes := #[] }
def k13m1 : Method := { name := "copyOfRange", desc := "([BII)[B", sig := { parameters := [(.array .byte), .int, .int], returnType := some (.array .byte) }, accessFlags := 9, code := some k13c1 }
/-- java/util/Arrays -/
def k13 : Class := { plain "java/util/Arrays" (some 0) with
  accessFlags := 49
  interfaces := #[]
  cf := some (fileOf pool13 14 #[.nestMembers #[975, 375, 113, 74]] #[{ accessFlags := 2, nameIndex := 5, descriptorIndex := 6, attributes := #[] }, { accessFlags := 9, nameIndex := 139, descriptorIndex := 342, attributes := #[] }] 49 2 #[] #[{ accessFlags := 26, nameIndex := 715, descriptorIndex := 716, attributes := #[] }, { accessFlags := 26, nameIndex := 719, descriptorIndex := 716, attributes := #[] }, { accessFlags := 4120, nameIndex := 445, descriptorIndex := 117, attributes := #[] }])
  fields := #[{ name := "MIN_ARRAY_SORT_GRAN", type := .int, accessFlags := 26, slot := 0, constantValue := 0 }, { name := "INSERTIONSORT_THRESHOLD", type := .int, accessFlags := 26, slot := 1, constantValue := 0 }, { name := "$assertionsDisabled", type := .boolean, accessFlags := 4120, slot := 2, constantValue := 0 }]
  methods := #[k13m0, k13m1]
  instanceTypes := #[]
  staticTypes := #[.int, .int, .boolean]
  resolved := Array.replicate 1029 none
  statics := none }

def pool14 : Array CpInfo := pool [(1, .class_ 2), (0, u "java/lang/Cloneable"), (0, .class_ 4), (0, u "java/lang/Object")] 2

/-- java/lang/Cloneable -/
def k14 : Class := { plain "java/lang/Cloneable" (some 0) with
  accessFlags := 1537
  interfaces := #[]
  cf := some (fileOf pool14 1 #[] #[] 1537 3 #[] #[])
  fields := #[]
  methods := #[]
  instanceTypes := #[]
  staticTypes := #[]
  resolved := Array.replicate 7 none
  statics := none }

def pool15 : Array CpInfo := pool [(1, .class_ 2), (0, u "java/lang/String"), (1, .class_ 6), (1, u "java/lang/Object"), (0, u "<init>"), (0, u "()V"), (0, .methodref 1 10), (0, .nameAndType 11 12), (0, u "checkIndex"), (0, u "(II)V"), (1, .class_ 16), (1, u "java/lang/StringLatin1"), (0, u "inflate"), (2, .class_ 22), (1, u "java/lang/StringUTF16"), (3, .nameAndType 17 27), (0, u "([BI[BII)V"), (25, u "([BI)C"), (36, u "canEncode"), (14, u "(C)Z"), (15, u "$assertionsDisabled"), (0, u "Z"), (98, .class_ 223), (1, u "java/lang/StringLatin1$LinesSpliterator"), (16, .methodref 20 26), (11, u "charAt"), (137, .class_ 391), (0, u "java/lang/StringLatin1$CharsSpliterator")] 3

def k15m0 : Method := { name := "<init>", desc := "()V", sig := { parameters := [], returnType := none }, accessFlags := 0, code := none }
def k15c1 : Code := { maxStack := 2, maxLocals := 2, code := jdk_43_method_2_code, exceptionTable := #[], attributes := #[] }
def k15m1 : Method := { name := "charAt", desc := "([BI)C", sig := { parameters := [(.array .byte), .int], returnType := some .char }, accessFlags := 9, code := some k15c1 }
def k15c2 : Code := { maxStack := 2, maxLocals := 1, code := jdk_43_method_3_code, exceptionTable := #[], attributes := #[] }
def k15m2 : Method := { name := "canEncode", desc := "(C)Z", sig := { parameters := [.char], returnType := some .boolean }, accessFlags := 9, code := some k15c2 }
def k15c3 : Code := { maxStack := 5, maxLocals := 5, code := jdk_43_method_50_code, exceptionTable := #[], attributes := #[] }
def k15m3 : Method := { name := "inflate", desc := "([BI[BII)V", sig := { parameters := [(.array .byte), .int, (.array .byte), .int, .int], returnType := none }, accessFlags := 9, code := some k15c3 }
/-- java/lang/StringLatin1 -/
def k15 : Class := { plain "java/lang/StringLatin1" (some 0) with
  accessFlags := 48
  interfaces := #[]
  cf := some (fileOf pool15 14 #[.nestMembers #[390, 221]] #[{ accessFlags := 0, nameIndex := 7, descriptorIndex := 8, attributes := #[] }, { accessFlags := 9, nameIndex := 252, descriptorIndex := 53, attributes := #[] }, { accessFlags := 9, nameIndex := 90, descriptorIndex := 105, attributes := #[] }, { accessFlags := 9, nameIndex := 17, descriptorIndex := 27, attributes := #[] }] 48 4 #[] #[{ accessFlags := 4120, nameIndex := 121, descriptorIndex := 122, attributes := #[] }])
  fields := #[{ name := "$assertionsDisabled", type := .boolean, accessFlags := 4120, slot := 0, constantValue := 0 }]
  methods := #[k15m0, k15m1, k15m2, k15m3]
  instanceTypes := #[]
  staticTypes := #[.boolean]
  resolved := Array.replicate 395 none
  statics := none }

def pool16 : Array CpInfo := pool [(2, .class_ 4), (1, u "java/lang/Object"), (0, u "<init>"), (0, u "()V"), (17, .class_ 26), (1, u "jdk/internal/util/Preconditions"), (6, u "checkIndex"), (15, u "checkFromIndexSize"), (5, .class_ 56), (0, u "jdk/internal/util/Preconditions$4"), (57, .class_ 115), (0, u "jdk/internal/util/Preconditions$1"), (7, u "SIOOBE_FORMATTER"), (0, u "Ljava/util/function/BiFunction;"), (0, .class_ 126), (0, u "jdk/internal/util/Preconditions$2"), (3, u "AIOOBE_FORMATTER"), (0, .class_ 132), (0, u "jdk/internal/util/Preconditions$3"), (3, u "IOOBE_FORMATTER"), (41, u "(IILjava/util/function/BiFunction;)I"), (4, u "(IIILjava/util/function/BiFunction;)I")] 10

def k16m0 : Method := { name := "<init>", desc := "()V", sig := { parameters := [], returnType := none }, accessFlags := 1, code := none }
def k16c1 : Code := { maxStack := 3, maxLocals := 3, code := jdk_41_method_11_code, exceptionTable := #[], attributes := #[] }
def k16m1 : Method := { name := "checkIndex", desc := "(IILjava/util/function/BiFunction;)I", sig := { parameters := [.int, .int, (.object "java/util/function/BiFunction")], returnType := some .int }, accessFlags := 9, code := some k16c1 }
def k16c2 : Code := { maxStack := 4, maxLocals := 4, code := jdk_41_method_13_code, exceptionTable := #[], attributes := #[] }
def k16m2 : Method := { name := "checkFromIndexSize", desc := "(IIILjava/util/function/BiFunction;)I", sig := { parameters := [.int, .int, .int, (.object "java/util/function/BiFunction")], returnType := some .int }, accessFlags := 9, code := some k16c2 }
/-- jdk/internal/util/Preconditions -/
def k16 : Class := { plain "jdk/internal/util/Preconditions" (some 0) with
  accessFlags := 33
  interfaces := #[]
  cf := some (fileOf pool16 24 #[.nestMembers #[55, 131, 125, 114]] #[{ accessFlags := 1, nameIndex := 5, descriptorIndex := 6, attributes := #[] }, { accessFlags := 9, nameIndex := 33, descriptorIndex := 178, attributes := #[] }, { accessFlags := 9, nameIndex := 49, descriptorIndex := 183, attributes := #[] }] 33 2 #[] #[{ accessFlags := 25, nameIndex := 123, descriptorIndex := 124, attributes := #[] }, { accessFlags := 25, nameIndex := 130, descriptorIndex := 124, attributes := #[] }, { accessFlags := 25, nameIndex := 136, descriptorIndex := 124, attributes := #[] }])
  fields := #[{ name := "SIOOBE_FORMATTER", type := (.object "java/util/function/BiFunction"), accessFlags := 25, slot := 0, constantValue := 0 }, { name := "AIOOBE_FORMATTER", type := (.object "java/util/function/BiFunction"), accessFlags := 25, slot := 1, constantValue := 0 }, { name := "IOOBE_FORMATTER", type := (.object "java/util/function/BiFunction"), accessFlags := 25, slot := 2, constantValue := 0 }]
  methods := #[k16m0, k16m1, k16m2]
  instanceTypes := #[]
  staticTypes := #[(.object "java/util/function/BiFunction"), (.object "java/util/function/BiFunction"), (.object "java/util/function/BiFunction")]
  resolved := Array.replicate 194 none
  statics := some 2 }

def pool17 : Array CpInfo := pool [(3, .class_ 4), (0, u "java/lang/String"), (1, .class_ 8), (1, u "java/lang/Object"), (0, u "<init>"), (0, u "()V"), (0, .methodref 12 13), (0, .class_ 14), (0, .nameAndType 15 16), (0, u "java/lang/StringUTF16"), (0, u "newBytesLength"), (0, u "(I)I"), (3, .integer 1073741823), (23, .fieldref 12 45), (0, .nameAndType 46 47), (0, u "$assertionsDisabled"), (0, u "Z"), (0, .methodref 12 49), (0, .nameAndType 50 51), (0, u "length"), (0, u "([B)I"), (7, .fieldref 12 60), (0, .nameAndType 61 62), (0, u "HI_BYTE_SHIFT"), (0, u "I"), (0, .fieldref 12 64), (0, .nameAndType 65 62), (0, u "LO_BYTE_SHIFT"), (1, .methodref 12 68), (0, .nameAndType 69 70), (0, u "checkIndex"), (0, u "(I[B)V"), (0, .methodref 12 72), (0, .nameAndType 73 74), (0, u "getChar"), (0, u "([BI)C"), (24, u "(II[B)V"), (9, u "newBytesFor"), (0, u "(I)[B"), (0, .methodref 12 112), (0, .nameAndType 113 114), (0, u "putChar"), (0, u "([BII)V"), (25, u "inflate"), (0, u "([BI[BII)V"), (31, .methodref 12 174), (0, .nameAndType 175 99), (0, u "checkBoundsOffCount"), (105, u "(III)I"), (87, .class_ 371), (1, u "java/lang/StringUTF16$LinesSpliterator"), (20, u "charAt"), (21, .methodref 3 415), (0, .nameAndType 69 416), (0, u "(II)V"), (2, .methodref 3 420), (0, .nameAndType 175 281), (9, u "MAX_LENGTH"), (155, u "putCharSB"), (40, .class_ 628), (0, u "java/lang/StringUTF16$CodePointsSpliterator"), (0, .class_ 630), (0, u "java/lang/StringUTF16$CharsSpliterator")] 4

def k17m0 : Method := { name := "<init>", desc := "()V", sig := { parameters := [], returnType := none }, accessFlags := 0, code := none }
def k17c1 : Code := { maxStack := 1, maxLocals := 1, code := jdk_52_method_2_code, exceptionTable := #[], attributes := #[] }
def k17m1 : Method := { name := "newBytesFor", desc := "(I)[B", sig := { parameters := [.int], returnType := some (.array .byte) }, accessFlags := 9, code := some k17c1 }
def k17c2 : Code := { maxStack := 4, maxLocals := 1, code := jdk_52_method_3_code, exceptionTable := #[], attributes := #[] }
def k17m2 : Method := { name := "newBytesLength", desc := "(I)I", sig := { parameters := [.int], returnType := some .int }, accessFlags := 9, code := some k17c2 }
def k17c3 : Code := { maxStack := 4, maxLocals := 3, code := jdk_52_method_4_code, exceptionTable := #[], attributes := #[] }
def k17m3 : Method := { name := "putChar", desc := "([BII)V", sig := { parameters := [(.array .byte), .int, .int], returnType := none }, accessFlags := 8, code := some k17c3 }
def k17c4 : Code := { maxStack := 3, maxLocals := 2, code := jdk_52_method_5_code, exceptionTable := #[], attributes := #[] }
def k17m4 : Method := { name := "getChar", desc := "([BI)C", sig := { parameters := [(.array .byte), .int], returnType := some .char }, accessFlags := 8, code := some k17c4 }
def k17c5 : Code := { maxStack := 2, maxLocals := 1, code := jdk_52_method_6_code, exceptionTable := #[], attributes := #[] }
def k17m5 : Method := { name := "length", desc := "([B)I", sig := { parameters := [(.array .byte)], returnType := some .int }, accessFlags := 9, code := some k17c5 }
def k17c6 : Code := { maxStack := 3, maxLocals := 3, code := jdk_52_method_71_code, exceptionTable := #[], attributes := #[] }
def k17m6 : Method := { name := "putCharSB", desc := "([BII)V", sig := { parameters := [(.array .byte), .int, .int], returnType := none }, accessFlags := 9, code := some k17c6 }
def k17c7 : Code := { maxStack := 2, maxLocals := 2, code := jdk_52_method_83_code, exceptionTable := #[], attributes := #[] }
def k17m7 : Method := { name := "charAt", desc := "([BI)C", sig := { parameters := [(.array .byte), .int], returnType := some .char }, accessFlags := 9, code := some k17c7 }
def k17c8 : Code := { maxStack := 4, maxLocals := 6, code := jdk_52_method_86_code, exceptionTable := #[], attributes := #[] }
def k17m8 : Method := { name := "inflate", desc := "([BI[BII)V", sig := { parameters := [(.array .byte), .int, (.array .byte), .int, .int], returnType := none }, accessFlags := 9, code := some k17c8 }
def k17c9 : Code := { maxStack := 2, maxLocals := 2, code := jdk_52_method_91_code, exceptionTable := #[], attributes := #[] }
def k17m9 : Method := { name := "checkIndex", desc := "(I[B)V", sig := { parameters := [.int, (.array .byte)], returnType := none }, accessFlags := 9, code := some k17c9 }
def k17c10 : Code := { maxStack := 3, maxLocals := 3, code := jdk_52_method_94_code, exceptionTable := #[], attributes := #[] }
def k17m10 : Method := { name := "checkBoundsOffCount", desc := "(II[B)V", sig := { parameters := [.int, .int, (.array .byte)], returnType := none }, accessFlags := 9, code := some k17c10 }
/-- java/lang/StringUTF16 -/
def k17 : Class := { plain "java/lang/StringUTF16" (some 0) with
  accessFlags := 48
  interfaces := #[]
  cf := some (fileOf pool17 12 #[.nestMembers #[627, 629, 369]] #[{ accessFlags := 0, nameIndex := 9, descriptorIndex := 10, attributes := #[] }, { accessFlags := 9, nameIndex := 109, descriptorIndex := 110, attributes := #[] }, { accessFlags := 9, nameIndex := 15, descriptorIndex := 16, attributes := #[] }, { accessFlags := 8, nameIndex := 113, descriptorIndex := 114, attributes := #[] }, { accessFlags := 8, nameIndex := 73, descriptorIndex := 74, attributes := #[] }, { accessFlags := 9, nameIndex := 50, descriptorIndex := 51, attributes := #[] }, { accessFlags := 9, nameIndex := 586, descriptorIndex := 114, attributes := #[] }, { accessFlags := 9, nameIndex := 392, descriptorIndex := 74, attributes := #[] }, { accessFlags := 9, nameIndex := 140, descriptorIndex := 141, attributes := #[] }, { accessFlags := 9, nameIndex := 69, descriptorIndex := 70, attributes := #[] }, { accessFlags := 9, nameIndex := 175, descriptorIndex := 99, attributes := #[] }] 48 6 #[] #[{ accessFlags := 26, nameIndex := 61, descriptorIndex := 62, attributes := #[] }, { accessFlags := 26, nameIndex := 65, descriptorIndex := 62, attributes := #[] }, { accessFlags := 24, nameIndex := 430, descriptorIndex := 62, attributes := #[] }, { accessFlags := 4120, nameIndex := 46, descriptorIndex := 47, attributes := #[] }])
  fields := #[{ name := "HI_BYTE_SHIFT", type := .int, accessFlags := 26, slot := 0, constantValue := 0 }, { name := "LO_BYTE_SHIFT", type := .int, accessFlags := 26, slot := 1, constantValue := 0 }, { name := "MAX_LENGTH", type := .int, accessFlags := 24, slot := 2, constantValue := 0 }, { name := "$assertionsDisabled", type := .boolean, accessFlags := 4120, slot := 3, constantValue := 0 }]
  methods := #[k17m0, k17m1, k17m2, k17m3, k17m4, k17m5, k17m6, k17m7, k17m8, k17m9, k17m10]
  instanceTypes := #[]
  staticTypes := #[.int, .int, .int, .boolean]
  resolved := Array.replicate 635 none
  statics := some 3 }

def pool18 : Array CpInfo := pool [(9, u "<init>"), (6, .class_ 18), (1, u "java/lang/Object"), (0, u "()V"), (1, .class_ 23), (1, u "jdk/internal/util/ArraysSupport"), (0, u "LOG2_ARRAY_LONG_INDEX_SCALE"), (0, u "I"), (2, u "U"), (0, u "Ljdk/internal/misc/Unsafe;"), (8, u "BIG_ENDIAN"), (0, u "Z"), (8, u "LOG2_BYTE_BIT_SIZE"), (4, u "LOG2_ARRAY_INT_INDEX_SCALE"), (54, u "JLA"), (0, u "Ljdk/internal/access/JavaLangAccess;"), (11, u "LOG2_ARRAY_BOOLEAN_INDEX_SCALE"), (9, u "LOG2_ARRAY_BYTE_INDEX_SCALE"), (5, u "LOG2_ARRAY_CHAR_INDEX_SCALE"), (5, u "LOG2_ARRAY_SHORT_INDEX_SCALE"), (18, u "LOG2_ARRAY_FLOAT_INDEX_SCALE"), (24, u "LOG2_ARRAY_DOUBLE_INDEX_SCALE"), (89, u "T_BOOLEAN"), (2, u "T_CHAR"), (1, u "T_FLOAT"), (1, u "T_DOUBLE"), (1, u "T_BYTE"), (1, u "T_SHORT"), (1, u "T_INT"), (1, u "T_LONG"), (1, u "SOFT_MAX_ARRAY_LENGTH")] 83

def k18m0 : Method := { name := "<init>", desc := "()V", sig := { parameters := [], returnType := none }, accessFlags := 2, code := none }
/-- jdk/internal/util/ArraysSupport -/
def k18 : Class := { plain "jdk/internal/util/ArraysSupport" (some 0) with
  accessFlags := 33
  interfaces := #[]
  cf := some (fileOf pool18 21 #[] #[{ accessFlags := 2, nameIndex := 9, descriptorIndex := 19, attributes := #[] }] 33 16 #[] #[{ accessFlags := 24, nameIndex := 28, descriptorIndex := 29, attributes := #[] }, { accessFlags := 26, nameIndex := 38, descriptorIndex := 39, attributes := #[] }, { accessFlags := 25, nameIndex := 121, descriptorIndex := 25, attributes := #[] }, { accessFlags := 25, nameIndex := 131, descriptorIndex := 25, attributes := #[] }, { accessFlags := 25, nameIndex := 137, descriptorIndex := 25, attributes := #[] }, { accessFlags := 25, nameIndex := 143, descriptorIndex := 25, attributes := #[] }, { accessFlags := 25, nameIndex := 53, descriptorIndex := 25, attributes := #[] }, { accessFlags := 25, nameIndex := 24, descriptorIndex := 25, attributes := #[] }, { accessFlags := 25, nameIndex := 162, descriptorIndex := 25, attributes := #[] }, { accessFlags := 25, nameIndex := 187, descriptorIndex := 25, attributes := #[] }, { accessFlags := 26, nameIndex := 48, descriptorIndex := 25, attributes := #[] }, { accessFlags := 25, nameIndex := 277, descriptorIndex := 25, attributes := #[] }, { accessFlags := 25, nameIndex := 280, descriptorIndex := 25, attributes := #[] }, { accessFlags := 25, nameIndex := 282, descriptorIndex := 25, attributes := #[] }, { accessFlags := 25, nameIndex := 284, descriptorIndex := 25, attributes := #[] }, { accessFlags := 25, nameIndex := 286, descriptorIndex := 25, attributes := #[] }, { accessFlags := 25, nameIndex := 288, descriptorIndex := 25, attributes := #[] }, { accessFlags := 25, nameIndex := 290, descriptorIndex := 25, attributes := #[] }, { accessFlags := 25, nameIndex := 292, descriptorIndex := 25, attributes := #[] }, { accessFlags := 26, nameIndex := 108, descriptorIndex := 109, attributes := #[] }, { accessFlags := 25, nameIndex := 294, descriptorIndex := 25, attributes := #[] }])
  fields := #[{ name := "U", type := (.object "jdk/internal/misc/Unsafe"), accessFlags := 24, slot := 0, constantValue := 0 }, { name := "BIG_ENDIAN", type := .boolean, accessFlags := 26, slot := 1, constantValue := 0 }, { name := "LOG2_ARRAY_BOOLEAN_INDEX_SCALE", type := .int, accessFlags := 25, slot := 2, constantValue := 0 }, { name := "LOG2_ARRAY_BYTE_INDEX_SCALE", type := .int, accessFlags := 25, slot := 3, constantValue := 0 }, { name := "LOG2_ARRAY_CHAR_INDEX_SCALE", type := .int, accessFlags := 25, slot := 4, constantValue := 0 }, { name := "LOG2_ARRAY_SHORT_INDEX_SCALE", type := .int, accessFlags := 25, slot := 5, constantValue := 0 }, { name := "LOG2_ARRAY_INT_INDEX_SCALE", type := .int, accessFlags := 25, slot := 6, constantValue := 0 }, { name := "LOG2_ARRAY_LONG_INDEX_SCALE", type := .int, accessFlags := 25, slot := 7, constantValue := 0 }, { name := "LOG2_ARRAY_FLOAT_INDEX_SCALE", type := .int, accessFlags := 25, slot := 8, constantValue := 0 }, { name := "LOG2_ARRAY_DOUBLE_INDEX_SCALE", type := .int, accessFlags := 25, slot := 9, constantValue := 0 }, { name := "LOG2_BYTE_BIT_SIZE", type := .int, accessFlags := 26, slot := 10, constantValue := 0 }, { name := "T_BOOLEAN", type := .int, accessFlags := 25, slot := 11, constantValue := 0 }, { name := "T_CHAR", type := .int, accessFlags := 25, slot := 12, constantValue := 0 }, { name := "T_FLOAT", type := .int, accessFlags := 25, slot := 13, constantValue := 0 }, { name := "T_DOUBLE", type := .int, accessFlags := 25, slot := 14, constantValue := 0 }, { name := "T_BYTE", type := .int, accessFlags := 25, slot := 15, constantValue := 0 }, { name := "T_SHORT", type := .int, accessFlags := 25, slot := 16, constantValue := 0 }, { name := "T_INT", type := .int, accessFlags := 25, slot := 17, constantValue := 0 }, { name := "T_LONG", type := .int, accessFlags := 25, slot := 18, constantValue := 0 }, { name := "JLA", type := (.object "jdk/internal/access/JavaLangAccess"), accessFlags := 26, slot := 19, constantValue := 0 }, { name := "SOFT_MAX_ARRAY_LENGTH", type := .int, accessFlags := 25, slot := 20, constantValue := 0 }]
  methods := #[k18m0]
  instanceTypes := #[]
  staticTypes := #[(.object "jdk/internal/misc/Unsafe"), .boolean, .int, .int, .int, .int, .int, .int, .int, .int, .int, .int, .int, .int, .int, .int, .int, .int, .int, (.object "jdk/internal/access/JavaLangAccess"), .int]
  resolved := Array.replicate 378 none
  statics := none }

/-- the primitive byte -/
def k19 : Class := { plain "byte" none with kind := .primitive 'B', accessFlags := 0x411 }
/-- [B -/
def k20 : Class := { plain "[B" (some 0) with kind := .array 19 .byte, interfaces := #[14, 4], accessFlags := 1041 }

/-- the primitive int -/
def k21 : Class := { plain "int" none with kind := .primitive 'I', accessFlags := 0x411 }
/-- [I -/
def k22 : Class := { plain "[I" (some 0) with kind := .array 21 .int, interfaces := #[14, 4], accessFlags := 1041 }

def heap : Heap := #[{ cls := 6, slots := #[.ref 4, .ref 5, .ref 6, .ref 7, .ref 8, .ref 9, .int 0, .null], vm := .statics 6 },
  { cls := 12, slots := #[.long 0, .int 1, .null, .int 0, .null, .int 0, .int 0], vm := .statics 12 },
  { cls := 16, slots := #[.null, .null, .null], vm := .statics 16 },
  { cls := 17, slots := #[.int 0, .int 8, .int 0, .int 1], vm := .statics 17 },
  { cls := 6, slots := #[.null, .int 0, .int 0, .int 1, .int 0, .null], vm := .none },
  { cls := 6, slots := #[.null, .int 1, .int 0, .int 4, .int 0, .null], vm := .none },
  { cls := 6, slots := #[.null, .int 2, .int 0, .int 4, .int 1, .null], vm := .none },
  { cls := 6, slots := #[.null, .int 3, .int 0, .int 2, .int 0, .null], vm := .none },
  { cls := 6, slots := #[.null, .int 4, .int 0, .int 2, .int 1, .null], vm := .none },
  { cls := 6, slots := #[.null, .int 5, .int 0, .int 1, .int 0, .null], vm := .none }]
def classes : Array Class := #[k0, k1, k2, k3, k4, k5, k6, k7, k8, k9, k10, k11, k12, k13, k14, k15, k16, k17, k18, k19, k20, k21, k22]
def interned : List (Array UInt16 × Addr) := []
def slotsUsed : Nat := 58
def theMethod : MethodId := ⟨1, 1⟩
def args0 : Array Value := #[.long 7, .int 5, .int 1]
def aboutOver (below : List Frame) : State where
  vm := { classes := classes, interned := interned.toArray }
  heap := heap
  slotsUsed := slotsUsed
  threads := #[{ frames := .invoking theMethod args0 :: below }]
def below0 : List Frame := [.native { method := ⟨0, 0⟩, args := #[] }]
def about1 : State := aboutOver below0
def p0 : Program := .bare "" "" ""
def e0 : Env := launch0.env 0 0 0
theorem w_frames : about1.frames = Frame.invoking theMethod args0 :: below0 := rfl
set_option maxRecDepth 65536 in
theorem w_args : argsFit about1.vm theMethod args0 = true := by decide +kernel
set_option maxRecDepth 65536 in
theorem w_heap : heapFits about1 = true := by decide +kernel
set_option maxRecDepth 65536 in
theorem w_runnable : about1.curStatus? = some .runnable := by decide +kernel
set_option maxRecDepth 65536 in
theorem w_alone : about1.alone = true := by decide +kernel
set_option maxRecDepth 65536 in
theorem w_named : about1.methodNamed? x = some theMethod := by decide +kernel
set_option maxRecDepth 65536 in
theorem w_hears : about1.hears theMethod below0 = true := by decide +kernel
set_option maxRecDepth 65536 in
theorem w_ripe : about1.ripe theMethod args0 below0 = true := by decide +kernel
theorem w_running : about1.status = .running := rfl
set_option maxRecDepth 65536 in
theorem w_room : about1.hasRoom e0.platform room_1 = true :=
  launch0.hasRoom_least _ room_1 (by decide +kernel) (by decide +kernel) (by decide +kernel) (by decide +kernel) (by decide +kernel) (by decide +kernel)
theorem allAtoms_all (ts : List Jvm.Cond) (a : Array Jvm.Value) (st : Jvm.State) : (allAtoms ts).before a st = ts.all (fun c => c.before a st) := by
  induction ts with
  | nil => rfl
  | cons c t ih =>
    show (Jvm.Cond.and c (allAtoms t)).before a st = _
    rw [Jvm.Cond.before_and, ih, List.all_cons]
def words1 : List Jvm.Cond := Jvm.Cond.code x code maxLocals ret :: tables_1
/-- a 'code' word, met by the world's own term for the bytes: nothing is compared byte by byte -/
theorem code_word {y : MethodName} {bytes : ByteArray} {mx : Nat} {rt : Option FieldType} {a : Array Value} {s : State} {m : MethodId} {meth : Method} {c : Code} (h1 : s.methodNamed? y = some m) (h2 : s.vm.method? m = some meth) (h3 : meth.code = some c) (h4 : c.code = bytes)
    (h5 : (c.maxLocals == mx && c.exceptionTable.isEmpty && decide (c.maxStack ≤ mostOperands) && decide (meth.sig.returnType = rt) && !meth.locks && decide (parseMethodDescriptor y.desc = some meth.sig)) = true) : (Jvm.Cond.code y bytes mx rt).before a s = true := by
  simp only [Bool.and_eq_true, beq_iff_eq, Bool.not_eq_true', decide_eq_true_eq] at h5
  obtain ⟨⟨⟨⟨⟨g1, g2⟩, g3⟩, g4⟩, g5⟩, g6⟩ := h5
  simp [Cond.before, Cond.holds, Cond.value, h1, h2, h3, h4, g1, g2, g3, g4, g5, g6]
def isCode : Jvm.Cond → Bool
  | .code _ _ _ _ => true
  | _ => false
theorem all_split {L : List Jvm.Cond} {P : Jvm.Cond → Bool} (h1 : L.all (fun c => isCode c || P c) = true) (h2 : ∀ c ∈ L.filter isCode, P c = true) : L.all P = true := by
  refine List.all_eq_true.mpr fun c hc => ?_
  have h := List.all_eq_true.mp h1 c hc
  rcases Bool.eq_false_or_eq_true (isCode c) with hi | hi
  · exact h2 c (List.mem_filter.mpr ⟨hc, hi⟩)
  · simpa [hi] using h
set_option maxRecDepth 65536 in
theorem w_c0 : (Jvm.Cond.code x code maxLocals ret).before args0 about1 = true := code_word (m := ⟨1, 1⟩) (meth := k1m1) (c := k1c1) (by decide +kernel) rfl rfl rfl (by decide +kernel)
set_option maxRecDepth 65536 in
theorem w_c1 : (Jvm.Cond.code ({ cls := "com/example/provenir/provenir/TextEncodingDecodePinLaw", name := "encoding", desc := "(I)Lcom/example/provenir/provenir/TextEncoding;" } : Jvm.MethodName) method_3_code (1 : Nat) (Option.some (Jvm.ClassFile.FieldType.object "com/example/provenir/provenir/TextEncoding"))).before args0 about1 = true := code_word (m := ⟨1, 2⟩) (meth := k1m2) (c := k1c2) (by decide +kernel) rfl rfl rfl (by decide +kernel)
set_option maxRecDepth 65536 in
theorem w_c2 : (Jvm.Cond.code ({ cls := "com/example/provenir/provenir/TextEncoding", name := "decode", desc := "([BII)Ljava/lang/String;" } : Jvm.MethodName) prog_73_method_10_code (7 : Nat) (Option.some (Jvm.ClassFile.FieldType.object "java/lang/String"))).before args0 about1 = true := code_word (m := ⟨6, 1⟩) (meth := k6m1) (c := k6c1) (by decide +kernel) rfl rfl rfl (by decide +kernel)
set_option maxRecDepth 65536 in
theorem w_c3 : (Jvm.Cond.code ({ cls := "java/lang/StringBuilder", name := "<init>", desc := "(I)V" } : Jvm.MethodName) jdk_67_method_2_code (2 : Nat) (Option.none : Option Jvm.ClassFile.FieldType)).before args0 about1 = true := code_word (m := ⟨10, 1⟩) (meth := k10m1) (c := k10c1) (by decide +kernel) rfl rfl rfl (by decide +kernel)
set_option maxRecDepth 65536 in
theorem w_c4 : (Jvm.Cond.code ({ cls := "java/lang/AbstractStringBuilder", name := "<init>", desc := "(I)V" } : Jvm.MethodName) jdk_68_method_2_code (2 : Nat) (Option.none : Option Jvm.ClassFile.FieldType)).before args0 about1 = true := code_word (m := ⟨9, 1⟩) (meth := k9m1) (c := k9c1) (by decide +kernel) rfl rfl rfl (by decide +kernel)
set_option maxRecDepth 65536 in
theorem w_c5 : (Jvm.Cond.code ({ cls := "java/lang/Object", name := "<init>", desc := "()V" } : Jvm.MethodName) object_method_1_code (1 : Nat) (Option.none : Option Jvm.ClassFile.FieldType)).before args0 about1 = true := code_word (m := ⟨0, 0⟩) (meth := k0m0) (c := k0c0) (by decide +kernel) rfl rfl rfl (by decide +kernel)
set_option maxRecDepth 65536 in
theorem w_c6 : (Jvm.Cond.code ({ cls := "java/lang/StringBuilder", name := "toString", desc := "()Ljava/lang/String;" } : Jvm.MethodName) jdk_67_method_42_code (1 : Nat) (Option.some (Jvm.ClassFile.FieldType.object "java/lang/String"))).before args0 about1 = true := code_word (m := ⟨10, 3⟩) (meth := k10m3) (c := k10c3) (by decide +kernel) rfl rfl rfl (by decide +kernel)
set_option maxRecDepth 65536 in
theorem w_c7 : (Jvm.Cond.code ({ cls := "java/lang/String", name := "<init>", desc := "(Ljava/lang/StringBuilder;)V" } : Jvm.MethodName) jdk_42_method_53_code (2 : Nat) (Option.none : Option Jvm.ClassFile.FieldType)).before args0 about1 = true := code_word (m := ⟨12, 1⟩) (meth := k12m1) (c := k12c1) (by decide +kernel) rfl rfl rfl (by decide +kernel)
set_option maxRecDepth 65536 in
theorem w_c8 : (Jvm.Cond.code ({ cls := "java/lang/String", name := "<init>", desc := "(Ljava/lang/AbstractStringBuilder;Ljava/lang/Void;)V" } : Jvm.MethodName) jdk_42_method_150_code (5 : Nat) (Option.none : Option Jvm.ClassFile.FieldType)).before args0 about1 = true := code_word (m := ⟨12, 4⟩) (meth := k12m4) (c := k12c4) (by decide +kernel) rfl rfl rfl (by decide +kernel)
set_option maxRecDepth 65536 in
theorem w_c9 : (Jvm.Cond.code ({ cls := "java/lang/AbstractStringBuilder", name := "getValue", desc := "()[B" } : Jvm.MethodName) jdk_68_method_64_code (1 : Nat) (Option.some (Jvm.ClassFile.FieldType.array Jvm.ClassFile.FieldType.byte))).before args0 about1 = true := code_word (m := ⟨9, 6⟩) (meth := k9m6) (c := k9c6) (by decide +kernel) rfl rfl rfl (by decide +kernel)
set_option maxRecDepth 65536 in
theorem w_c10 : (Jvm.Cond.code ({ cls := "java/lang/StringBuilder", name := "length", desc := "()I" } : Jvm.MethodName) jdk_67_method_93_code (1 : Nat) (Option.some Jvm.ClassFile.FieldType.int)).before args0 about1 = true := code_word (m := ⟨10, 4⟩) (meth := k10m4) (c := k10c4) (by decide +kernel) rfl rfl rfl (by decide +kernel)
set_option maxRecDepth 65536 in
theorem w_c11 : (Jvm.Cond.code ({ cls := "java/lang/AbstractStringBuilder", name := "length", desc := "()I" } : Jvm.MethodName) jdk_68_method_6_code (1 : Nat) (Option.some Jvm.ClassFile.FieldType.int)).before args0 about1 = true := code_word (m := ⟨9, 2⟩) (meth := k9m2) (c := k9c2) (by decide +kernel) rfl rfl rfl (by decide +kernel)
set_option maxRecDepth 65536 in
theorem w_c12 : (Jvm.Cond.code ({ cls := "java/lang/AbstractStringBuilder", name := "isLatin1", desc := "()Z" } : Jvm.MethodName) jdk_68_method_68_code (1 : Nat) (Option.some Jvm.ClassFile.FieldType.boolean)).before args0 about1 = true := code_word (m := ⟨9, 7⟩) (meth := k9m7) (c := k9c7) (by decide +kernel) rfl rfl rfl (by decide +kernel)
set_option maxRecDepth 65536 in
theorem w_c13 : (Jvm.Cond.code ({ cls := "java/util/Arrays", name := "copyOfRange", desc := "([BII)[B" } : Jvm.MethodName) jdk_65_method_132_code (3 : Nat) (Option.some (Jvm.ClassFile.FieldType.array Jvm.ClassFile.FieldType.byte))).before args0 about1 = true := code_word (m := ⟨13, 1⟩) (meth := k13m1) (c := k13c1) (by decide +kernel) rfl rfl rfl (by decide +kernel)
set_option maxRecDepth 65536 in
theorem w_c14 : (Jvm.Cond.code ({ cls := "java/lang/String", name := "length", desc := "()I" } : Jvm.MethodName) jdk_42_method_54_code (1 : Nat) (Option.some Jvm.ClassFile.FieldType.int)).before args0 about1 = true := code_word (m := ⟨12, 2⟩) (meth := k12m2) (c := k12c2) (by decide +kernel) rfl rfl rfl (by decide +kernel)
set_option maxRecDepth 65536 in
theorem w_c15 : (Jvm.Cond.code ({ cls := "java/lang/String", name := "coder", desc := "()B" } : Jvm.MethodName) jdk_42_method_152_code (1 : Nat) (Option.some Jvm.ClassFile.FieldType.byte)).before args0 about1 = true := code_word (m := ⟨12, 5⟩) (meth := k12m5) (c := k12c5) (by decide +kernel) rfl rfl rfl (by decide +kernel)
set_option maxRecDepth 65536 in
theorem w_c16 : (Jvm.Cond.code ({ cls := "com/example/provenir/provenir/TextEncoding", name := "unitAt", desc := "([BI)I" } : Jvm.MethodName) prog_73_method_8_code (5 : Nat) (Option.some Jvm.ClassFile.FieldType.int)).before args0 about1 = true := code_word (m := ⟨6, 0⟩) (meth := k6m0) (c := k6c0) (by decide +kernel) rfl rfl rfl (by decide +kernel)
set_option maxRecDepth 65536 in
theorem w_c17 : (Jvm.Cond.code ({ cls := "java/lang/StringBuilder", name := "append", desc := "(C)Ljava/lang/StringBuilder;" } : Jvm.MethodName) jdk_67_method_14_code (2 : Nat) (Option.some (Jvm.ClassFile.FieldType.object "java/lang/StringBuilder"))).before args0 about1 = true := code_word (m := ⟨10, 2⟩) (meth := k10m2) (c := k10c2) (by decide +kernel) rfl rfl rfl (by decide +kernel)
set_option maxRecDepth 65536 in
theorem w_c18 : (Jvm.Cond.code ({ cls := "java/lang/AbstractStringBuilder", name := "append", desc := "(C)Ljava/lang/AbstractStringBuilder;" } : Jvm.MethodName) jdk_68_method_31_code (2 : Nat) (Option.some (Jvm.ClassFile.FieldType.object "java/lang/AbstractStringBuilder"))).before args0 about1 = true := code_word (m := ⟨9, 5⟩) (meth := k9m5) (c := k9c5) (by decide +kernel) rfl rfl rfl (by decide +kernel)
set_option maxRecDepth 65536 in
theorem w_c19 : (Jvm.Cond.code ({ cls := "java/lang/AbstractStringBuilder", name := "ensureCapacityInternal", desc := "(I)V" } : Jvm.MethodName) jdk_68_method_9_code (3 : Nat) (Option.none : Option Jvm.ClassFile.FieldType)).before args0 about1 = true := code_word (m := ⟨9, 3⟩) (meth := k9m3) (c := k9c3) (by decide +kernel) rfl rfl rfl (by decide +kernel)
set_option maxRecDepth 65536 in
theorem w_c20 : (Jvm.Cond.code ({ cls := "java/lang/StringLatin1", name := "canEncode", desc := "(C)Z" } : Jvm.MethodName) jdk_43_method_3_code (1 : Nat) (Option.some Jvm.ClassFile.FieldType.boolean)).before args0 about1 = true := code_word (m := ⟨15, 2⟩) (meth := k15m2) (c := k15c2) (by decide +kernel) rfl rfl rfl (by decide +kernel)
set_option maxRecDepth 65536 in
theorem w_c21 : (Jvm.Cond.code ({ cls := "java/lang/String", name := "charAt", desc := "(I)C" } : Jvm.MethodName) jdk_42_method_56_code (2 : Nat) (Option.some Jvm.ClassFile.FieldType.char)).before args0 about1 = true := code_word (m := ⟨12, 3⟩) (meth := k12m3) (c := k12c3) (by decide +kernel) rfl rfl rfl (by decide +kernel)
set_option maxRecDepth 65536 in
theorem w_c22 : (Jvm.Cond.code ({ cls := "java/lang/String", name := "isLatin1", desc := "()Z" } : Jvm.MethodName) jdk_42_method_154_code (1 : Nat) (Option.some Jvm.ClassFile.FieldType.boolean)).before args0 about1 = true := code_word (m := ⟨12, 6⟩) (meth := k12m6) (c := k12c6) (by decide +kernel) rfl rfl rfl (by decide +kernel)
set_option maxRecDepth 65536 in
theorem w_c23 : (Jvm.Cond.code ({ cls := "java/lang/StringLatin1", name := "charAt", desc := "([BI)C" } : Jvm.MethodName) jdk_43_method_2_code (2 : Nat) (Option.some Jvm.ClassFile.FieldType.char)).before args0 about1 = true := code_word (m := ⟨15, 1⟩) (meth := k15m1) (c := k15c1) (by decide +kernel) rfl rfl rfl (by decide +kernel)
set_option maxRecDepth 65536 in
theorem w_c24 : (Jvm.Cond.code ({ cls := "java/lang/String", name := "checkIndex", desc := "(II)V" } : Jvm.MethodName) jdk_42_method_155_code (2 : Nat) (Option.none : Option Jvm.ClassFile.FieldType)).before args0 about1 = true := code_word (m := ⟨12, 7⟩) (meth := k12m7) (c := k12c7) (by decide +kernel) rfl rfl rfl (by decide +kernel)
set_option maxRecDepth 65536 in
theorem w_c25 : (Jvm.Cond.code ({ cls := "jdk/internal/util/Preconditions", name := "checkIndex", desc := "(IILjava/util/function/BiFunction;)I" } : Jvm.MethodName) jdk_41_method_11_code (3 : Nat) (Option.some Jvm.ClassFile.FieldType.int)).before args0 about1 = true := code_word (m := ⟨16, 1⟩) (meth := k16m1) (c := k16c1) (by decide +kernel) rfl rfl rfl (by decide +kernel)
set_option maxRecDepth 65536 in
theorem w_c26 : (Jvm.Cond.code ({ cls := "com/example/provenir/provenir/TextEncodingDecodePinLaw", name := "expected", desc := "([BIIZ)C" } : Jvm.MethodName) method_4_code (8 : Nat) (Option.some Jvm.ClassFile.FieldType.char)).before args0 about1 = true := code_word (m := ⟨1, 3⟩) (meth := k1m3) (c := k1c3) (by decide +kernel) rfl rfl rfl (by decide +kernel)
set_option maxRecDepth 65536 in
theorem w_c27 : (Jvm.Cond.code ({ cls := "java/lang/AbstractStringBuilder", name := "inflate", desc := "()V" } : Jvm.MethodName) jdk_68_method_11_code (2 : Nat) (Option.none : Option Jvm.ClassFile.FieldType)).before args0 about1 = true := code_word (m := ⟨9, 4⟩) (meth := k9m4) (c := k9c4) (by decide +kernel) rfl rfl rfl (by decide +kernel)
set_option maxRecDepth 65536 in
theorem w_c28 : (Jvm.Cond.code ({ cls := "java/lang/StringUTF16", name := "newBytesFor", desc := "(I)[B" } : Jvm.MethodName) jdk_52_method_2_code (1 : Nat) (Option.some (Jvm.ClassFile.FieldType.array Jvm.ClassFile.FieldType.byte))).before args0 about1 = true := code_word (m := ⟨17, 1⟩) (meth := k17m1) (c := k17c1) (by decide +kernel) rfl rfl rfl (by decide +kernel)
set_option maxRecDepth 65536 in
theorem w_c29 : (Jvm.Cond.code ({ cls := "java/lang/StringUTF16", name := "newBytesLength", desc := "(I)I" } : Jvm.MethodName) jdk_52_method_3_code (1 : Nat) (Option.some Jvm.ClassFile.FieldType.int)).before args0 about1 = true := code_word (m := ⟨17, 2⟩) (meth := k17m2) (c := k17c2) (by decide +kernel) rfl rfl rfl (by decide +kernel)
set_option maxRecDepth 65536 in
theorem w_c30 : (Jvm.Cond.code ({ cls := "java/lang/StringLatin1", name := "inflate", desc := "([BI[BII)V" } : Jvm.MethodName) jdk_43_method_50_code (5 : Nat) (Option.none : Option Jvm.ClassFile.FieldType)).before args0 about1 = true := code_word (m := ⟨15, 3⟩) (meth := k15m3) (c := k15c3) (by decide +kernel) rfl rfl rfl (by decide +kernel)
set_option maxRecDepth 65536 in
theorem w_c31 : (Jvm.Cond.code ({ cls := "java/lang/StringUTF16", name := "inflate", desc := "([BI[BII)V" } : Jvm.MethodName) jdk_52_method_86_code (6 : Nat) (Option.none : Option Jvm.ClassFile.FieldType)).before args0 about1 = true := code_word (m := ⟨17, 8⟩) (meth := k17m8) (c := k17c8) (by decide +kernel) rfl rfl rfl (by decide +kernel)
set_option maxRecDepth 65536 in
theorem w_c32 : (Jvm.Cond.code ({ cls := "java/lang/StringUTF16", name := "checkBoundsOffCount", desc := "(II[B)V" } : Jvm.MethodName) jdk_52_method_94_code (3 : Nat) (Option.none : Option Jvm.ClassFile.FieldType)).before args0 about1 = true := code_word (m := ⟨17, 10⟩) (meth := k17m10) (c := k17c10) (by decide +kernel) rfl rfl rfl (by decide +kernel)
set_option maxRecDepth 65536 in
theorem w_c33 : (Jvm.Cond.code ({ cls := "java/lang/StringUTF16", name := "length", desc := "([B)I" } : Jvm.MethodName) jdk_52_method_6_code (1 : Nat) (Option.some Jvm.ClassFile.FieldType.int)).before args0 about1 = true := code_word (m := ⟨17, 5⟩) (meth := k17m5) (c := k17c5) (by decide +kernel) rfl rfl rfl (by decide +kernel)
set_option maxRecDepth 65536 in
theorem w_c34 : (Jvm.Cond.code ({ cls := "java/lang/String", name := "checkBoundsOffCount", desc := "(III)I" } : Jvm.MethodName) jdk_42_method_157_code (3 : Nat) (Option.some Jvm.ClassFile.FieldType.int)).before args0 about1 = true := code_word (m := ⟨12, 8⟩) (meth := k12m8) (c := k12c8) (by decide +kernel) rfl rfl rfl (by decide +kernel)
set_option maxRecDepth 65536 in
theorem w_c35 : (Jvm.Cond.code ({ cls := "jdk/internal/util/Preconditions", name := "checkFromIndexSize", desc := "(IIILjava/util/function/BiFunction;)I" } : Jvm.MethodName) jdk_41_method_13_code (4 : Nat) (Option.some Jvm.ClassFile.FieldType.int)).before args0 about1 = true := code_word (m := ⟨16, 2⟩) (meth := k16m2) (c := k16c2) (by decide +kernel) rfl rfl rfl (by decide +kernel)
set_option maxRecDepth 65536 in
theorem w_c36 : (Jvm.Cond.code ({ cls := "java/lang/StringUTF16", name := "putCharSB", desc := "([BII)V" } : Jvm.MethodName) jdk_52_method_71_code (3 : Nat) (Option.none : Option Jvm.ClassFile.FieldType)).before args0 about1 = true := code_word (m := ⟨17, 6⟩) (meth := k17m6) (c := k17c6) (by decide +kernel) rfl rfl rfl (by decide +kernel)
set_option maxRecDepth 65536 in
theorem w_c37 : (Jvm.Cond.code ({ cls := "java/lang/StringUTF16", name := "checkIndex", desc := "(I[B)V" } : Jvm.MethodName) jdk_52_method_91_code (2 : Nat) (Option.none : Option Jvm.ClassFile.FieldType)).before args0 about1 = true := code_word (m := ⟨17, 9⟩) (meth := k17m9) (c := k17c9) (by decide +kernel) rfl rfl rfl (by decide +kernel)
set_option maxRecDepth 65536 in
theorem w_c38 : (Jvm.Cond.code ({ cls := "java/lang/StringUTF16", name := "putChar", desc := "([BII)V" } : Jvm.MethodName) jdk_52_method_4_code (3 : Nat) (Option.none : Option Jvm.ClassFile.FieldType)).before args0 about1 = true := code_word (m := ⟨17, 3⟩) (meth := k17m3) (c := k17c3) (by decide +kernel) rfl rfl rfl (by decide +kernel)
set_option maxRecDepth 65536 in
theorem w_c39 : (Jvm.Cond.code ({ cls := "java/lang/StringUTF16", name := "charAt", desc := "([BI)C" } : Jvm.MethodName) jdk_52_method_83_code (2 : Nat) (Option.some Jvm.ClassFile.FieldType.char)).before args0 about1 = true := code_word (m := ⟨17, 7⟩) (meth := k17m7) (c := k17c7) (by decide +kernel) rfl rfl rfl (by decide +kernel)
set_option maxRecDepth 65536 in
theorem w_c40 : (Jvm.Cond.code ({ cls := "java/lang/StringUTF16", name := "getChar", desc := "([BI)C" } : Jvm.MethodName) jdk_52_method_5_code (2 : Nat) (Option.some Jvm.ClassFile.FieldType.char)).before args0 about1 = true := code_word (m := ⟨17, 4⟩) (meth := k17m4) (c := k17c4) (by decide +kernel) rfl rfl rfl (by decide +kernel)
def codes1 : List Jvm.Cond := [Jvm.Cond.code x code maxLocals ret, Jvm.Cond.code ({ cls := "com/example/provenir/provenir/TextEncodingDecodePinLaw", name := "encoding", desc := "(I)Lcom/example/provenir/provenir/TextEncoding;" } : Jvm.MethodName) method_3_code (1 : Nat) (Option.some (Jvm.ClassFile.FieldType.object "com/example/provenir/provenir/TextEncoding")), Jvm.Cond.code ({ cls := "com/example/provenir/provenir/TextEncoding", name := "decode", desc := "([BII)Ljava/lang/String;" } : Jvm.MethodName) prog_73_method_10_code (7 : Nat) (Option.some (Jvm.ClassFile.FieldType.object "java/lang/String")), Jvm.Cond.code ({ cls := "java/lang/StringBuilder", name := "<init>", desc := "(I)V" } : Jvm.MethodName) jdk_67_method_2_code (2 : Nat) (Option.none : Option Jvm.ClassFile.FieldType), Jvm.Cond.code ({ cls := "java/lang/AbstractStringBuilder", name := "<init>", desc := "(I)V" } : Jvm.MethodName) jdk_68_method_2_code (2 : Nat) (Option.none : Option Jvm.ClassFile.FieldType), Jvm.Cond.code ({ cls := "java/lang/Object", name := "<init>", desc := "()V" } : Jvm.MethodName) object_method_1_code (1 : Nat) (Option.none : Option Jvm.ClassFile.FieldType), Jvm.Cond.code ({ cls := "java/lang/StringBuilder", name := "toString", desc := "()Ljava/lang/String;" } : Jvm.MethodName) jdk_67_method_42_code (1 : Nat) (Option.some (Jvm.ClassFile.FieldType.object "java/lang/String")), Jvm.Cond.code ({ cls := "java/lang/String", name := "<init>", desc := "(Ljava/lang/StringBuilder;)V" } : Jvm.MethodName) jdk_42_method_53_code (2 : Nat) (Option.none : Option Jvm.ClassFile.FieldType), Jvm.Cond.code ({ cls := "java/lang/String", name := "<init>", desc := "(Ljava/lang/AbstractStringBuilder;Ljava/lang/Void;)V" } : Jvm.MethodName) jdk_42_method_150_code (5 : Nat) (Option.none : Option Jvm.ClassFile.FieldType), Jvm.Cond.code ({ cls := "java/lang/AbstractStringBuilder", name := "getValue", desc := "()[B" } : Jvm.MethodName) jdk_68_method_64_code (1 : Nat) (Option.some (Jvm.ClassFile.FieldType.array Jvm.ClassFile.FieldType.byte)), Jvm.Cond.code ({ cls := "java/lang/StringBuilder", name := "length", desc := "()I" } : Jvm.MethodName) jdk_67_method_93_code (1 : Nat) (Option.some Jvm.ClassFile.FieldType.int), Jvm.Cond.code ({ cls := "java/lang/AbstractStringBuilder", name := "length", desc := "()I" } : Jvm.MethodName) jdk_68_method_6_code (1 : Nat) (Option.some Jvm.ClassFile.FieldType.int), Jvm.Cond.code ({ cls := "java/lang/AbstractStringBuilder", name := "isLatin1", desc := "()Z" } : Jvm.MethodName) jdk_68_method_68_code (1 : Nat) (Option.some Jvm.ClassFile.FieldType.boolean), Jvm.Cond.code ({ cls := "java/util/Arrays", name := "copyOfRange", desc := "([BII)[B" } : Jvm.MethodName) jdk_65_method_132_code (3 : Nat) (Option.some (Jvm.ClassFile.FieldType.array Jvm.ClassFile.FieldType.byte)), Jvm.Cond.code ({ cls := "java/lang/String", name := "length", desc := "()I" } : Jvm.MethodName) jdk_42_method_54_code (1 : Nat) (Option.some Jvm.ClassFile.FieldType.int), Jvm.Cond.code ({ cls := "java/lang/String", name := "coder", desc := "()B" } : Jvm.MethodName) jdk_42_method_152_code (1 : Nat) (Option.some Jvm.ClassFile.FieldType.byte), Jvm.Cond.code ({ cls := "com/example/provenir/provenir/TextEncoding", name := "unitAt", desc := "([BI)I" } : Jvm.MethodName) prog_73_method_8_code (5 : Nat) (Option.some Jvm.ClassFile.FieldType.int), Jvm.Cond.code ({ cls := "java/lang/StringBuilder", name := "append", desc := "(C)Ljava/lang/StringBuilder;" } : Jvm.MethodName) jdk_67_method_14_code (2 : Nat) (Option.some (Jvm.ClassFile.FieldType.object "java/lang/StringBuilder")), Jvm.Cond.code ({ cls := "java/lang/AbstractStringBuilder", name := "append", desc := "(C)Ljava/lang/AbstractStringBuilder;" } : Jvm.MethodName) jdk_68_method_31_code (2 : Nat) (Option.some (Jvm.ClassFile.FieldType.object "java/lang/AbstractStringBuilder")), Jvm.Cond.code ({ cls := "java/lang/AbstractStringBuilder", name := "ensureCapacityInternal", desc := "(I)V" } : Jvm.MethodName) jdk_68_method_9_code (3 : Nat) (Option.none : Option Jvm.ClassFile.FieldType), Jvm.Cond.code ({ cls := "java/lang/StringLatin1", name := "canEncode", desc := "(C)Z" } : Jvm.MethodName) jdk_43_method_3_code (1 : Nat) (Option.some Jvm.ClassFile.FieldType.boolean), Jvm.Cond.code ({ cls := "java/lang/String", name := "charAt", desc := "(I)C" } : Jvm.MethodName) jdk_42_method_56_code (2 : Nat) (Option.some Jvm.ClassFile.FieldType.char), Jvm.Cond.code ({ cls := "java/lang/String", name := "isLatin1", desc := "()Z" } : Jvm.MethodName) jdk_42_method_154_code (1 : Nat) (Option.some Jvm.ClassFile.FieldType.boolean), Jvm.Cond.code ({ cls := "java/lang/StringLatin1", name := "charAt", desc := "([BI)C" } : Jvm.MethodName) jdk_43_method_2_code (2 : Nat) (Option.some Jvm.ClassFile.FieldType.char), Jvm.Cond.code ({ cls := "java/lang/String", name := "checkIndex", desc := "(II)V" } : Jvm.MethodName) jdk_42_method_155_code (2 : Nat) (Option.none : Option Jvm.ClassFile.FieldType), Jvm.Cond.code ({ cls := "jdk/internal/util/Preconditions", name := "checkIndex", desc := "(IILjava/util/function/BiFunction;)I" } : Jvm.MethodName) jdk_41_method_11_code (3 : Nat) (Option.some Jvm.ClassFile.FieldType.int), Jvm.Cond.code ({ cls := "com/example/provenir/provenir/TextEncodingDecodePinLaw", name := "expected", desc := "([BIIZ)C" } : Jvm.MethodName) method_4_code (8 : Nat) (Option.some Jvm.ClassFile.FieldType.char), Jvm.Cond.code ({ cls := "java/lang/AbstractStringBuilder", name := "inflate", desc := "()V" } : Jvm.MethodName) jdk_68_method_11_code (2 : Nat) (Option.none : Option Jvm.ClassFile.FieldType), Jvm.Cond.code ({ cls := "java/lang/StringUTF16", name := "newBytesFor", desc := "(I)[B" } : Jvm.MethodName) jdk_52_method_2_code (1 : Nat) (Option.some (Jvm.ClassFile.FieldType.array Jvm.ClassFile.FieldType.byte)), Jvm.Cond.code ({ cls := "java/lang/StringUTF16", name := "newBytesLength", desc := "(I)I" } : Jvm.MethodName) jdk_52_method_3_code (1 : Nat) (Option.some Jvm.ClassFile.FieldType.int), Jvm.Cond.code ({ cls := "java/lang/StringLatin1", name := "inflate", desc := "([BI[BII)V" } : Jvm.MethodName) jdk_43_method_50_code (5 : Nat) (Option.none : Option Jvm.ClassFile.FieldType), Jvm.Cond.code ({ cls := "java/lang/StringUTF16", name := "inflate", desc := "([BI[BII)V" } : Jvm.MethodName) jdk_52_method_86_code (6 : Nat) (Option.none : Option Jvm.ClassFile.FieldType), Jvm.Cond.code ({ cls := "java/lang/StringUTF16", name := "checkBoundsOffCount", desc := "(II[B)V" } : Jvm.MethodName) jdk_52_method_94_code (3 : Nat) (Option.none : Option Jvm.ClassFile.FieldType), Jvm.Cond.code ({ cls := "java/lang/StringUTF16", name := "length", desc := "([B)I" } : Jvm.MethodName) jdk_52_method_6_code (1 : Nat) (Option.some Jvm.ClassFile.FieldType.int), Jvm.Cond.code ({ cls := "java/lang/String", name := "checkBoundsOffCount", desc := "(III)I" } : Jvm.MethodName) jdk_42_method_157_code (3 : Nat) (Option.some Jvm.ClassFile.FieldType.int), Jvm.Cond.code ({ cls := "jdk/internal/util/Preconditions", name := "checkFromIndexSize", desc := "(IIILjava/util/function/BiFunction;)I" } : Jvm.MethodName) jdk_41_method_13_code (4 : Nat) (Option.some Jvm.ClassFile.FieldType.int), Jvm.Cond.code ({ cls := "java/lang/StringUTF16", name := "putCharSB", desc := "([BII)V" } : Jvm.MethodName) jdk_52_method_71_code (3 : Nat) (Option.none : Option Jvm.ClassFile.FieldType), Jvm.Cond.code ({ cls := "java/lang/StringUTF16", name := "checkIndex", desc := "(I[B)V" } : Jvm.MethodName) jdk_52_method_91_code (2 : Nat) (Option.none : Option Jvm.ClassFile.FieldType), Jvm.Cond.code ({ cls := "java/lang/StringUTF16", name := "putChar", desc := "([BII)V" } : Jvm.MethodName) jdk_52_method_4_code (3 : Nat) (Option.none : Option Jvm.ClassFile.FieldType), Jvm.Cond.code ({ cls := "java/lang/StringUTF16", name := "charAt", desc := "([BI)C" } : Jvm.MethodName) jdk_52_method_83_code (2 : Nat) (Option.some Jvm.ClassFile.FieldType.char), Jvm.Cond.code ({ cls := "java/lang/StringUTF16", name := "getChar", desc := "([BI)C" } : Jvm.MethodName) jdk_52_method_5_code (2 : Nat) (Option.some Jvm.ClassFile.FieldType.char)]
set_option maxRecDepth 65536 in
theorem codes_eq : words1.filter isCode = codes1 := rfl
theorem w_codes : ∀ c ∈ words1.filter isCode, c.before args0 about1 = true := by
  rw [codes_eq]
  intro c hc
  simp only [codes1, List.mem_cons, List.not_mem_nil, or_false] at hc
  rcases hc with rfl | rfl | rfl | rfl | rfl | rfl | rfl | rfl | rfl | rfl | rfl | rfl | rfl | rfl | rfl | rfl | rfl | rfl | rfl | rfl | rfl | rfl | rfl | rfl | rfl | rfl | rfl | rfl | rfl | rfl | rfl | rfl | rfl | rfl | rfl | rfl | rfl | rfl | rfl | rfl | rfl
  · exact w_c0
  · exact w_c1
  · exact w_c2
  · exact w_c3
  · exact w_c4
  · exact w_c5
  · exact w_c6
  · exact w_c7
  · exact w_c8
  · exact w_c9
  · exact w_c10
  · exact w_c11
  · exact w_c12
  · exact w_c13
  · exact w_c14
  · exact w_c15
  · exact w_c16
  · exact w_c17
  · exact w_c18
  · exact w_c19
  · exact w_c20
  · exact w_c21
  · exact w_c22
  · exact w_c23
  · exact w_c24
  · exact w_c25
  · exact w_c26
  · exact w_c27
  · exact w_c28
  · exact w_c29
  · exact w_c30
  · exact w_c31
  · exact w_c32
  · exact w_c33
  · exact w_c34
  · exact w_c35
  · exact w_c36
  · exact w_c37
  · exact w_c38
  · exact w_c39
  · exact w_c40
set_option maxRecDepth 65536 in
theorem w_t1 : (words1.take 24).all (fun c => isCode c || c.before args0 about1) = true := by decide +kernel
set_option maxRecDepth 65536 in
theorem w_t2 : ((words1.drop 24).take 24).all (fun c => isCode c || c.before args0 about1) = true := by decide +kernel
set_option maxRecDepth 65536 in
theorem w_t3 : (((words1.drop 24).drop 24).take 24).all (fun c => isCode c || c.before args0 about1) = true := by decide +kernel
set_option maxRecDepth 65536 in
theorem w_t4 : ((((words1.drop 24).drop 24).drop 24).take 24).all (fun c => isCode c || c.before args0 about1) = true := by decide +kernel
set_option maxRecDepth 65536 in
theorem w_t5 : (((((words1.drop 24).drop 24).drop 24).drop 24).take 24).all (fun c => isCode c || c.before args0 about1) = true := by decide +kernel
set_option maxRecDepth 65536 in
theorem w_t6 : ((((((words1.drop 24).drop 24).drop 24).drop 24).drop 24).take 24).all (fun c => isCode c || c.before args0 about1) = true := by decide +kernel
set_option maxRecDepth 65536 in
theorem w_t7 : (((((((words1.drop 24).drop 24).drop 24).drop 24).drop 24).drop 24).take 24).all (fun c => isCode c || c.before args0 about1) = true := by decide +kernel
set_option maxRecDepth 65536 in
theorem w_t8 : ((((((((words1.drop 24).drop 24).drop 24).drop 24).drop 24).drop 24).drop 24).take 24).all (fun c => isCode c || c.before args0 about1) = true := by decide +kernel
set_option maxRecDepth 65536 in
theorem w_t9 : (((((((((words1.drop 24).drop 24).drop 24).drop 24).drop 24).drop 24).drop 24).drop 24).take 24).all (fun c => isCode c || c.before args0 about1) = true := by decide +kernel
set_option maxRecDepth 65536 in
theorem w_t10 : (((((((((words1.drop 24).drop 24).drop 24).drop 24).drop 24).drop 24).drop 24).drop 24).drop 24).all (fun c => isCode c || c.before args0 about1) = true := by decide +kernel
theorem w_tables : (allAtoms (Jvm.Cond.code x code maxLocals ret :: tables_1)).before args0 about1 = true := by
  rw [allAtoms_all]
  show words1.all (fun c => c.before args0 about1) = true
  refine all_split ?_ w_codes
  rw [← List.take_append_drop 24 words1, List.all_append, w_t1, ← List.take_append_drop 24 (words1.drop 24), List.all_append, w_t2, ← List.take_append_drop 24 ((words1.drop 24).drop 24), List.all_append, w_t3, ← List.take_append_drop 24 (((words1.drop 24).drop 24).drop 24), List.all_append, w_t4, ← List.take_append_drop 24 ((((words1.drop 24).drop 24).drop 24).drop 24), List.all_append, w_t5, ← List.take_append_drop 24 (((((words1.drop 24).drop 24).drop 24).drop 24).drop 24), List.all_append, w_t6, ← List.take_append_drop 24 ((((((words1.drop 24).drop 24).drop 24).drop 24).drop 24).drop 24), List.all_append, w_t7, ← List.take_append_drop 24 (((((((words1.drop 24).drop 24).drop 24).drop 24).drop 24).drop 24).drop 24), List.all_append, w_t8, ← List.take_append_drop 24 ((((((((words1.drop 24).drop 24).drop 24).drop 24).drop 24).drop 24).drop 24).drop 24), List.all_append, w_t9, w_t10]
  rfl
set_option maxRecDepth 65536 in
theorem w_rest : rest_1_c.before args0 about1 = true := by decide +kernel
set_option maxRecDepth 65536 in
theorem w_case : (Jvm.Cond.and given_1 narrow_1).before args0 about1 = true := by decide +kernel
theorem w_applies : (headSpec (Jvm.Cond.code x code maxLocals ret :: tables_1) room_1).applies x e0.platform about1 = true :=
  (Spec.applies_iff w_frames).mpr ⟨w_running, w_runnable, w_alone, w_named, w_hears, w_ripe, w_room, w_tables⟩
theorem atStart : AtStart classFile x code maxLocals ret World_1 tables_1 room_1 Calls_1 rest_1 Pre_1 launch0 p0 e0 about1 theMethod args0 below0 :=
  ⟨lists_1, trivial, launch0.admits_env _ _ _, launch0.least_env, fairChoices_fair.cas, fairChoices_fair.clock, w_frames, w_args, w_heap, w_applies, trivial, w_rest, w_case⟩
end start1
theorem witness_1 : WitnessClaimed_1 := ⟨start1.p0, start1.e0, start1.about1, start1.theMethod, start1.args0, start1.below0, start1.atStart⟩
end Jvm.Pilot.@@N@@
