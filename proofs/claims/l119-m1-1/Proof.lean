import JvmDerived
import JvmDerived.Pilot.@@N@@Statement
import JvmDerived.Pilot.@@N@@Code
set_option linter.unusedVariables false
set_option linter.unusedSimpArgs false
namespace Jvm.Pilot.@@N@@
open Jvm Jvm.ClassFile Sem Op Lib Jvm.Free Jvm.Stand Jvm.LawKit Jvm.RoadKit Bundle Jvm.Pilot.@@N@@.Jvm.D
section OwnKit
variable {p : Program} {l : Launch} {e : Env} {R : Room} {s : State} {m : MethodId} {args : Array Value} {below : List Frame} {meth : Method} {c : Code} {T : State} {locs : List Loc} {cells slots : Nat} {Z : State} {a0 : Array Value} {h h' : Heap}
/-- what a body leaves: its value, the heap, the places written -/
abbrev own_P := Option Value → Heap → List Loc → Prop
/-- from here the run comes back, and leaves P -/
def own_Go (p : Program) (e : Env) (below : List Frame) (s : State) (P : own_P) (kc ks : Nat) (A : State) : Prop :=
  ∃ s₂ o, Steps p.tables e below A s₂ ∧ s₂.status = .running ∧ Ended s₂ below o ∧ ∃ v L, o = Outcome.returned v ∧ P v s₂.heap L ∧ FrameEnd s o s₂ L kc ks
theorem own_st {P : own_P} {kc ks : Nat} {A B : State} (hs : ∀ t, Steps p.tables e below B t → Steps p.tables e below A t) (k : own_Go p e below s P kc ks B) : own_Go p e below s P kc ks A := by
  obtain ⟨s₂, o, h1, h2⟩ := k
  exact ⟨s₂, o, hs _ h1, h2⟩
theorem own_stT {P : own_P} {kc ks : Nat} {A B : State} (hs : Steps p.tables e below A B) (k : own_Go p e below s P kc ks B) : own_Go p e below s P kc ks A := by
  obtain ⟨s₂, o, h1, h2⟩ := k
  exact ⟨s₂, o, hs.trans h1, h2⟩
theorem own_end (X : Stand p l e R s m args below meth c T locs cells slots) (hx : p.tables.exec = Jvm.exec) (hlk : meth.locks = false) {P : own_P} {kc ks : Nat} {pc : Nat} {Ls : Array Slot} {w : Value} {t : FieldType} {i : Instr} {rest : List Value} (hret : meth.sig.returnType = some t) (hn : narrow t w = w)
    (hi : (i = .ireturn ∧ (t = .int ∨ t = .boolean ∨ t = .byte ∨ t = .char ∨ t = .short) ∧ ∃ z, w = .int z) ∨ (i = .lreturn ∧ t = .long ∧ ∃ z, w = .long z) ∨ (i = .dreturn ∧ t = .double ∧ ∃ z, w = .double z) ∨ (i = .freturn ∧ t = .float ∧ ∃ z, w = .float z) ∨ (i = .areturn ∧ t.isReference = true ∧ w.isRef = true))
    (hd : decode c.code pc = .ok (i, 1)) (hP : P (some w) T.heap locs) (hc : cells ≤ kc) (hs : slots ≤ ks) : own_Go p e below s P kc ks (T.setTop (mkF m pc Ls (w :: rest))) := by
  obtain ⟨fs, hr, hrun, hended, hW, hsame⟩ := X.leave (v := some w) (fun h => by rw [hret] at h; cases h) hlk
  exact ⟨_, _, retOut X hx hret hn hi hd hr, hrun, hended, _, _, rfl, hP, ⟨_, rfl⟩, hW, hsame.mono hc hs⟩
theorem own_endI (X : Stand p l e R s m args below meth c T locs cells slots) (hx : p.tables.exec = Jvm.exec) (hlk : meth.locks = false) {P : own_P} {kc ks : Nat} {pc : Nat} {Ls : Array Slot} {z : Int32} {rest : List Value} (hret : meth.sig.returnType = some .int)
    (hd : decode c.code pc = .ok (.ireturn, 1)) (hP : P (some (.int z)) T.heap locs) (hc : cells ≤ kc) (hs : slots ≤ ks) : own_Go p e below s P kc ks (T.setTop (mkF m pc Ls (.int z :: rest))) :=
  own_end X hx hlk hret rfl (Or.inl ⟨rfl, Or.inl rfl, z, rfl⟩) hd hP hc hs
theorem own_endJ (X : Stand p l e R s m args below meth c T locs cells slots) (hx : p.tables.exec = Jvm.exec) (hlk : meth.locks = false) {P : own_P} {kc ks : Nat} {pc : Nat} {Ls : Array Slot} {z : Int64} {rest : List Value} (hret : meth.sig.returnType = some .long)
    (hd : decode c.code pc = .ok (.lreturn, 1)) (hP : P (some (.long z)) T.heap locs) (hc : cells ≤ kc) (hs : slots ≤ ks) : own_Go p e below s P kc ks (T.setTop (mkF m pc Ls (.long z :: rest))) :=
  own_end X hx hlk hret rfl (Or.inr (Or.inl ⟨rfl, rfl, z, rfl⟩)) hd hP hc hs
theorem own_endA (X : Stand p l e R s m args below meth c T locs cells slots) (hx : p.tables.exec = Jvm.exec) (hlk : meth.locks = false) {P : own_P} {kc ks : Nat} {pc : Nat} {Ls : Array Slot} {a : Addr} {t : FieldType} {rest : List Value} (hret : meth.sig.returnType = some t) (ht : t.isReference = true) (hn : narrow t (.ref a) = .ref a)
    (hd : decode c.code pc = .ok (.areturn, 1)) (hP : P (some (.ref a)) T.heap locs) (hc : cells ≤ kc) (hs : slots ≤ ks) : own_Go p e below s P kc ks (T.setTop (mkF m pc Ls (.ref a :: rest))) :=
  own_end X hx hlk hret hn (Or.inr (Or.inr (Or.inr (Or.inr ⟨rfl, ht, rfl⟩)))) hd hP hc hs
/-- a boolean, byte, char, short comes back narrowed -/
theorem own_endN (X : Stand p l e R s m args below meth c T locs cells slots) (hx : p.tables.exec = Jvm.exec) (hlk : meth.locks = false) {P : own_P} {kc ks : Nat} {pc : Nat} {Ls : Array Slot} {z : Int32} {t : FieldType} {rest : List Value} (hret : meth.sig.returnType = some t) (ht : t = .boolean ∨ t = .byte ∨ t = .char ∨ t = .short)
    (hd : decode c.code pc = .ok (.ireturn, 1)) {w : Int32} (hz : nar t z = w) (hP : P (some (.int w)) T.heap locs) (hc : cells ≤ kc) (hs : slots ≤ ks) : own_Go p e below s P kc ks (T.setTop (mkF m pc Ls (.int z :: rest))) := by
  subst hz
  obtain ⟨fs, hr, hrun, hended, hW, hsame⟩ := X.leave (v := some (.int (nar t z))) (fun h => by rw [hret] at h; cases h) hlk
  exact ⟨_, _, retN X hx hret ht hd hr, hrun, hended, _, _, rfl, hP, ⟨_, rfl⟩, hW, hsame.mono hc hs⟩
theorem own_endV (X : Stand p l e R s m args below meth c T locs cells slots) (hx : p.tables.exec = Jvm.exec) (hlk : meth.locks = false) {P : own_P} {kc ks : Nat} {pc : Nat} {Ls : Array Slot} (hret : meth.sig.returnType = none)
    (hd : decode c.code pc = .ok (.return_, 1)) (hP : P none T.heap locs) (hc : cells ≤ kc) (hs : slots ≤ ks) : own_Go p e below s P kc ks (T.setTop (mkF m pc Ls [])) := by
  obtain ⟨fs, hr, hrun, hended, hW, hsame⟩ := X.leave (v := none) (fun _ => rfl) hlk
  exact ⟨_, _, X.returnOut hx hret hd hr, hrun, hended, _, _, rfl, hP, ⟨_, rfl⟩, hW, hsame.mono hc hs⟩
/-- a body's contract -/
def own_Met (l : Launch) (Z : State) (y : MethodName) (bytes : ByteArray) (maxL : Nat) (ret : Option FieldType) (rm : Room) (as : Array Value) (h : Heap) (Q : own_P) : Prop :=
  ∀ ws : List Jvm.Cond, MetFree l y (head1 (Jvm.Cond.code y bytes maxL ret :: ws) rm) (fun a U => a = as ∧ Z.Warmed39 U.vm ∧ U.heap = h) (fun _ _ _ _ _ => True) (fun _ U o U' => ∃ v L, o = .returned v ∧ Q v U'.heap L ∧ FrameEnd U o U' L rm.cells rm.slots)
theorem own_in {y : MethodName} {bytes : ByteArray} {maxL : Nat} {ret : Option FieldType} {rm : Room} {as : Array Value} {Q : own_P} (pn : plainFor y = true)
    (body : ∀ (p : Program) (e : Env) (s : State) (m : MethodId) (below : List Frame) (meth : Method) (c : Code) (s₁ : State), p.tables.exec = Jvm.exec → c.code = bytes → c.maxLocals = maxL → s.vm.findClass y.cls = some m.cls → meth.name = y.name → meth.locks = false → meth.sig.returnType = ret → Z.Warmed39 s.vm →
      Stand p l e rm s m as below meth c s₁ [] 0 0 → s₁.heap = h → own_Go p e below s Q rm.cells rm.slots (s₁.setTop (entryFrame m as maxL))) : own_Met l Z y bytes maxL ret rm as h Q := by
  intro ws
  refine MetFree.of_bodySF pn hisR ?_
  intro p e s m args below meth c s₁ Bd hml hP hK
  obtain ⟨rfl, hZ, hh⟩ := hP
  exact body p e s m below meth c s₁ Bd.exec Bd.bytes hml (findClass_of_methodNamed Bd.named) (name_of_methodNamed Bd.named Bd.method).1 (BodyLoose.notSynchronized Bd) Bd.returns hZ (Stand.of_body Bd) (by rw [← hh, Bd.state]; rfl)
theorem own_ef {tbp : Program} {P : own_P} {kc ks : Nat} {g g' : JFrame} (q : g = g') (k : own_Go tbp e below s P kc ks (T.setTop g')) : own_Go tbp e below s P kc ks (T.setTop g) := q ▸ k
/-- a static call by its contract -/
theorem own_cS (X : Stand p l e R s m args below meth c T locs cells slots) (hx : p.tables.exec = Jvm.exec) {ml : Nat} (hml : c.maxLocals = ml) (hZ : Z.Warmed39 s.vm) {own : String} {index : Nat} {y : MethodName} {bytes : ByteArray} {maxL : Nat} {ret : Option FieldType} {rm : Room} {as : Array Value} {Q : own_P}
    (hown : s.vm.findClass own = some m.cls) (w1 : (Jvm.Cond.methodLink own index y).before a0 Z = true) (w2 : (Jvm.Cond.static y).before a0 Z = true) (w3 : (Jvm.Cond.initialized y.cls).before a0 Z = true) (w4 : (Jvm.Cond.code y bytes maxL ret).before a0 Z = true)
    (hy : y.cls ≠ "java/lang/invoke/MethodHandle" ∧ y.cls ≠ "java/lang/invoke/VarHandle") (hM : own_Met l Z y bytes maxL ret rm as h Q) (eT : T.heap = h) (hf : rm.frames + 1 ≤ R.frames) {W : Nat} (hl : W + (maxL + 11) + rm.locals ≤ R.locals)
    {g : JFrame} (hg : g.method = m) (hsize : g.locals.size = ml) {ps : List FieldType} {r : Option FieldType} (hpd : parseMethodDescriptor y.desc = some ⟨ps, r⟩) {argsL rest : List Value} (hlen : argsL.length = ps.length) (has : argsL.toArray = as) (hst : g.stack = argsL.reverse ++ rest)
    (hW : 2 * g.monitorRoom + (rest.map fun v => v.category).sum ≤ W) (hd : decode c.code g.pc = .ok (.invokestatic index, 3)) (hc : cells + rm.cells ≤ R.cells) (hs : slots + rm.slots ≤ R.slots) {P : own_P} {kc ks : Nat}
    (k : ∀ T' L v, Stand p l e R s m args below meth c T' (locs ++ L) (cells + rm.cells) (slots + rm.slots) → Q v T'.heap L → own_Go p e below s P kc ks (T'.setTop { g with pc := g.pc + 3, stack := v.toList ++ rest })) : own_Go p e below s P kc ks (T.setTop g) := by
  obtain ⟨v, vm, ⟨T', L', k', n'⟩, -, X', ⟨L, hQ, hl', hk', hn'⟩, st⟩ := Jvm.LawKit.callS X hx (y := y) hown (mvT hZ w1) (mvT hZ w2) (mvT hZ w3) (mvT hZ w4) hy (backOf (W := W) (hM []) hZ w4 w3 hf hl) hg (hsize.trans hml.symm) (argsL := argsL) (rest := rest) (lenOf hpd hlen) hst hW hd (fun _ _ => ⟨has, eT, hc, hs⟩)
  dsimp only [Pt.U, Pt.locs, Pt.cells, Pt.slots] at X' hl' hk' hn' st hQ
  subst hl' hk' hn'
  exact own_st st (k T' L v X' hQ)
/-- an instance method by its contract -/
theorem own_cV (X : Stand p l e R s m args below meth c T locs cells slots) (hx : p.tables.exec = Jvm.exec) {ml : Nat} (hml : c.maxLocals = ml) (hZ : Z.Warmed39 s.vm) {own C : String} {index : Nat} {y : MethodName} {bytes : ByteArray} {maxL : Nat} {ret : Option FieldType} {rm : Room} {as : Array Value} {Q : own_P}
    (hown : s.vm.findClass own = some m.cls) (w1 : (Jvm.Cond.methodLink own index y).before a0 Z = true) (w2 : (Jvm.Cond.declares y).before a0 Z = true) (w5 : (Jvm.Cond.selects C y y).before a0 Z = true) (w6 : (Jvm.Cond.instanceMethod y).before a0 Z = true) (w3 : (Jvm.Cond.initialized y.cls).before a0 Z = true) (w4 : (Jvm.Cond.code y bytes maxL ret).before a0 Z = true)
    (hy : y.cls ≠ "java/lang/invoke/MethodHandle" ∧ y.cls ≠ "java/lang/invoke/VarHandle") (hM : own_Met l Z y bytes maxL ret rm as h Q) (eT : T.heap = h) {b : Addr} (EX : Exa Z h b C) (hf : rm.frames + 1 ≤ R.frames) {W : Nat} (hl : W + (maxL + 11) + rm.locals ≤ R.locals)
    {g : JFrame} (hg : g.method = m) (hsize : g.locals.size = ml) {ps : List FieldType} {r : Option FieldType} (hpd : parseMethodDescriptor y.desc = some ⟨ps, r⟩) {argsL rest : List Value} (hlen : argsL.length = ps.length) (has : (.ref b :: argsL).toArray = as) (hst : g.stack = argsL.reverse ++ .ref b :: rest)
    (hW : 2 * g.monitorRoom + (rest.map fun v => v.category).sum ≤ W) (hd : decode c.code g.pc = .ok (.invokevirtual index, 3)) (hc : cells + rm.cells ≤ R.cells) (hs : slots + rm.slots ≤ R.slots) {P : own_P} {kc ks : Nat}
    (k : ∀ T' L v, Stand p l e R s m args below meth c T' (locs ++ L) (cells + rm.cells) (slots + rm.slots) → Q v T'.heap L → own_Go p e below s P kc ks (T'.setTop { g with pc := g.pc + 3, stack := v.toList ++ rest })) : own_Go p e below s P kc ks (T.setTop g) := by
  obtain ⟨cq, kq, qa, qb, qc⟩ := isOf hZ eT EX
  obtain ⟨v, vm, ⟨T', L', k', n'⟩, -, X', ⟨L, hQ, hl', hk', hn'⟩, st⟩ := X.virtualBack hx (y := y) (z := y) hown (mvT hZ w1) (mvT hZ w2) (notFace_of_selects (args := #[]) (mvT hZ w5)) (mvT hZ w5) (mvT hZ w6) hy (backOf (W := W) (hM []) hZ w4 w3 hf hl) qa qc hg (hsize.trans hml.symm) (Steps.refl _) (argsL := argsL) (rest := rest) (lenOf hpd hlen) hst hW hd (fun _ _ => ⟨has, eT, hc, hs⟩)
  dsimp only [Pt.U, Pt.locs, Pt.cells, Pt.slots] at X' hl' hk' hn' st hQ
  subst hl' hk' hn'
  exact own_stT st (k T' L v X' hQ)
/-- a private method by its contract -/
theorem own_cP (X : Stand p l e R s m args below meth c T locs cells slots) (hx : p.tables.exec = Jvm.exec) {ml : Nat} (hml : c.maxLocals = ml) (hZ : Z.Warmed39 s.vm) {own C : String} {index nn : Nat} {y : MethodName} {bytes : ByteArray} {maxL : Nat} {ret : Option FieldType} {rm : Room} {as : Array Value} {Q : own_P}
    (hown : s.vm.findClass own = some m.cls) (w1 : (Jvm.Cond.methodLink own index y).before a0 Z = true) (w2 : (Jvm.Cond.instanceMethod y).before a0 Z = true) (w5 : (Jvm.Cond.privateMethod y).before a0 Z = true) (wi : (Jvm.Cond.instantiable y.cls nn).before a0 Z = true) (w3 : (Jvm.Cond.initialized y.cls).before a0 Z = true) (w4 : (Jvm.Cond.code y bytes maxL ret).before a0 Z = true)
    (hy : y.cls ≠ "java/lang/invoke/MethodHandle" ∧ y.cls ≠ "java/lang/invoke/VarHandle") (hM : own_Met l Z y bytes maxL ret rm as h Q) (eT : T.heap = h) {b : Addr} (EX : Exa Z h b C) (hf : rm.frames + 1 ≤ R.frames) {W : Nat} (hl : W + (maxL + 11) + rm.locals ≤ R.locals)
    {g : JFrame} (hg : g.method = m) (hsize : g.locals.size = ml) {ps : List FieldType} {r : Option FieldType} (hpd : parseMethodDescriptor y.desc = some ⟨ps, r⟩) {argsL rest : List Value} (hlen : argsL.length = ps.length) (has : (.ref b :: argsL).toArray = as) (hst : g.stack = argsL.reverse ++ .ref b :: rest)
    (hW : 2 * g.monitorRoom + (rest.map fun v => v.category).sum ≤ W) (hd : decode c.code g.pc = .ok (.invokevirtual index, 3)) (hc : cells + rm.cells ≤ R.cells) (hs : slots + rm.slots ≤ R.slots) {P : own_P} {kc ks : Nat}
    (k : ∀ T' L v, Stand p l e R s m args below meth c T' (locs ++ L) (cells + rm.cells) (slots + rm.slots) → Q v T'.heap L → own_Go p e below s P kc ks (T'.setTop { g with pc := g.pc + 3, stack := v.toList ++ rest })) : own_Go p e below s P kc ks (T.setTop g) := by
  obtain ⟨cq, q1, q2⟩ := EX.cell
  have hpriv : s.PrivateAt y := Cond.privateMethod_at (mvP hZ w5 (args := #[]))
  have hsel : (Jvm.Cond.selects y.cls y y).before args s = true := by
    have wi' : (Jvm.Cond.instantiable y.cls nn).before args s = true := mvT hZ wi
    obtain ⟨c2, k2, f1, f2, f3, f4, -⟩ := Cond.instantiable_spec wi'
    exact selects_self_of_private f1 f2 (Bool.or_eq_false_iff.mp f4).1 hpriv (mvT hZ w2) hy
  obtain ⟨v, vm, ⟨T', L', k', n'⟩, -, X', ⟨L, hQ, hl', hk', hn'⟩, st⟩ := X.privateBack hx (y := y) hown (mvT hZ w1) (mvT hZ w2) hsel hpriv (mvT hZ w4) hy (backOf (W := W) (hM []) hZ w4 w3 hf hl) hg (hsize.trans hml.symm) (Steps.refl _) (a := b) (by rw [eT]; exact q1) q2 (argsL := argsL) (rest := rest) (lenOf hpd hlen) hst hW hd (fun _ _ => ⟨has, eT, hc, hs⟩)
  dsimp only [Pt.U, Pt.locs, Pt.cells, Pt.slots] at X' hl' hk' hn' st hQ
  subst hl' hk' hn'
  exact own_stT st (k T' L v X' hQ)
/-- a constructor by its contract -/
theorem own_cN (X : Stand p l e R s m args below meth c T locs cells slots) (hx : p.tables.exec = Jvm.exec) {ml : Nat} (hml : c.maxLocals = ml) (hZ : Z.Warmed39 s.vm) {own : String} {index : Nat} {y : MethodName} {bytes : ByteArray} {maxL : Nat} {rm : Room} {as : Array Value} {Q : own_P} (hy1 : y.name = "<init>")
    (hown : s.vm.findClass own = some m.cls) (w1 : (Jvm.Cond.methodLink own index y).before a0 Z = true) (w2 : (Jvm.Cond.instanceMethod y).before a0 Z = true) (w3 : (Jvm.Cond.initialized y.cls).before a0 Z = true) (w4 : (Jvm.Cond.code y bytes maxL none).before a0 Z = true)
    (hy : y.cls ≠ "java/lang/invoke/MethodHandle" ∧ y.cls ≠ "java/lang/invoke/VarHandle") (hM : own_Met l Z y bytes maxL none rm as h Q) (eT : T.heap = h) (hf : rm.frames + 1 ≤ R.frames) {W : Nat} (hl : W + (maxL + 11) + rm.locals ≤ R.locals)
    {g : JFrame} (hg : g.method = m) (hsize : g.locals.size = ml) {ps : List FieldType} {r : Option FieldType} (hpd : parseMethodDescriptor y.desc = some ⟨ps, r⟩) {b : Addr} {argsL rest : List Value} (hlen : argsL.length = ps.length) (has : (.ref b :: argsL).toArray = as) (hst : g.stack = argsL.reverse ++ .ref b :: rest)
    (hW : 2 * g.monitorRoom + (rest.map fun v => v.category).sum ≤ W) (hd : decode c.code g.pc = .ok (.invokespecial index, 3)) (hc : cells + rm.cells ≤ R.cells) (hs : slots + rm.slots ≤ R.slots) {P : own_P} {kc ks : Nat}
    (k : ∀ T' L v, Stand p l e R s m args below meth c T' (locs ++ L) (cells + rm.cells) (slots + rm.slots) → Q v T'.heap L → own_Go p e below s P kc ks (T'.setTop { g with pc := g.pc + 3, stack := v.toList ++ rest })) : own_Go p e below s P kc ks (T.setTop g) := by
  obtain ⟨v, vm, ⟨T', L', k', n'⟩, -, X', ⟨L, hQ, hl', hk', hn'⟩, st⟩ := X.specialBack hx (y := y) hy1 hown (mvT hZ w1) (mvT hZ w2) (mvT hZ w4) hy (backOf (W := W) (hM []) hZ w4 w3 hf hl) hg (hsize.trans hml.symm) (Steps.refl _) (a := b) (argsL := argsL) (rest := rest) (lenOf hpd hlen) hst hW hd (fun _ _ => ⟨has, eT, hc, hs⟩)
  dsimp only [Pt.U, Pt.locs, Pt.cells, Pt.slots] at X' hl' hk' hn' st hQ
  subst hl' hk' hn'
  exact own_stT st (k T' L v X' hQ)
/-- an array of n places: place j holds f j -/
def own_Av (Z : State) (h : Heap) (a : Addr) (ty : FieldType) (n : Nat) (f : Nat → Value) : Prop :=
  n < 2147483648 ∧ ∃ cl : Cell, Arr Z h a cl ty ∧ cl.slots.size = n ∧ ∀ j, j < n → cl.slots[j]? = some (f j)
theorem own_Av.lt {a : Addr} {ty : FieldType} {n : Nat} {f : Nat → Value} (V : own_Av Z h a ty n f) : a < h.size := by
  obtain ⟨-, cl, A, -⟩ := V
  exact A.lt
theorem own_Av.ext {a : Addr} {ty : FieldType} {n : Nat} {f : Nat → Value} (V : own_Av Z h a ty n f) (E : Ext h h') : own_Av Z h' a ty n f := by
  obtain ⟨hn, cl, A, r⟩ := V
  exact ⟨hn, cl, A.ext E, r⟩
theorem own_Av.other {a b : Addr} {ty : FieldType} {n sl : Nat} {f : Nat → Value} {v : Value} (V : own_Av Z h b ty n f) (W : Wr h h' a sl v) (q : b ≠ a) : own_Av Z h' b ty n f := by
  obtain ⟨hn, cl, A, r⟩ := V
  exact ⟨hn, cl, A.other W q, r⟩
theorem own_Av.keep {a : Addr} {ty : FieldType} {n : Nat} {f : Nat → Value} {ws : List Addr} (V : own_Av Z h a ty n f) (K : Keep h h' ws) (q : a ∉ ws) : own_Av Z h' a ty n f := by
  obtain ⟨hn, cl, A, r⟩ := V
  exact ⟨hn, cl, ⟨K.2.1 a cl A.1 q, A.2⟩, r⟩
theorem own_Av.congr {a : Addr} {ty : FieldType} {n : Nat} {f g : Nat → Value} (V : own_Av Z h a ty n f) (q : ∀ j, j < n → f j = g j) : own_Av Z h a ty n g := by
  obtain ⟨hn, cl, A, r1, r2⟩ := V
  exact ⟨hn, cl, A, r1, fun j hj => by rw [r2 j hj, q j hj]⟩
theorem own_Av.same {a : Addr} {ty : FieldType} {n i : Nat} {f : Nat → Value} {v : Value} (V : own_Av Z h a ty n f) (W : Wr h h' a i v) : own_Av Z h' a ty n (fun j => if j = i then v else f j) := by
  obtain ⟨hn, cl, A, r1, r2⟩ := V
  refine ⟨hn, cl.setSlot i v, A.same W, by rw [sz_set, r1], fun j hj => ?_⟩
  have hj' : j < cl.slots.size := by rw [r1]; exact hj
  by_cases q : j = i
  · subst q
    simp [Cell.setSlot, hj']
  · have q' : ¬ i = j := fun u => q u.symm
    simp only [Cell.setSlot, if_neg q]
    rw [Array.getElem?_setIfInBounds_ne q']
    exact r2 j hj
theorem own_Av.new {a : Addr} {ty : FieldType} {k : ClassId} {z : Int32} {n : Nat} (A : Arr Z h a (newA k ty z) ty) (hz : z.toInt = n) : own_Av Z h a ty n (fun _ => defaultValue ty) := by
  have h1 : z.toNatClampNeg = n := by
    show z.toInt.toNat = n
    rw [hz]; rfl
  have h2 : z.toInt < 2147483648 := Int32.toInt_lt z
  refine ⟨by omega, _, A, by rw [sz_new, h1], fun j hj => ?_⟩
  simp [newA, h1, hj]
theorem own_ix {j : Int32} {i n : Nat} (hj : j.toInt = i) (hi : i < n) : ¬ (j < 0 ∨ n ≤ j.toNatClampNeg) ∧ j.toNatClampNeg = i := by
  have h1 : j.toNatClampNeg = i := by
    show j.toInt.toNat = i
    rw [hj]; rfl
  refine ⟨?_, h1⟩
  rintro (q | q)
  · rw [Int32.lt_iff_toInt_lt, hj] at q
    have : (0 : Int32).toInt = 0 := by decide
    omega
  · omega
theorem own_ldI (X : Stand p l e R s m args below meth c T locs cells slots) (hx : p.tables.exec = Jvm.exec) (hZ : Z.Warmed39 s.vm) (eT : T.heap = h) {a : Addr} {n : Nat} {f : Nat → Value} (V : own_Av Z h a .int n f) {j : Int32} {i : Nat} (hj : j.toInt = i) (hi : i < n) {v : Value} (hv : f i = v)
    {g : JFrame} (hg : g.method = m) {rest : List Value} (hs : g.stack = .int j :: .ref a :: rest) (hd : decode c.code g.pc = .ok (.iaload, 1)) :
    ∀ t, Steps p.tables e below (T.setTop { g with pc := g.pc + 1, stack := v :: rest }) t → Steps p.tables e below (T.setTop g) t := by
  obtain ⟨-, cl, A, r1, r2⟩ := V
  obtain ⟨q1, q2⟩ := own_ix hj (n := cl.slots.size) (by rw [r1]; exact hi)
  exact X.iaload hx (by rw [eT]; exact A.1) (State.isArrayOf_alike hZ.alike A.2.1) A.2.2 q1 (by rw [q2, r2 i hi, hv]) hg hs hd
theorem own_ldB (X : Stand p l e R s m args below meth c T locs cells slots) (hx : p.tables.exec = Jvm.exec) (hZ : Z.Warmed39 s.vm) (eT : T.heap = h) {a : Addr} {n : Nat} {f : Nat → Value} (V : own_Av Z h a .byte n f) {j : Int32} {i : Nat} (hj : j.toInt = i) (hi : i < n) {v : Value} (hv : f i = v)
    {g : JFrame} (hg : g.method = m) {rest : List Value} (hs : g.stack = .int j :: .ref a :: rest) (hd : decode c.code g.pc = .ok (.baload, 1)) :
    ∀ t, Steps p.tables e below (T.setTop { g with pc := g.pc + 1, stack := v :: rest }) t → Steps p.tables e below (T.setTop g) t := by
  obtain ⟨-, cl, A, r1, r2⟩ := V
  obtain ⟨q1, q2⟩ := own_ix hj (n := cl.slots.size) (by rw [r1]; exact hi)
  exact X.baloadBytes hx (by rw [eT]; exact A.1) (State.isArrayOf_alike hZ.alike A.2.1) A.2.2 q1 (by rw [q2, r2 i hi, hv]) hg hs hd
theorem own_ldJ (X : Stand p l e R s m args below meth c T locs cells slots) (hx : p.tables.exec = Jvm.exec) (hZ : Z.Warmed39 s.vm) (eT : T.heap = h) {a : Addr} {n : Nat} {f : Nat → Value} (V : own_Av Z h a .long n f) {j : Int32} {i : Nat} (hj : j.toInt = i) (hi : i < n) {v : Value} (hv : f i = v)
    {g : JFrame} (hg : g.method = m) {rest : List Value} (hs : g.stack = .int j :: .ref a :: rest) (hd : decode c.code g.pc = .ok (.laload, 1)) :
    ∀ t, Steps p.tables e below (T.setTop { g with pc := g.pc + 1, stack := v :: rest }) t → Steps p.tables e below (T.setTop g) t := by
  obtain ⟨-, cl, A, r1, r2⟩ := V
  obtain ⟨q1, q2⟩ := own_ix hj (n := cl.slots.size) (by rw [r1]; exact hi)
  exact X.laload hx (by rw [eT]; exact A.1) (State.isArrayOf_alike hZ.alike A.2.1) A.2.2 q1 (by rw [q2, r2 i hi, hv]) hg hs hd
theorem own_len (X : Stand p l e R s m args below meth c T locs cells slots) (hx : p.tables.exec = Jvm.exec) (hZ : Z.Warmed39 s.vm) (eT : T.heap = h) {a : Addr} {ty : FieldType} {n : Nat} {f : Nat → Value} (V : own_Av Z h a ty n f) {z : Int32} (hz : z.toInt = n)
    {g : JFrame} (hg : g.method = m) {rest : List Value} (hs : g.stack = .ref a :: rest) (hd : decode c.code g.pc = .ok (.arraylength, 1)) :
    ∀ t, Steps p.tables e below (T.setTop { g with pc := g.pc + 1, stack := .int z :: rest }) t → Steps p.tables e below (T.setTop g) t := by
  obtain ⟨hn, cl, A, r1, r2⟩ := V
  have q : cl.slots.size.toInt32 = z := by
    rw [r1]
    apply Int32.toInt_inj.mp
    rw [hz]
    show (Int32.ofNat n).toInt = n
    rw [Int32.toInt_ofNat_of_lt (by omega)]
  intro t ht
  refine X.arraylength hx (by rw [eT]; exact A.1) (State.isArrayOf_alike hZ.alike A.2.1) hg hs hd t ?_
  rw [q]
  exact ht
theorem own_stI (X : Stand p l e R s m args below meth c T locs cells slots) (hx : p.tables.exec = Jvm.exec) (hZ : Z.Warmed39 s.vm) (eT : T.heap = h) {a : Addr} {n : Nat} {f : Nat → Int32} (V : own_Av Z h a .int n (fun t => .int (f t))) {j x : Int32} {i : Nat} (hj : j.toInt = i) (hi : i < n)
    {g : JFrame} (hg : g.method = m) {rest : List Value} (hs : g.stack = .int x :: .int j :: .ref a :: rest) (hd : decode c.code g.pc = .ok (.iastore, 1)) :
    ∃ T' h', Stand p l e R s m args below meth c T' (locs ++ [⟨a, i⟩]) cells slots ∧ T'.heap = h' ∧ Wr h h' a i (.int x) ∧ own_Av Z h' a .int n (fun t => .int (if t = i then x else f t)) ∧
      ∀ t, Steps p.tables e below (T'.setTop { g with pc := g.pc + 1, stack := rest }) t → Steps p.tables e below (T.setTop g) t := by
  have V' := V
  obtain ⟨-, cl, A, r1, r2⟩ := V
  obtain ⟨q1, q2⟩ := own_ix hj (n := cl.slots.size) (by rw [r1]; exact hi)
  obtain ⟨T', h', X', e', W', st⟩ := stI X hx hZ eT A q1 hg hs hd
  rw [q2] at X' W'
  exact ⟨T', h', X', e', W', (V'.same W').congr (fun j _ => by by_cases q : j = i <;> simp [q]), st⟩
theorem own_stB (X : Stand p l e R s m args below meth c T locs cells slots) (hx : p.tables.exec = Jvm.exec) (hZ : Z.Warmed39 s.vm) (eT : T.heap = h) {a : Addr} {n : Nat} {f : Nat → Int32} (V : own_Av Z h a .byte n (fun t => .int (f t))) {j x : Int32} {i : Nat} (hj : j.toInt = i) (hi : i < n)
    {g : JFrame} (hg : g.method = m) {rest : List Value} (hs : g.stack = .int x :: .int j :: .ref a :: rest) (hd : decode c.code g.pc = .ok (.bastore, 1)) :
    ∃ T' h', Stand p l e R s m args below meth c T' (locs ++ [⟨a, i⟩]) cells slots ∧ T'.heap = h' ∧ Wr h h' a i (.int (nar .byte x)) ∧ own_Av Z h' a .byte n (fun t => .int (if t = i then (nar .byte x) else f t)) ∧
      ∀ t, Steps p.tables e below (T'.setTop { g with pc := g.pc + 1, stack := rest }) t → Steps p.tables e below (T.setTop g) t := by
  have V' := V
  obtain ⟨-, cl, A, r1, r2⟩ := V
  obtain ⟨q1, q2⟩ := own_ix hj (n := cl.slots.size) (by rw [r1]; exact hi)
  obtain ⟨T', h', X', e', W', st⟩ := stB X hx hZ eT A q1 hg hs hd
  rw [q2] at X' W'
  exact ⟨T', h', X', e', W', (V'.same W').congr (fun j _ => by by_cases q : j = i <;> simp [q]), st⟩
theorem own_stJ (X : Stand p l e R s m args below meth c T locs cells slots) (hx : p.tables.exec = Jvm.exec) (hZ : Z.Warmed39 s.vm) (eT : T.heap = h) {a : Addr} {n : Nat} {f : Nat → Int64} (V : own_Av Z h a .long n (fun t => .long (f t))) {j : Int32} {x : Int64} {i : Nat} (hj : j.toInt = i) (hi : i < n)
    {g : JFrame} (hg : g.method = m) {rest : List Value} (hs : g.stack = .long x :: .int j :: .ref a :: rest) (hd : decode c.code g.pc = .ok (.lastore, 1)) :
    ∃ T' h', Stand p l e R s m args below meth c T' (locs ++ [⟨a, i⟩]) cells slots ∧ T'.heap = h' ∧ Wr h h' a i (.long x) ∧ own_Av Z h' a .long n (fun t => .long (if t = i then x else f t)) ∧
      ∀ t, Steps p.tables e below (T'.setTop { g with pc := g.pc + 1, stack := rest }) t → Steps p.tables e below (T.setTop g) t := by
  have V' := V
  obtain ⟨-, cl, A, r1, r2⟩ := V
  obtain ⟨q1, q2⟩ := own_ix hj (n := cl.slots.size) (by rw [r1]; exact hi)
  obtain ⟨T', h', X', e', W', st⟩ := stJ X hx hZ eT A q1 hg hs hd
  rw [q2] at X' W'
  exact ⟨T', h', X', e', W', (V'.same W').congr (fun j _ => by by_cases q : j = i <;> simp [q]), st⟩
/-- newarray: b is the fresh array's address -/
theorem own_newA (X : Stand p l e R s m args below meth c T locs cells slots) (hx : p.tables.exec = Jvm.exec) (hZ : Z.Warmed39 s.vm) {aty : ArrayType} (w : (Jvm.Cond.arrayClass (newarray.typeOf aty)).before a0 Z = true) (eT : T.heap = h) {g : JFrame} (hg : g.method = m) (hd : decode c.code g.pc = .ok (.newarray aty, 2)) {z : Int32} {rest : List Value} (hs : g.stack = .int z :: rest)
    {n cap : Nat} (hz : z.toInt = n) (hcap : n ≤ cap) (hb : cap * 8 ≤ 536870912) (hc : cells + 1 ≤ R.cells) (hl : slots + cap ≤ R.slots) :
    ∃ T' h' b, b = h.size ∧ Stand p l e R s m args below meth c T' locs (cells + 1) (slots + cap) ∧ T'.heap = h' ∧ Ext h h' ∧ own_Av Z h' b (newarray.typeOf aty) n (fun _ => defaultValue (newarray.typeOf aty)) ∧
      ∀ t, Steps p.tables e below (T'.setTop { g with pc := g.pc + 2, stack := .ref b :: rest }) t → Steps p.tables e below (T.setTop g) t := by
  have h1 : z.toNatClampNeg = n := by
    show z.toInt.toNat = n
    rw [hz]; rfl
  have h2 : ¬ z < 0 := by
    rw [Int32.lt_iff_toInt_lt, hz]
    have : (0 : Int32).toInt = 0 := by decide
    omega
  obtain ⟨T', h', cA, X', e', E', A', st⟩ := newP X hx hZ w eT hg hd hs h2 (cap := cap) (by omega) hb hc hl
  exact ⟨T', h', h.size, rfl, X', e', E', own_Av.new A' hz, st⟩
theorem own_nil {k : Nat} {L : List Loc} (N : Fr k L) {L' : List Loc} (q : L' = []) : Fr k (L ++ L') := by
  subst q
  rw [List.append_nil]
  exact N
/-- the walk's end, carried to the sheet -/
theorem own_cast {P : own_P} {kc ks : Nat} {A B : State} (q : A = B) (k : own_Go p e below s P kc ks B) : own_Go p e below s P kc ks A := q ▸ k
theorem own_bm {x : Int} (h1 : -2147483648 ≤ x) (h2 : x < 2147483648) : x.bmod (2 ^ 32) = x := by
  rw [Int.bmod_def]
  split <;> omega
theorem own_addN {a b : Int32} {i k : Nat} (ha : a.toInt = i) (hb : b.toInt = k) (hlt : i + k < 2147483648) : (a + b).toInt = ((i + k : Nat) : Int) := by
  rw [Int32.toInt_add, ha, hb, own_bm (by omega) (by omega)]
  omega
theorem own_add {a b : Int32} (h1 : -2147483648 ≤ a.toInt + b.toInt) (h2 : a.toInt + b.toInt < 2147483648) : (a + b).toInt = a.toInt + b.toInt := by
  rw [Int32.toInt_add, own_bm h1 h2]
theorem own_sub {a b : Int32} (h1 : -2147483648 ≤ a.toInt - b.toInt) (h2 : a.toInt - b.toInt < 2147483648) : (a - b).toInt = a.toInt - b.toInt := by
  rw [Int32.toInt_sub, own_bm h1 h2]
theorem own_mask (z K : Int32) {k : Nat} (hK : K.toInt = k) : ∃ i : Nat, (z &&& K).toInt = i ∧ i ≤ k := by
  have hk : K.toBitVec.toInt = k := hK
  have h1 : K.toBitVec.toNat = k := by
    rw [BitVec.toInt_eq_toNat_cond] at hk
    have := K.toBitVec.isLt
    split at hk <;> omega
  have h2 : 2 * K.toBitVec.toNat < 2 ^ 32 := by
    rw [BitVec.toInt_eq_toNat_cond] at hk
    have := K.toBitVec.isLt
    split at hk <;> omega
  have h3 : (z &&& K).toBitVec.toNat ≤ k := by
    show (z.toBitVec &&& K.toBitVec).toNat ≤ k
    rw [BitVec.toNat_and, ← h1]
    exact Nat.and_le_right
  refine ⟨(z &&& K).toBitVec.toNat, ?_, h3⟩
  show (z &&& K).toBitVec.toInt = _
  rw [BitVec.toInt_eq_toNat_cond, if_pos (by omega)]
theorem own_lt32 {a b : Int32} : a < b ↔ a.toInt < b.toInt := Int32.lt_iff_toInt_lt
theorem own_rem {a b : Int32} (ha : 0 ≤ a.toInt) (hb : 0 < b.toInt) : (a % b).toInt = a.toInt % b.toInt := by
  rw [Int32.toInt_mod]
  exact Int.tmod_eq_emod_of_nonneg ha
end OwnKit

theorem own_as (u : Int32) : u + 1 - 1 = u := by
  apply Int32.toBitVec_inj.mp
  show u.toBitVec + 1#32 - 1#32 = u.toBitVec
  exact BitVec.add_sub_cancel _ _
theorem own_ai {u v : Int32} (h : u + 1 = v + 1) : u = v := by
  rw [← own_as u, h, own_as]
/-- how many of the first n places are free -/
def own_zero (kf : Nat → Int32) : Nat → Nat
  | 0 => 0
  | n + 1 => own_zero kf n + (if kf n = 0 then 1 else 0)
theorem own_zero_pos {kf : Nat → Int32} {n : Nat} (h : 0 < own_zero kf n) : ∃ z, z < n ∧ kf z = 0 := by
  induction n with
  | zero => exact absurd h (by show ¬ 0 < 0; omega)
  | succ n ih =>
    by_cases q : kf n = 0
    · exact ⟨n, by omega, q⟩
    · have h' : 0 < own_zero kf n := by
        have h2 : 0 < own_zero kf n + (if kf n = 0 then 1 else 0) := h
        rw [if_neg q] at h2
        omega
      obtain ⟨z, hz, hk⟩ := ih h'
      exact ⟨z, by omega, hk⟩
theorem own_zero_out {kf : Nat → Int32} {r : Nat} {k : Int32} {n : Nat} (h : n ≤ r) : own_zero (fun t => if t = r then k else kf t) n = own_zero kf n := by
  induction n with
  | zero => rfl
  | succ n ih =>
    show own_zero _ n + (if (if n = r then k else kf n) = 0 then 1 else 0) = own_zero kf n + (if kf n = 0 then 1 else 0)
    rw [ih (by omega), if_neg (show ¬ n = r by omega)]
theorem own_zero_set {kf : Nat → Int32} {r : Nat} {k : Int32} {n : Nat} (h : r < n) (h0 : kf r = 0) (hk : k ≠ 0) : own_zero (fun t => if t = r then k else kf t) n + 1 = own_zero kf n := by
  induction n with
  | zero => omega
  | succ n ih =>
    show own_zero _ n + (if (if n = r then k else kf n) = 0 then 1 else 0) + 1 = own_zero kf n + (if kf n = 0 then 1 else 0)
    by_cases q : n = r
    · subst q
      rw [own_zero_out (Nat.le_refl _), if_pos rfl, if_neg hk, if_pos h0]
    · rw [if_neg q]
      have := ih (by omega)
      omega
/-- where 'place' stops: from hs on, past places that are taken by others -/
def own_Pl (kf : Nat → Int32) (N hs : Nat) (key : Int32) (r : Nat) : Prop := ∃ d, r = (hs + d) % N ∧ (∀ e, e < d → kf ((hs + e) % N) ≠ 0 ∧ kf ((hs + e) % N) ≠ key) ∧ (kf r = 0 ∨ kf r = key)
/-- the table holds just the pairs of S -/
def own_T (N : Nat) (hs : Int32 → Nat) (kf nf : Nat → Int32) (S : Int32 → Int32 → Prop) : Prop :=
  (∀ r, r < N → kf r ≠ 0 → S (kf r - 1) (nf r)) ∧
  (∀ u n, S u n → u + 1 ≠ 0 ∧ ∃ d, kf ((hs u + d) % N) = u + 1 ∧ ∀ e, e < d → kf ((hs u + e) % N) ≠ 0) ∧
  (∀ u n n', S u n → S u n' → n = n') ∧
  (∀ r r', r < N → r' < N → kf r ≠ 0 → kf r = kf r' → r = r')
theorem own_T_hit {N : Nat} {hs : Int32 → Nat} {kf nf : Nat → Int32} {S : Int32 → Int32 → Prop} {u n : Int32} {r : Nat} (hN : 0 < N) (H : own_T N hs kf nf S) (hS : S u n) (P : own_Pl kf N (hs u) (u + 1) r) : kf r = u + 1 ∧ kf r ≠ 0 ∧ nf r = n := by
  obtain ⟨A, B, F, U⟩ := H
  obtain ⟨hu, d', hk', hp'⟩ := B u n hS
  obtain ⟨d, hr, hp, hc⟩ := P
  have hrN : r < N := by rw [hr]; exact Nat.mod_lt _ hN
  have key : kf r = u + 1 := by
    rcases hc with h0 | h1
    · exfalso
      rcases Nat.lt_trichotomy d d' with q | q | q
      · exact hp' d q (by rw [← hr]; exact h0)
      · subst q
        rw [← hr, h0] at hk'
        exact hu hk'.symm
      · exact (hp d' q).2 hk'
    · exact h1
  have nz : kf r ≠ 0 := by rw [key]; exact hu
  refine ⟨key, nz, ?_⟩
  have q := A r hrN nz
  rw [key, own_as] at q
  exact F u _ _ q hS
theorem own_T_miss {N : Nat} {hs : Int32 → Nat} {kf nf : Nat → Int32} {S : Int32 → Int32 → Prop} {u : Int32} {r : Nat} (hN : 0 < N) (H : own_T N hs kf nf S) (hS : ∀ n, ¬ S u n) (P : own_Pl kf N (hs u) (u + 1) r) : kf r = 0 := by
  obtain ⟨A, B, F, U⟩ := H
  obtain ⟨d, hr, hp, hc⟩ := P
  have hrN : r < N := by rw [hr]; exact Nat.mod_lt _ hN
  rcases hc with h0 | h1
  · exact h0
  · by_cases q : kf r = 0
    · exact q
    · have t := A r hrN q
      rw [h1, own_as] at t
      exact absurd t (hS _)
theorem own_T_ins {N : Nat} {hs : Int32 → Nat} {kf nf : Nat → Int32} {S : Int32 → Int32 → Prop} {u n : Int32} {r : Nat} (hN : 0 < N) (H : own_T N hs kf nf S) (hS : ∀ n, ¬ S u n) (hu : u + 1 ≠ 0) (P : own_Pl kf N (hs u) (u + 1) r) :
    own_T N hs (fun t => if t = r then u + 1 else kf t) (fun t => if t = r then n else nf t) (fun u' n' => S u' n' ∨ (u' = u ∧ n' = n)) := by
  have h0 := own_T_miss hN H hS P
  obtain ⟨A, B, F, U⟩ := H
  obtain ⟨d, hr, hp, -⟩ := P
  have hrN : r < N := by rw [hr]; exact Nat.mod_lt _ hN
  have hnk : ∀ t, t < N → kf t ≠ u + 1 := fun t ht q => by
    have a := A t ht (by rw [q]; exact hu)
    rw [q, own_as] at a
    exact hS _ a
  refine ⟨fun t ht hk => ?_, fun u' n' h => ?_, fun u' n1 n2 h1 h2 => ?_, fun t t' ht ht' hk hkk => ?_⟩
  · by_cases q : t = r
    · subst q
      exact Or.inr ⟨by show (if t = t then u + 1 else kf t) - 1 = u; rw [if_pos rfl]; exact own_as u, if_pos rfl⟩
    · simp only [if_neg q] at hk ⊢
      exact Or.inl (A t ht hk)
  · rcases h with h | ⟨rfl, rfl⟩
    · obtain ⟨g1, d', g2, g3⟩ := B u' n' h
      refine ⟨g1, d', ?_, fun e he => ?_⟩
      · have q : ¬ (hs u' + d') % N = r := fun q => by rw [q, h0] at g2; exact g1 g2.symm
        simp only [if_neg q]
        exact g2
      · by_cases q : (hs u' + e) % N = r
        · simp only [if_pos q]
          exact hu
        · simp only [if_neg q]
          exact g3 e he
    · refine ⟨hu, d, ?_, fun e he => ?_⟩
      · simp only [← hr, if_true]
      · by_cases q : (hs u' + e) % N = r
        · simp only [if_pos q]
          exact hu
        · simp only [if_neg q]
          exact (hp e he).1
  · rcases h1 with h1 | ⟨rfl, rfl⟩
    · rcases h2 with h2 | ⟨rfl, rfl⟩
      · exact F _ _ _ h1 h2
      · exact absurd h1 (hS _)
    · rcases h2 with h2 | ⟨-, rfl⟩
      · exact absurd h2 (hS _)
      · rfl
  · by_cases q : t = r
    · by_cases q' : t' = r
      · rw [q, q']
      · simp only [if_pos q, if_neg q'] at hkk
        exact absurd hkk.symm (hnk t' ht')
    · by_cases q' : t' = r
      · simp only [if_neg q, if_pos q'] at hkk
        exact absurd hkk (hnk t ht)
      · simp only [if_neg q, if_neg q'] at hkk hk
        exact U t t' ht ht' hk hkk
theorem own_T_congr {N : Nat} {hs : Int32 → Nat} {kf nf : Nat → Int32} {S S' : Int32 → Int32 → Prop} (H : own_T N hs kf nf S) (q : ∀ u n, S u n ↔ S' u n) : own_T N hs kf nf S' := by
  obtain ⟨A, B, F, U⟩ := H
  exact ⟨fun r hr hk => (q _ _).mp (A r hr hk), fun u n h => B u n ((q _ _).mpr h), fun u n n' h h' => F u n n' ((q _ _).mpr h) ((q _ _).mpr h'), U⟩
/-- the pairs in the first i places -/
def own_Si (kf nf : Nat → Int32) (i : Nat) (u n : Int32) : Prop := ∃ r, r < i ∧ kf r ≠ 0 ∧ u = kf r - 1 ∧ n = nf r
theorem own_Si_all {N : Nat} {hs : Int32 → Nat} {kf nf : Nat → Int32} {S : Int32 → Int32 → Prop} (hN : 0 < N) (H : own_T N hs kf nf S) (u n : Int32) : own_Si kf nf N u n ↔ S u n := by
  obtain ⟨A, B, F, U⟩ := H
  constructor
  · rintro ⟨r, hr, hk, rfl, rfl⟩
    exact A r hr hk
  · intro h
    obtain ⟨hu, d, hk, -⟩ := B u n h
    have hr : (hs u + d) % N < N := Nat.mod_lt _ hN
    have nz : kf ((hs u + d) % N) ≠ 0 := by rw [hk]; exact hu
    have a := A _ hr nz
    rw [hk, own_as] at a
    exact ⟨_, hr, nz, by rw [hk, own_as], F u _ _ h a⟩
theorem own_T_nil {N : Nat} {hs : Int32 → Nat} {nf : Nat → Int32} : own_T N hs (fun _ => 0) nf (fun _ _ => False) := ⟨fun _ _ h => absurd rfl h, fun _ _ h => h.elim, fun _ _ _ h => h.elim, fun _ _ _ _ h => absurd rfl h⟩
theorem own_zero_all (n : Nat) : own_zero (fun _ => 0) n = n := by
  induction n with
  | zero => rfl
  | succ n ih => show own_zero _ n + (if (0 : Int32) = 0 then 1 else 0) = _; rw [ih, if_pos rfl]
theorem own_and {z K : Int32} {c m : Nat} (hz : z.toInt = (c : Int)) (hK : K.toBitVec.toNat = 2 ^ m - 1) (hm : m ≤ 30) : (z &&& K).toInt = ((c % 2 ^ m : Nat) : Int) := by
  have hz' : z.toBitVec.toInt = (c : Int) := hz
  have h1 : z.toBitVec.toNat = c := by
    rw [BitVec.toInt_eq_toNat_cond] at hz'
    have := z.toBitVec.isLt
    split at hz' <;> omega
  have h2 : (z &&& K).toBitVec.toNat = c % 2 ^ m := by
    show (z.toBitVec &&& K.toBitVec).toNat = _
    rw [BitVec.toNat_and, h1, hK, Nat.and_two_pow_sub_one_eq_mod]
  have h3 : c % 2 ^ m < 2 ^ 30 := Nat.lt_of_lt_of_le (Nat.mod_lt _ (Nat.two_pow_pos m)) (Nat.pow_le_pow_right (by omega) hm)
  show (z &&& K).toBitVec.toInt = _
  rw [BitVec.toInt_eq_toNat_cond, h2, if_pos (by omega)]
theorem own_ush {z : Int32} {d : Int32} {k : Nat} (hd : ∀ x : Int32, (XT.ushr x d).toBitVec = x.toBitVec >>> (32 - k)) (hk : k ≤ 30) : ∃ n : Nat, (XT.ushr z d).toInt = (n : Int) ∧ n < 2 ^ k := by
  have h1 : (XT.ushr z d).toBitVec.toNat < 2 ^ k := by
    rw [hd, BitVec.toNat_ushiftRight, Nat.shiftRight_eq_div_pow]
    have := z.toBitVec.isLt
    have e : 2 ^ 32 = 2 ^ k * 2 ^ (32 - k) := by rw [← Nat.pow_add]; congr 1; omega
    exact Nat.div_lt_of_lt_mul (by rw [Nat.mul_comm, ← e]; exact this)
  have h3 : 2 ^ k ≤ 2 ^ 30 := Nat.pow_le_pow_right (by omega) hk
  refine ⟨(XT.ushr z d).toBitVec.toNat, ?_, h1⟩
  show (XT.ushr z d).toBitVec.toInt = _
  rw [BitVec.toInt_eq_toNat_cond, if_pos (by omega)]

def own_hs (u : Int32) : Nat := (XT.ushr (u * (-1640531527 : Int32)) (28 : Int32)).toInt.toNat
theorem own_hsp (u : Int32) : (XT.ushr (u * (-1640531527 : Int32)) (28 : Int32)).toInt = (own_hs u : Int) ∧ own_hs u < 16 := by
  obtain ⟨n, hn, hl⟩ := own_ush (z := u * (-1640531527 : Int32)) (d := 28) (k := 4) (fun _ => rfl) (by omega)
  unfold own_hs
  rw [hn]
  exact ⟨rfl, hl⟩
def own_fix (z : Int32) : Int32 := if z = -1 then -2147483648 else z
theorem own_fixp (z : Int32) : own_fix z + 1 ≠ 0 := by
  unfold own_fix
  by_cases q : z = -1
  · rw [if_pos q]; decide
  · rw [if_neg q]
    intro h
    have : z = 0 - 1 := by rw [← h, own_as]
    exact q (this.trans (by decide))
def own_e3 (q k a b c : Int32) : Int32 := if k < 3 then -1 else if q = c then (if a = b then 1 else 2) else -1
def own_e2 (q k a b c : Int32) : Int32 := if k < 2 then own_e3 q k a b c else if q = b then 1 else own_e3 q k a b c
def own_ex (q k a b c : Int32) : Int32 := if k < 1 then own_e2 q k a b c else if q = a then 0 else own_e2 q k a b c
theorem own_k01 : ((0 : Int32) < 1) ∧ ((0 : Int32) < 2) ∧ ((0 : Int32) < 3) ∧ ¬ ((1 : Int32) < 1) ∧ ((1 : Int32) < 2) ∧ ((1 : Int32) < 3) ∧ ¬ ((2 : Int32) < 1) ∧ ¬ ((2 : Int32) < 2) ∧ ((2 : Int32) < 3) ∧ ¬ ((3 : Int32) < 1) ∧ ¬ ((3 : Int32) < 2) ∧ ¬ ((3 : Int32) < 3) := by decide
theorem own_x0 (q a b c : Int32) : own_ex q 0 a b c = -1 := rfl
theorem own_x1 (q a b c : Int32) : own_ex q 1 a b c = if q = a then 0 else -1 := rfl
theorem own_x2 (q a b c : Int32) : own_ex q 2 a b c = if q = a then 0 else if q = b then 1 else -1 := rfl
theorem own_x3 (q a b c : Int32) : own_ex q 3 a b c = if q = a then 0 else if q = b then 1 else if q = c then (if a = b then 1 else 2) else -1 := rfl
def own_G (S : Int32 → Int32 → Prop) (k a b c : Int32) : Prop := ∀ x, S x (own_ex x k a b c) ∨ (own_ex x k a b c = -1 ∧ ∀ n, ¬ S x n)
theorem own_g0 (a b c : Int32) : own_G (fun _ _ => False) 0 a b c := fun x => Or.inr ⟨rfl, fun _ h => h⟩
theorem own_g1 (a b c : Int32) : own_G (fun u n => False ∨ (u = a ∧ n = (0 : Int32))) 1 a b c := by
  intro x
  rw [own_x1]
  by_cases q1 : x = a
  · rw [if_pos q1]; exact Or.inl (Or.inr ⟨q1, rfl⟩)
  · rw [if_neg q1]; exact Or.inr ⟨rfl, fun n h => h.elim id (fun u => q1 u.1)⟩
theorem own_g2o (a b c : Int32) (hb : b = a) : own_G (fun u n => False ∨ (u = a ∧ n = (0 : Int32))) 2 a b c := by
  intro x
  rw [own_x2]
  by_cases q1 : x = a
  · rw [if_pos q1]; exact Or.inl (Or.inr ⟨q1, rfl⟩)
  · rw [if_neg q1, if_neg (by rw [hb]; exact q1)]; exact Or.inr ⟨rfl, fun n h => h.elim id (fun u => q1 u.1)⟩
theorem own_g2n (a b c : Int32) : own_G (fun u n => (False ∨ (u = a ∧ n = (0 : Int32))) ∨ (u = b ∧ n = ((0 : Int32) + 1))) 2 a b c := by
  intro x
  rw [own_x2]
  by_cases q1 : x = a
  · rw [if_pos q1]; exact Or.inl (Or.inl (Or.inr ⟨q1, rfl⟩))
  · rw [if_neg q1]
    by_cases q2 : x = b
    · rw [if_pos q2]; exact Or.inl (Or.inr ⟨q2, rfl⟩)
    · rw [if_neg q2]; exact Or.inr ⟨rfl, fun n h => h.elim (fun v => v.elim id (fun u => q1 u.1)) (fun u => q2 u.1)⟩
theorem own_g3oo (a b c : Int32) (hb : b = a) (hc : c = a) : own_G (fun u n => False ∨ (u = a ∧ n = (0 : Int32))) 3 a b c := by
  intro x
  rw [own_x3]
  by_cases q1 : x = a
  · rw [if_pos q1]; exact Or.inl (Or.inr ⟨q1, rfl⟩)
  · rw [if_neg q1, if_neg (by rw [hb]; exact q1), if_neg (by rw [hc]; exact q1)]; exact Or.inr ⟨rfl, fun n h => h.elim id (fun u => q1 u.1)⟩
theorem own_g3on (a b c : Int32) (hb : b = a) : own_G (fun u n => (False ∨ (u = a ∧ n = (0 : Int32))) ∨ (u = c ∧ n = ((0 : Int32) + 1))) 3 a b c := by
  intro x
  rw [own_x3, if_pos hb.symm]
  by_cases q1 : x = a
  · rw [if_pos q1]; exact Or.inl (Or.inl (Or.inr ⟨q1, rfl⟩))
  · rw [if_neg q1, if_neg (by rw [hb]; exact q1)]
    by_cases q2 : x = c
    · rw [if_pos q2]; exact Or.inl (Or.inr ⟨q2, rfl⟩)
    · rw [if_neg q2]; exact Or.inr ⟨rfl, fun n h => h.elim (fun v => v.elim id (fun u => q1 u.1)) (fun u => q2 u.1)⟩
theorem own_g3no (a b c : Int32) (hc : c = a ∨ c = b) : own_G (fun u n => (False ∨ (u = a ∧ n = (0 : Int32))) ∨ (u = b ∧ n = ((0 : Int32) + 1))) 3 a b c := by
  intro x
  rw [own_x3]
  by_cases q1 : x = a
  · rw [if_pos q1]; exact Or.inl (Or.inl (Or.inr ⟨q1, rfl⟩))
  · rw [if_neg q1]
    by_cases q2 : x = b
    · rw [if_pos q2]; exact Or.inl (Or.inr ⟨q2, rfl⟩)
    · rw [if_neg q2, if_neg (by rcases hc with h | h <;> rw [h] <;> assumption)]; exact Or.inr ⟨rfl, fun n h => h.elim (fun v => v.elim id (fun u => q1 u.1)) (fun u => q2 u.1)⟩
theorem own_g3nn (a b c : Int32) (hb : b ≠ a) : own_G (fun u n => ((False ∨ (u = a ∧ n = (0 : Int32))) ∨ (u = b ∧ n = ((0 : Int32) + 1))) ∨ (u = c ∧ n = (((0 : Int32) + 1) + 1))) 3 a b c := by
  intro x
  rw [own_x3, if_neg (fun h : a = b => hb h.symm)]
  by_cases q1 : x = a
  · rw [if_pos q1]; exact Or.inl (Or.inl (Or.inl (Or.inr ⟨q1, rfl⟩)))
  · rw [if_neg q1]
    by_cases q2 : x = b
    · rw [if_pos q2]; exact Or.inl (Or.inl (Or.inr ⟨q2, rfl⟩))
    · rw [if_neg q2]
      by_cases q3 : x = c
      · rw [if_pos q3]; exact Or.inl (Or.inr ⟨q3, rfl⟩)
      · rw [if_neg q3]; exact Or.inr ⟨rfl, fun n h => h.elim (fun w => w.elim (fun v => v.elim id (fun u => q1 u.1)) (fun u => q2 u.1)) (fun u => q3 u.1)⟩
theorem own_d0_0 : decode method_3_code 0 = .ok (.iload_n 0, 1) := by decide +kernel
theorem own_d0_1 : decode method_3_code 1 = .ok (.iconst (-1), 1) := by decide +kernel
theorem own_d0_2 : decode method_3_code 2 = .ok (.if_icmp .ne 8, 3) := by decide +kernel
theorem own_d0_5 : decode method_3_code 5 = .ok (.ldc 28, 2) := by decide +kernel
theorem own_d0_7 : decode method_3_code 7 = .ok (.goto 4, 3) := by decide +kernel
theorem own_d0_10 : decode method_3_code 10 = .ok (.iload_n 0, 1) := by decide +kernel
theorem own_d0_11 : decode method_3_code 11 = .ok (.ireturn, 1) := by decide +kernel
theorem own_pn0 : plainFor (⟨"com/example/hop_gate/hopgate/UserIndexFindPinLaw", "fix", "(I)I"⟩ : MethodName) = true := by first | exact plainFor_of_name (show plainName "com/example/hop_gate/hopgate/UserIndexFindPinLaw" = true by first | (simp [plainName, overriddenIn]; done) | decide +kernel) | decide +kernel
theorem own_ef0 (m : MethodId) (x0 : Int32) : entryFrame m #[(.int x0)] 1 = mkF m 0 #[.val (.int x0)] [] := by first | (simp [entryFrame, mkF, argsToLocals, Value.category]; done) | rfl
set_option maxRecDepth 65536 in
set_option maxHeartbeats 40000000 in
theorem own_rm1 (l : Launch) (Z : State) (a0 : Array Value) (hw : ∀ d ∈ tables_1, d.before a0 Z = true) (p1 : Int32) (h0 : Heap) (n0 : Nat) (Z0 : n0 ≤ h0.size)  :
    own_Met l Z (⟨"com/example/hop_gate/hopgate/UserIndexFindPinLaw", "fix", "(I)I"⟩ : MethodName) method_3_code 1 (some .int) ({ frames := 0, cells := 0, slots := 0, locals := 0 } : Room) #[(.int p1)] h0 (fun v h' L => v = some (.int (own_fix p1)) ∧ h' = h0 ∧ L = []) := by
  refine own_in own_pn0 ?_
  intro p e s m below meth c s₁ hx hby hml hown hnm hlk hret hZ X0 e0
  have N0 := Fr.nil n0
  refine own_ef (own_ef0 m p1) ?_
  show own_Go p e below s _ _ _ (s₁.setTop (mkF m 0 #[.val (.int p1)] []))
  refine own_st (fun _ kont => XS.iloadN X0.here hx rfl (hb hby own_d0_0) rfl kont) ?_
  show own_Go p e below s _ _ _ (s₁.setTop (mkF m 1 #[.val (.int p1)] [(.int p1)]))
  refine own_st (fun _ kont => XS.iconst X0.here hx rfl (hb hby own_d0_1) kont) ?_
  show own_Go p e below s _ _ _ (s₁.setTop (mkF m 2 #[.val (.int p1)] [(.int (-1 : Int32)), (.int p1)]))
  rcases Classical.em (p1 = (-1 : Int32)) with c1 | c1
  · show own_Go p e below s _ _ _ (s₁.setTop (mkF m 2 #[.val (.int p1)] [(.int (-1 : Int32)), (.int p1)]))
    refine own_st (fun _ kont => XS.icmpNo X0.here hx rfl (hb hby own_d0_2) rfl (teq c1).2 kont) ?_
    show own_Go p e below s _ _ _ (s₁.setTop (mkF m 5 #[.val (.int p1)] []))
    refine own_st (fun _ kont => X0.ldcInt hx hown (mvT hZ (hw _ (List.mem_of_getElem? (i := 40) rfl))) (g := (mkF m 5 #[.val (.int p1)] [])) rfl (hb hby own_d0_5) _ kont) ?_
    show own_Go p e below s _ _ _ (s₁.setTop (mkF m 7 #[.val (.int p1)] [(.int (-2147483648 : Int32))]))
    refine own_st (fun _ kont => XS.goto X0.here hx rfl (pc0 := 7) (pc' := 11) rfl (hb hby own_d0_7) (by decide) (by decide) kont) ?_
    show own_Go p e below s _ _ _ (s₁.setTop (mkF m 11 #[.val (.int p1)] [(.int (-2147483648 : Int32))]))
    exact own_endI X0 hx hlk hret (hb hby own_d0_11) ⟨by rw [own_fix, if_pos c1], e0, rfl⟩ (by decide) (by decide)
  · show own_Go p e below s _ _ _ (s₁.setTop (mkF m 2 #[.val (.int p1)] [(.int (-1 : Int32)), (.int p1)]))
    refine own_st (fun _ kont => XS.icmpYes X0.here hx rfl (pc0 := 2) (pc' := 10) rfl (hb hby own_d0_2) rfl (feq c1).2 (by decide) (by decide) kont) ?_
    show own_Go p e below s _ _ _ (s₁.setTop (mkF m 10 #[.val (.int p1)] []))
    refine own_st (fun _ kont => XS.iloadN X0.here hx rfl (hb hby own_d0_10) rfl kont) ?_
    show own_Go p e below s _ _ _ (s₁.setTop (mkF m 11 #[.val (.int p1)] [(.int p1)]))
    exact own_endI X0 hx hlk hret (hb hby own_d0_11) ⟨by rw [own_fix, if_neg c1], e0, rfl⟩ (by decide) (by decide)
theorem own_d1_0 : decode method_4_code 0 = .ok (.iload_n 1, 1) := by decide +kernel
theorem own_d1_1 : decode method_4_code 1 = .ok (.iconst 1, 1) := by decide +kernel
theorem own_d1_2 : decode method_4_code 2 = .ok (.if_icmp .lt 10, 3) := by decide +kernel
theorem own_d1_5 : decode method_4_code 5 = .ok (.iload_n 0, 1) := by decide +kernel
theorem own_d1_6 : decode method_4_code 6 = .ok (.iload_n 2, 1) := by decide +kernel
theorem own_d1_7 : decode method_4_code 7 = .ok (.if_icmp .ne 5, 3) := by decide +kernel
theorem own_d1_10 : decode method_4_code 10 = .ok (.iconst 0, 1) := by decide +kernel
theorem own_d1_11 : decode method_4_code 11 = .ok (.ireturn, 1) := by decide +kernel
theorem own_d1_12 : decode method_4_code 12 = .ok (.iload_n 1, 1) := by decide +kernel
theorem own_d1_13 : decode method_4_code 13 = .ok (.iconst 2, 1) := by decide +kernel
theorem own_d1_14 : decode method_4_code 14 = .ok (.if_icmp .lt 10, 3) := by decide +kernel
theorem own_d1_17 : decode method_4_code 17 = .ok (.iload_n 0, 1) := by decide +kernel
theorem own_d1_18 : decode method_4_code 18 = .ok (.iload_n 3, 1) := by decide +kernel
theorem own_d1_19 : decode method_4_code 19 = .ok (.if_icmp .ne 5, 3) := by decide +kernel
theorem own_d1_22 : decode method_4_code 22 = .ok (.iconst 1, 1) := by decide +kernel
theorem own_d1_23 : decode method_4_code 23 = .ok (.ireturn, 1) := by decide +kernel
theorem own_d1_24 : decode method_4_code 24 = .ok (.iload_n 1, 1) := by decide +kernel
theorem own_d1_25 : decode method_4_code 25 = .ok (.iconst 3, 1) := by decide +kernel
theorem own_d1_26 : decode method_4_code 26 = .ok (.if_icmp .lt 20, 3) := by decide +kernel
theorem own_d1_29 : decode method_4_code 29 = .ok (.iload_n 0, 1) := by decide +kernel
theorem own_d1_30 : decode method_4_code 30 = .ok (.iload 4, 2) := by decide +kernel
theorem own_d1_32 : decode method_4_code 32 = .ok (.if_icmp .ne 14, 3) := by decide +kernel
theorem own_d1_35 : decode method_4_code 35 = .ok (.iload_n 2, 1) := by decide +kernel
theorem own_d1_36 : decode method_4_code 36 = .ok (.iload_n 3, 1) := by decide +kernel
theorem own_d1_37 : decode method_4_code 37 = .ok (.if_icmp .ne 7, 3) := by decide +kernel
theorem own_d1_40 : decode method_4_code 40 = .ok (.iconst 1, 1) := by decide +kernel
theorem own_d1_41 : decode method_4_code 41 = .ok (.goto 4, 3) := by decide +kernel
theorem own_d1_44 : decode method_4_code 44 = .ok (.iconst 2, 1) := by decide +kernel
theorem own_d1_45 : decode method_4_code 45 = .ok (.ireturn, 1) := by decide +kernel
theorem own_d1_46 : decode method_4_code 46 = .ok (.iconst (-1), 1) := by decide +kernel
theorem own_d1_47 : decode method_4_code 47 = .ok (.ireturn, 1) := by decide +kernel
theorem own_pn1 : plainFor (⟨"com/example/hop_gate/hopgate/UserIndexFindPinLaw", "expected", "(IIIII)I"⟩ : MethodName) = true := by first | exact plainFor_of_name (show plainName "com/example/hop_gate/hopgate/UserIndexFindPinLaw" = true by first | (simp [plainName, overriddenIn]; done) | decide +kernel) | decide +kernel
theorem own_ef1 (m : MethodId) (x0 : Int32) (x1 : Int32) (x2 : Int32) (x3 : Int32) (x4 : Int32) : entryFrame m #[(.int x0), (.int x1), (.int x2), (.int x3), (.int x4)] 5 = mkF m 0 #[.val (.int x0), .val (.int x1), .val (.int x2), .val (.int x3), .val (.int x4)] [] := by first | (simp [entryFrame, mkF, argsToLocals, Value.category]; done) | rfl
set_option maxRecDepth 65536 in
set_option maxHeartbeats 40000000 in
theorem own_rm2 (l : Launch) (Z : State) (a0 : Array Value) (hw : ∀ d ∈ tables_1, d.before a0 Z = true) (p1 p2 p3 p4 p5 : Int32) (h0 : Heap) (n0 : Nat) (Z0 : n0 ≤ h0.size)  :
    own_Met l Z (⟨"com/example/hop_gate/hopgate/UserIndexFindPinLaw", "expected", "(IIIII)I"⟩ : MethodName) method_4_code 5 (some .int) ({ frames := 0, cells := 0, slots := 0, locals := 0 } : Room) #[(.int p1), (.int p2), (.int p3), (.int p4), (.int p5)] h0 (fun v h' L => v = some (.int (own_ex p1 p2 p3 p4 p5)) ∧ h' = h0 ∧ L = []) := by
  refine own_in own_pn1 ?_
  intro p e s m below meth c s₁ hx hby hml hown hnm hlk hret hZ X0 e0
  have N0 := Fr.nil n0
  refine own_ef (own_ef1 m p1 p2 p3 p4 p5) ?_
  show own_Go p e below s _ _ _ (s₁.setTop (mkF m 0 #[.val (.int p1), .val (.int p2), .val (.int p3), .val (.int p4), .val (.int p5)] []))
  refine own_st (fun _ kont => XS.iloadN X0.here hx rfl (hb hby own_d1_0) rfl kont) ?_
  show own_Go p e below s _ _ _ (s₁.setTop (mkF m 1 #[.val (.int p1), .val (.int p2), .val (.int p3), .val (.int p4), .val (.int p5)] [(.int p2)]))
  refine own_st (fun _ kont => XS.iconst X0.here hx rfl (hb hby own_d1_1) kont) ?_
  show own_Go p e below s _ _ _ (s₁.setTop (mkF m 2 #[.val (.int p1), .val (.int p2), .val (.int p3), .val (.int p4), .val (.int p5)] [(.int (1 : Int32)), (.int p2)]))
  rcases Classical.em (p2 < (1 : Int32)) with cc1 | cc1
  · show own_Go p e below s _ _ _ (s₁.setTop (mkF m 2 #[.val (.int p1), .val (.int p2), .val (.int p3), .val (.int p4), .val (.int p5)] [(.int (1 : Int32)), (.int p2)]))
    refine own_st (fun _ kont => XS.icmpYes X0.here hx rfl (pc0 := 2) (pc' := 12) rfl (hb hby own_d1_2) rfl (tlt cc1).1 (by decide) (by decide) kont) ?_
    show own_Go p e below s _ _ _ (s₁.setTop (mkF m 12 #[.val (.int p1), .val (.int p2), .val (.int p3), .val (.int p4), .val (.int p5)] []))
    refine own_st (fun _ kont => XS.iloadN X0.here hx rfl (hb hby own_d1_12) rfl kont) ?_
    show own_Go p e below s _ _ _ (s₁.setTop (mkF m 13 #[.val (.int p1), .val (.int p2), .val (.int p3), .val (.int p4), .val (.int p5)] [(.int p2)]))
    refine own_st (fun _ kont => XS.iconst X0.here hx rfl (hb hby own_d1_13) kont) ?_
    show own_Go p e below s _ _ _ (s₁.setTop (mkF m 14 #[.val (.int p1), .val (.int p2), .val (.int p3), .val (.int p4), .val (.int p5)] [(.int (2 : Int32)), (.int p2)]))
    rcases Classical.em (p2 < (2 : Int32)) with cc2 | cc2
    · show own_Go p e below s _ _ _ (s₁.setTop (mkF m 14 #[.val (.int p1), .val (.int p2), .val (.int p3), .val (.int p4), .val (.int p5)] [(.int (2 : Int32)), (.int p2)]))
      refine own_st (fun _ kont => XS.icmpYes X0.here hx rfl (pc0 := 14) (pc' := 24) rfl (hb hby own_d1_14) rfl (tlt cc2).1 (by decide) (by decide) kont) ?_
      show own_Go p e below s _ _ _ (s₁.setTop (mkF m 24 #[.val (.int p1), .val (.int p2), .val (.int p3), .val (.int p4), .val (.int p5)] []))
      refine own_st (fun _ kont => XS.iloadN X0.here hx rfl (hb hby own_d1_24) rfl kont) ?_
      show own_Go p e below s _ _ _ (s₁.setTop (mkF m 25 #[.val (.int p1), .val (.int p2), .val (.int p3), .val (.int p4), .val (.int p5)] [(.int p2)]))
      refine own_st (fun _ kont => XS.iconst X0.here hx rfl (hb hby own_d1_25) kont) ?_
      show own_Go p e below s _ _ _ (s₁.setTop (mkF m 26 #[.val (.int p1), .val (.int p2), .val (.int p3), .val (.int p4), .val (.int p5)] [(.int (3 : Int32)), (.int p2)]))
      rcases Classical.em (p2 < (3 : Int32)) with cc3 | cc3
      · show own_Go p e below s _ _ _ (s₁.setTop (mkF m 26 #[.val (.int p1), .val (.int p2), .val (.int p3), .val (.int p4), .val (.int p5)] [(.int (3 : Int32)), (.int p2)]))
        refine own_st (fun _ kont => XS.icmpYes X0.here hx rfl (pc0 := 26) (pc' := 46) rfl (hb hby own_d1_26) rfl (tlt cc3).1 (by decide) (by decide) kont) ?_
        show own_Go p e below s _ _ _ (s₁.setTop (mkF m 46 #[.val (.int p1), .val (.int p2), .val (.int p3), .val (.int p4), .val (.int p5)] []))
        refine own_st (fun _ kont => XS.iconst X0.here hx rfl (hb hby own_d1_46) kont) ?_
        show own_Go p e below s _ _ _ (s₁.setTop (mkF m 47 #[.val (.int p1), .val (.int p2), .val (.int p3), .val (.int p4), .val (.int p5)] [(.int (-1 : Int32))]))
        exact own_endI X0 hx hlk hret (hb hby own_d1_47) ⟨by simp only [own_ex, own_e2, own_e3, if_pos cc1, if_pos cc2, if_pos cc3], e0, rfl⟩ (by decide) (by decide)
      · show own_Go p e below s _ _ _ (s₁.setTop (mkF m 26 #[.val (.int p1), .val (.int p2), .val (.int p3), .val (.int p4), .val (.int p5)] [(.int (3 : Int32)), (.int p2)]))
        refine own_st (fun _ kont => XS.icmpNo X0.here hx rfl (hb hby own_d1_26) rfl (flt cc3).1 kont) ?_
        show own_Go p e below s _ _ _ (s₁.setTop (mkF m 29 #[.val (.int p1), .val (.int p2), .val (.int p3), .val (.int p4), .val (.int p5)] []))
        refine own_st (fun _ kont => XS.iloadN X0.here hx rfl (hb hby own_d1_29) rfl kont) ?_
        show own_Go p e below s _ _ _ (s₁.setTop (mkF m 30 #[.val (.int p1), .val (.int p2), .val (.int p3), .val (.int p4), .val (.int p5)] [(.int p1)]))
        refine own_st (fun _ kont => XS.iload X0.here hx rfl (hb hby own_d1_30) rfl kont) ?_
        show own_Go p e below s _ _ _ (s₁.setTop (mkF m 32 #[.val (.int p1), .val (.int p2), .val (.int p3), .val (.int p4), .val (.int p5)] [(.int p5), (.int p1)]))
        rcases Classical.em (p1 = p5) with cc4 | cc4
        · show own_Go p e below s _ _ _ (s₁.setTop (mkF m 32 #[.val (.int p1), .val (.int p2), .val (.int p3), .val (.int p4), .val (.int p5)] [(.int p5), (.int p1)]))
          refine own_st (fun _ kont => XS.icmpNo X0.here hx rfl (hb hby own_d1_32) rfl (teq cc4).2 kont) ?_
          show own_Go p e below s _ _ _ (s₁.setTop (mkF m 35 #[.val (.int p1), .val (.int p2), .val (.int p3), .val (.int p4), .val (.int p5)] []))
          refine own_st (fun _ kont => XS.iloadN X0.here hx rfl (hb hby own_d1_35) rfl kont) ?_
          show own_Go p e below s _ _ _ (s₁.setTop (mkF m 36 #[.val (.int p1), .val (.int p2), .val (.int p3), .val (.int p4), .val (.int p5)] [(.int p3)]))
          refine own_st (fun _ kont => XS.iloadN X0.here hx rfl (hb hby own_d1_36) rfl kont) ?_
          show own_Go p e below s _ _ _ (s₁.setTop (mkF m 37 #[.val (.int p1), .val (.int p2), .val (.int p3), .val (.int p4), .val (.int p5)] [(.int p4), (.int p3)]))
          rcases Classical.em (p3 = p4) with cc5 | cc5
          · show own_Go p e below s _ _ _ (s₁.setTop (mkF m 37 #[.val (.int p1), .val (.int p2), .val (.int p3), .val (.int p4), .val (.int p5)] [(.int p4), (.int p3)]))
            refine own_st (fun _ kont => XS.icmpNo X0.here hx rfl (hb hby own_d1_37) rfl (teq cc5).2 kont) ?_
            show own_Go p e below s _ _ _ (s₁.setTop (mkF m 40 #[.val (.int p1), .val (.int p2), .val (.int p3), .val (.int p4), .val (.int p5)] []))
            refine own_st (fun _ kont => XS.iconst X0.here hx rfl (hb hby own_d1_40) kont) ?_
            show own_Go p e below s _ _ _ (s₁.setTop (mkF m 41 #[.val (.int p1), .val (.int p2), .val (.int p3), .val (.int p4), .val (.int p5)] [(.int (1 : Int32))]))
            refine own_st (fun _ kont => XS.goto X0.here hx rfl (pc0 := 41) (pc' := 45) rfl (hb hby own_d1_41) (by decide) (by decide) kont) ?_
            show own_Go p e below s _ _ _ (s₁.setTop (mkF m 45 #[.val (.int p1), .val (.int p2), .val (.int p3), .val (.int p4), .val (.int p5)] [(.int (1 : Int32))]))
            exact own_endI X0 hx hlk hret (hb hby own_d1_45) ⟨by simp only [own_ex, own_e2, own_e3, if_pos cc1, if_pos cc2, if_neg cc3, if_pos cc4, if_pos cc5], e0, rfl⟩ (by decide) (by decide)
          · show own_Go p e below s _ _ _ (s₁.setTop (mkF m 37 #[.val (.int p1), .val (.int p2), .val (.int p3), .val (.int p4), .val (.int p5)] [(.int p4), (.int p3)]))
            refine own_st (fun _ kont => XS.icmpYes X0.here hx rfl (pc0 := 37) (pc' := 44) rfl (hb hby own_d1_37) rfl (feq cc5).2 (by decide) (by decide) kont) ?_
            show own_Go p e below s _ _ _ (s₁.setTop (mkF m 44 #[.val (.int p1), .val (.int p2), .val (.int p3), .val (.int p4), .val (.int p5)] []))
            refine own_st (fun _ kont => XS.iconst X0.here hx rfl (hb hby own_d1_44) kont) ?_
            show own_Go p e below s _ _ _ (s₁.setTop (mkF m 45 #[.val (.int p1), .val (.int p2), .val (.int p3), .val (.int p4), .val (.int p5)] [(.int (2 : Int32))]))
            exact own_endI X0 hx hlk hret (hb hby own_d1_45) ⟨by simp only [own_ex, own_e2, own_e3, if_pos cc1, if_pos cc2, if_neg cc3, if_pos cc4, if_neg cc5], e0, rfl⟩ (by decide) (by decide)
        · show own_Go p e below s _ _ _ (s₁.setTop (mkF m 32 #[.val (.int p1), .val (.int p2), .val (.int p3), .val (.int p4), .val (.int p5)] [(.int p5), (.int p1)]))
          refine own_st (fun _ kont => XS.icmpYes X0.here hx rfl (pc0 := 32) (pc' := 46) rfl (hb hby own_d1_32) rfl (feq cc4).2 (by decide) (by decide) kont) ?_
          show own_Go p e below s _ _ _ (s₁.setTop (mkF m 46 #[.val (.int p1), .val (.int p2), .val (.int p3), .val (.int p4), .val (.int p5)] []))
          refine own_st (fun _ kont => XS.iconst X0.here hx rfl (hb hby own_d1_46) kont) ?_
          show own_Go p e below s _ _ _ (s₁.setTop (mkF m 47 #[.val (.int p1), .val (.int p2), .val (.int p3), .val (.int p4), .val (.int p5)] [(.int (-1 : Int32))]))
          exact own_endI X0 hx hlk hret (hb hby own_d1_47) ⟨by simp only [own_ex, own_e2, own_e3, if_pos cc1, if_pos cc2, if_neg cc3, if_neg cc4], e0, rfl⟩ (by decide) (by decide)
    · show own_Go p e below s _ _ _ (s₁.setTop (mkF m 14 #[.val (.int p1), .val (.int p2), .val (.int p3), .val (.int p4), .val (.int p5)] [(.int (2 : Int32)), (.int p2)]))
      refine own_st (fun _ kont => XS.icmpNo X0.here hx rfl (hb hby own_d1_14) rfl (flt cc2).1 kont) ?_
      show own_Go p e below s _ _ _ (s₁.setTop (mkF m 17 #[.val (.int p1), .val (.int p2), .val (.int p3), .val (.int p4), .val (.int p5)] []))
      refine own_st (fun _ kont => XS.iloadN X0.here hx rfl (hb hby own_d1_17) rfl kont) ?_
      show own_Go p e below s _ _ _ (s₁.setTop (mkF m 18 #[.val (.int p1), .val (.int p2), .val (.int p3), .val (.int p4), .val (.int p5)] [(.int p1)]))
      refine own_st (fun _ kont => XS.iloadN X0.here hx rfl (hb hby own_d1_18) rfl kont) ?_
      show own_Go p e below s _ _ _ (s₁.setTop (mkF m 19 #[.val (.int p1), .val (.int p2), .val (.int p3), .val (.int p4), .val (.int p5)] [(.int p4), (.int p1)]))
      rcases Classical.em (p1 = p4) with cc6 | cc6
      · show own_Go p e below s _ _ _ (s₁.setTop (mkF m 19 #[.val (.int p1), .val (.int p2), .val (.int p3), .val (.int p4), .val (.int p5)] [(.int p4), (.int p1)]))
        refine own_st (fun _ kont => XS.icmpNo X0.here hx rfl (hb hby own_d1_19) rfl (teq cc6).2 kont) ?_
        show own_Go p e below s _ _ _ (s₁.setTop (mkF m 22 #[.val (.int p1), .val (.int p2), .val (.int p3), .val (.int p4), .val (.int p5)] []))
        refine own_st (fun _ kont => XS.iconst X0.here hx rfl (hb hby own_d1_22) kont) ?_
        show own_Go p e below s _ _ _ (s₁.setTop (mkF m 23 #[.val (.int p1), .val (.int p2), .val (.int p3), .val (.int p4), .val (.int p5)] [(.int (1 : Int32))]))
        exact own_endI X0 hx hlk hret (hb hby own_d1_23) ⟨by simp only [own_ex, own_e2, own_e3, if_pos cc1, if_neg cc2, if_pos cc6], e0, rfl⟩ (by decide) (by decide)
      · show own_Go p e below s _ _ _ (s₁.setTop (mkF m 19 #[.val (.int p1), .val (.int p2), .val (.int p3), .val (.int p4), .val (.int p5)] [(.int p4), (.int p1)]))
        refine own_st (fun _ kont => XS.icmpYes X0.here hx rfl (pc0 := 19) (pc' := 24) rfl (hb hby own_d1_19) rfl (feq cc6).2 (by decide) (by decide) kont) ?_
        show own_Go p e below s _ _ _ (s₁.setTop (mkF m 24 #[.val (.int p1), .val (.int p2), .val (.int p3), .val (.int p4), .val (.int p5)] []))
        refine own_st (fun _ kont => XS.iloadN X0.here hx rfl (hb hby own_d1_24) rfl kont) ?_
        show own_Go p e below s _ _ _ (s₁.setTop (mkF m 25 #[.val (.int p1), .val (.int p2), .val (.int p3), .val (.int p4), .val (.int p5)] [(.int p2)]))
        refine own_st (fun _ kont => XS.iconst X0.here hx rfl (hb hby own_d1_25) kont) ?_
        show own_Go p e below s _ _ _ (s₁.setTop (mkF m 26 #[.val (.int p1), .val (.int p2), .val (.int p3), .val (.int p4), .val (.int p5)] [(.int (3 : Int32)), (.int p2)]))
        rcases Classical.em (p2 < (3 : Int32)) with cc7 | cc7
        · show own_Go p e below s _ _ _ (s₁.setTop (mkF m 26 #[.val (.int p1), .val (.int p2), .val (.int p3), .val (.int p4), .val (.int p5)] [(.int (3 : Int32)), (.int p2)]))
          refine own_st (fun _ kont => XS.icmpYes X0.here hx rfl (pc0 := 26) (pc' := 46) rfl (hb hby own_d1_26) rfl (tlt cc7).1 (by decide) (by decide) kont) ?_
          show own_Go p e below s _ _ _ (s₁.setTop (mkF m 46 #[.val (.int p1), .val (.int p2), .val (.int p3), .val (.int p4), .val (.int p5)] []))
          refine own_st (fun _ kont => XS.iconst X0.here hx rfl (hb hby own_d1_46) kont) ?_
          show own_Go p e below s _ _ _ (s₁.setTop (mkF m 47 #[.val (.int p1), .val (.int p2), .val (.int p3), .val (.int p4), .val (.int p5)] [(.int (-1 : Int32))]))
          exact own_endI X0 hx hlk hret (hb hby own_d1_47) ⟨by simp only [own_ex, own_e2, own_e3, if_pos cc1, if_neg cc2, if_neg cc6, if_pos cc7], e0, rfl⟩ (by decide) (by decide)
        · show own_Go p e below s _ _ _ (s₁.setTop (mkF m 26 #[.val (.int p1), .val (.int p2), .val (.int p3), .val (.int p4), .val (.int p5)] [(.int (3 : Int32)), (.int p2)]))
          refine own_st (fun _ kont => XS.icmpNo X0.here hx rfl (hb hby own_d1_26) rfl (flt cc7).1 kont) ?_
          show own_Go p e below s _ _ _ (s₁.setTop (mkF m 29 #[.val (.int p1), .val (.int p2), .val (.int p3), .val (.int p4), .val (.int p5)] []))
          refine own_st (fun _ kont => XS.iloadN X0.here hx rfl (hb hby own_d1_29) rfl kont) ?_
          show own_Go p e below s _ _ _ (s₁.setTop (mkF m 30 #[.val (.int p1), .val (.int p2), .val (.int p3), .val (.int p4), .val (.int p5)] [(.int p1)]))
          refine own_st (fun _ kont => XS.iload X0.here hx rfl (hb hby own_d1_30) rfl kont) ?_
          show own_Go p e below s _ _ _ (s₁.setTop (mkF m 32 #[.val (.int p1), .val (.int p2), .val (.int p3), .val (.int p4), .val (.int p5)] [(.int p5), (.int p1)]))
          rcases Classical.em (p1 = p5) with cc8 | cc8
          · show own_Go p e below s _ _ _ (s₁.setTop (mkF m 32 #[.val (.int p1), .val (.int p2), .val (.int p3), .val (.int p4), .val (.int p5)] [(.int p5), (.int p1)]))
            refine own_st (fun _ kont => XS.icmpNo X0.here hx rfl (hb hby own_d1_32) rfl (teq cc8).2 kont) ?_
            show own_Go p e below s _ _ _ (s₁.setTop (mkF m 35 #[.val (.int p1), .val (.int p2), .val (.int p3), .val (.int p4), .val (.int p5)] []))
            refine own_st (fun _ kont => XS.iloadN X0.here hx rfl (hb hby own_d1_35) rfl kont) ?_
            show own_Go p e below s _ _ _ (s₁.setTop (mkF m 36 #[.val (.int p1), .val (.int p2), .val (.int p3), .val (.int p4), .val (.int p5)] [(.int p3)]))
            refine own_st (fun _ kont => XS.iloadN X0.here hx rfl (hb hby own_d1_36) rfl kont) ?_
            show own_Go p e below s _ _ _ (s₁.setTop (mkF m 37 #[.val (.int p1), .val (.int p2), .val (.int p3), .val (.int p4), .val (.int p5)] [(.int p4), (.int p3)]))
            rcases Classical.em (p3 = p4) with cc9 | cc9
            · show own_Go p e below s _ _ _ (s₁.setTop (mkF m 37 #[.val (.int p1), .val (.int p2), .val (.int p3), .val (.int p4), .val (.int p5)] [(.int p4), (.int p3)]))
              refine own_st (fun _ kont => XS.icmpNo X0.here hx rfl (hb hby own_d1_37) rfl (teq cc9).2 kont) ?_
              show own_Go p e below s _ _ _ (s₁.setTop (mkF m 40 #[.val (.int p1), .val (.int p2), .val (.int p3), .val (.int p4), .val (.int p5)] []))
              refine own_st (fun _ kont => XS.iconst X0.here hx rfl (hb hby own_d1_40) kont) ?_
              show own_Go p e below s _ _ _ (s₁.setTop (mkF m 41 #[.val (.int p1), .val (.int p2), .val (.int p3), .val (.int p4), .val (.int p5)] [(.int (1 : Int32))]))
              refine own_st (fun _ kont => XS.goto X0.here hx rfl (pc0 := 41) (pc' := 45) rfl (hb hby own_d1_41) (by decide) (by decide) kont) ?_
              show own_Go p e below s _ _ _ (s₁.setTop (mkF m 45 #[.val (.int p1), .val (.int p2), .val (.int p3), .val (.int p4), .val (.int p5)] [(.int (1 : Int32))]))
              exact own_endI X0 hx hlk hret (hb hby own_d1_45) ⟨by simp only [own_ex, own_e2, own_e3, if_pos cc1, if_neg cc2, if_neg cc6, if_neg cc7, if_pos cc8, if_pos cc9], e0, rfl⟩ (by decide) (by decide)
            · show own_Go p e below s _ _ _ (s₁.setTop (mkF m 37 #[.val (.int p1), .val (.int p2), .val (.int p3), .val (.int p4), .val (.int p5)] [(.int p4), (.int p3)]))
              refine own_st (fun _ kont => XS.icmpYes X0.here hx rfl (pc0 := 37) (pc' := 44) rfl (hb hby own_d1_37) rfl (feq cc9).2 (by decide) (by decide) kont) ?_
              show own_Go p e below s _ _ _ (s₁.setTop (mkF m 44 #[.val (.int p1), .val (.int p2), .val (.int p3), .val (.int p4), .val (.int p5)] []))
              refine own_st (fun _ kont => XS.iconst X0.here hx rfl (hb hby own_d1_44) kont) ?_
              show own_Go p e below s _ _ _ (s₁.setTop (mkF m 45 #[.val (.int p1), .val (.int p2), .val (.int p3), .val (.int p4), .val (.int p5)] [(.int (2 : Int32))]))
              exact own_endI X0 hx hlk hret (hb hby own_d1_45) ⟨by simp only [own_ex, own_e2, own_e3, if_pos cc1, if_neg cc2, if_neg cc6, if_neg cc7, if_pos cc8, if_neg cc9], e0, rfl⟩ (by decide) (by decide)
          · show own_Go p e below s _ _ _ (s₁.setTop (mkF m 32 #[.val (.int p1), .val (.int p2), .val (.int p3), .val (.int p4), .val (.int p5)] [(.int p5), (.int p1)]))
            refine own_st (fun _ kont => XS.icmpYes X0.here hx rfl (pc0 := 32) (pc' := 46) rfl (hb hby own_d1_32) rfl (feq cc8).2 (by decide) (by decide) kont) ?_
            show own_Go p e below s _ _ _ (s₁.setTop (mkF m 46 #[.val (.int p1), .val (.int p2), .val (.int p3), .val (.int p4), .val (.int p5)] []))
            refine own_st (fun _ kont => XS.iconst X0.here hx rfl (hb hby own_d1_46) kont) ?_
            show own_Go p e below s _ _ _ (s₁.setTop (mkF m 47 #[.val (.int p1), .val (.int p2), .val (.int p3), .val (.int p4), .val (.int p5)] [(.int (-1 : Int32))]))
            exact own_endI X0 hx hlk hret (hb hby own_d1_47) ⟨by simp only [own_ex, own_e2, own_e3, if_pos cc1, if_neg cc2, if_neg cc6, if_neg cc7, if_neg cc8], e0, rfl⟩ (by decide) (by decide)
  · show own_Go p e below s _ _ _ (s₁.setTop (mkF m 2 #[.val (.int p1), .val (.int p2), .val (.int p3), .val (.int p4), .val (.int p5)] [(.int (1 : Int32)), (.int p2)]))
    refine own_st (fun _ kont => XS.icmpNo X0.here hx rfl (hb hby own_d1_2) rfl (flt cc1).1 kont) ?_
    show own_Go p e below s _ _ _ (s₁.setTop (mkF m 5 #[.val (.int p1), .val (.int p2), .val (.int p3), .val (.int p4), .val (.int p5)] []))
    refine own_st (fun _ kont => XS.iloadN X0.here hx rfl (hb hby own_d1_5) rfl kont) ?_
    show own_Go p e below s _ _ _ (s₁.setTop (mkF m 6 #[.val (.int p1), .val (.int p2), .val (.int p3), .val (.int p4), .val (.int p5)] [(.int p1)]))
    refine own_st (fun _ kont => XS.iloadN X0.here hx rfl (hb hby own_d1_6) rfl kont) ?_
    show own_Go p e below s _ _ _ (s₁.setTop (mkF m 7 #[.val (.int p1), .val (.int p2), .val (.int p3), .val (.int p4), .val (.int p5)] [(.int p3), (.int p1)]))
    rcases Classical.em (p1 = p3) with cc10 | cc10
    · show own_Go p e below s _ _ _ (s₁.setTop (mkF m 7 #[.val (.int p1), .val (.int p2), .val (.int p3), .val (.int p4), .val (.int p5)] [(.int p3), (.int p1)]))
      refine own_st (fun _ kont => XS.icmpNo X0.here hx rfl (hb hby own_d1_7) rfl (teq cc10).2 kont) ?_
      show own_Go p e below s _ _ _ (s₁.setTop (mkF m 10 #[.val (.int p1), .val (.int p2), .val (.int p3), .val (.int p4), .val (.int p5)] []))
      refine own_st (fun _ kont => XS.iconst X0.here hx rfl (hb hby own_d1_10) kont) ?_
      show own_Go p e below s _ _ _ (s₁.setTop (mkF m 11 #[.val (.int p1), .val (.int p2), .val (.int p3), .val (.int p4), .val (.int p5)] [(.int (0 : Int32))]))
      exact own_endI X0 hx hlk hret (hb hby own_d1_11) ⟨by simp only [own_ex, own_e2, own_e3, if_neg cc1, if_pos cc10], e0, rfl⟩ (by decide) (by decide)
    · show own_Go p e below s _ _ _ (s₁.setTop (mkF m 7 #[.val (.int p1), .val (.int p2), .val (.int p3), .val (.int p4), .val (.int p5)] [(.int p3), (.int p1)]))
      refine own_st (fun _ kont => XS.icmpYes X0.here hx rfl (pc0 := 7) (pc' := 12) rfl (hb hby own_d1_7) rfl (feq cc10).2 (by decide) (by decide) kont) ?_
      show own_Go p e below s _ _ _ (s₁.setTop (mkF m 12 #[.val (.int p1), .val (.int p2), .val (.int p3), .val (.int p4), .val (.int p5)] []))
      refine own_st (fun _ kont => XS.iloadN X0.here hx rfl (hb hby own_d1_12) rfl kont) ?_
      show own_Go p e below s _ _ _ (s₁.setTop (mkF m 13 #[.val (.int p1), .val (.int p2), .val (.int p3), .val (.int p4), .val (.int p5)] [(.int p2)]))
      refine own_st (fun _ kont => XS.iconst X0.here hx rfl (hb hby own_d1_13) kont) ?_
      show own_Go p e below s _ _ _ (s₁.setTop (mkF m 14 #[.val (.int p1), .val (.int p2), .val (.int p3), .val (.int p4), .val (.int p5)] [(.int (2 : Int32)), (.int p2)]))
      rcases Classical.em (p2 < (2 : Int32)) with cc11 | cc11
      · show own_Go p e below s _ _ _ (s₁.setTop (mkF m 14 #[.val (.int p1), .val (.int p2), .val (.int p3), .val (.int p4), .val (.int p5)] [(.int (2 : Int32)), (.int p2)]))
        refine own_st (fun _ kont => XS.icmpYes X0.here hx rfl (pc0 := 14) (pc' := 24) rfl (hb hby own_d1_14) rfl (tlt cc11).1 (by decide) (by decide) kont) ?_
        show own_Go p e below s _ _ _ (s₁.setTop (mkF m 24 #[.val (.int p1), .val (.int p2), .val (.int p3), .val (.int p4), .val (.int p5)] []))
        refine own_st (fun _ kont => XS.iloadN X0.here hx rfl (hb hby own_d1_24) rfl kont) ?_
        show own_Go p e below s _ _ _ (s₁.setTop (mkF m 25 #[.val (.int p1), .val (.int p2), .val (.int p3), .val (.int p4), .val (.int p5)] [(.int p2)]))
        refine own_st (fun _ kont => XS.iconst X0.here hx rfl (hb hby own_d1_25) kont) ?_
        show own_Go p e below s _ _ _ (s₁.setTop (mkF m 26 #[.val (.int p1), .val (.int p2), .val (.int p3), .val (.int p4), .val (.int p5)] [(.int (3 : Int32)), (.int p2)]))
        rcases Classical.em (p2 < (3 : Int32)) with cc12 | cc12
        · show own_Go p e below s _ _ _ (s₁.setTop (mkF m 26 #[.val (.int p1), .val (.int p2), .val (.int p3), .val (.int p4), .val (.int p5)] [(.int (3 : Int32)), (.int p2)]))
          refine own_st (fun _ kont => XS.icmpYes X0.here hx rfl (pc0 := 26) (pc' := 46) rfl (hb hby own_d1_26) rfl (tlt cc12).1 (by decide) (by decide) kont) ?_
          show own_Go p e below s _ _ _ (s₁.setTop (mkF m 46 #[.val (.int p1), .val (.int p2), .val (.int p3), .val (.int p4), .val (.int p5)] []))
          refine own_st (fun _ kont => XS.iconst X0.here hx rfl (hb hby own_d1_46) kont) ?_
          show own_Go p e below s _ _ _ (s₁.setTop (mkF m 47 #[.val (.int p1), .val (.int p2), .val (.int p3), .val (.int p4), .val (.int p5)] [(.int (-1 : Int32))]))
          exact own_endI X0 hx hlk hret (hb hby own_d1_47) ⟨by simp only [own_ex, own_e2, own_e3, if_neg cc1, if_neg cc10, if_pos cc11, if_pos cc12], e0, rfl⟩ (by decide) (by decide)
        · show own_Go p e below s _ _ _ (s₁.setTop (mkF m 26 #[.val (.int p1), .val (.int p2), .val (.int p3), .val (.int p4), .val (.int p5)] [(.int (3 : Int32)), (.int p2)]))
          refine own_st (fun _ kont => XS.icmpNo X0.here hx rfl (hb hby own_d1_26) rfl (flt cc12).1 kont) ?_
          show own_Go p e below s _ _ _ (s₁.setTop (mkF m 29 #[.val (.int p1), .val (.int p2), .val (.int p3), .val (.int p4), .val (.int p5)] []))
          refine own_st (fun _ kont => XS.iloadN X0.here hx rfl (hb hby own_d1_29) rfl kont) ?_
          show own_Go p e below s _ _ _ (s₁.setTop (mkF m 30 #[.val (.int p1), .val (.int p2), .val (.int p3), .val (.int p4), .val (.int p5)] [(.int p1)]))
          refine own_st (fun _ kont => XS.iload X0.here hx rfl (hb hby own_d1_30) rfl kont) ?_
          show own_Go p e below s _ _ _ (s₁.setTop (mkF m 32 #[.val (.int p1), .val (.int p2), .val (.int p3), .val (.int p4), .val (.int p5)] [(.int p5), (.int p1)]))
          rcases Classical.em (p1 = p5) with cc13 | cc13
          · show own_Go p e below s _ _ _ (s₁.setTop (mkF m 32 #[.val (.int p1), .val (.int p2), .val (.int p3), .val (.int p4), .val (.int p5)] [(.int p5), (.int p1)]))
            refine own_st (fun _ kont => XS.icmpNo X0.here hx rfl (hb hby own_d1_32) rfl (teq cc13).2 kont) ?_
            show own_Go p e below s _ _ _ (s₁.setTop (mkF m 35 #[.val (.int p1), .val (.int p2), .val (.int p3), .val (.int p4), .val (.int p5)] []))
            refine own_st (fun _ kont => XS.iloadN X0.here hx rfl (hb hby own_d1_35) rfl kont) ?_
            show own_Go p e below s _ _ _ (s₁.setTop (mkF m 36 #[.val (.int p1), .val (.int p2), .val (.int p3), .val (.int p4), .val (.int p5)] [(.int p3)]))
            refine own_st (fun _ kont => XS.iloadN X0.here hx rfl (hb hby own_d1_36) rfl kont) ?_
            show own_Go p e below s _ _ _ (s₁.setTop (mkF m 37 #[.val (.int p1), .val (.int p2), .val (.int p3), .val (.int p4), .val (.int p5)] [(.int p4), (.int p3)]))
            rcases Classical.em (p3 = p4) with cc14 | cc14
            · show own_Go p e below s _ _ _ (s₁.setTop (mkF m 37 #[.val (.int p1), .val (.int p2), .val (.int p3), .val (.int p4), .val (.int p5)] [(.int p4), (.int p3)]))
              refine own_st (fun _ kont => XS.icmpNo X0.here hx rfl (hb hby own_d1_37) rfl (teq cc14).2 kont) ?_
              show own_Go p e below s _ _ _ (s₁.setTop (mkF m 40 #[.val (.int p1), .val (.int p2), .val (.int p3), .val (.int p4), .val (.int p5)] []))
              refine own_st (fun _ kont => XS.iconst X0.here hx rfl (hb hby own_d1_40) kont) ?_
              show own_Go p e below s _ _ _ (s₁.setTop (mkF m 41 #[.val (.int p1), .val (.int p2), .val (.int p3), .val (.int p4), .val (.int p5)] [(.int (1 : Int32))]))
              refine own_st (fun _ kont => XS.goto X0.here hx rfl (pc0 := 41) (pc' := 45) rfl (hb hby own_d1_41) (by decide) (by decide) kont) ?_
              show own_Go p e below s _ _ _ (s₁.setTop (mkF m 45 #[.val (.int p1), .val (.int p2), .val (.int p3), .val (.int p4), .val (.int p5)] [(.int (1 : Int32))]))
              exact own_endI X0 hx hlk hret (hb hby own_d1_45) ⟨by simp only [own_ex, own_e2, own_e3, if_neg cc1, if_neg cc10, if_pos cc11, if_neg cc12, if_pos cc13, if_pos cc14], e0, rfl⟩ (by decide) (by decide)
            · show own_Go p e below s _ _ _ (s₁.setTop (mkF m 37 #[.val (.int p1), .val (.int p2), .val (.int p3), .val (.int p4), .val (.int p5)] [(.int p4), (.int p3)]))
              refine own_st (fun _ kont => XS.icmpYes X0.here hx rfl (pc0 := 37) (pc' := 44) rfl (hb hby own_d1_37) rfl (feq cc14).2 (by decide) (by decide) kont) ?_
              show own_Go p e below s _ _ _ (s₁.setTop (mkF m 44 #[.val (.int p1), .val (.int p2), .val (.int p3), .val (.int p4), .val (.int p5)] []))
              refine own_st (fun _ kont => XS.iconst X0.here hx rfl (hb hby own_d1_44) kont) ?_
              show own_Go p e below s _ _ _ (s₁.setTop (mkF m 45 #[.val (.int p1), .val (.int p2), .val (.int p3), .val (.int p4), .val (.int p5)] [(.int (2 : Int32))]))
              exact own_endI X0 hx hlk hret (hb hby own_d1_45) ⟨by simp only [own_ex, own_e2, own_e3, if_neg cc1, if_neg cc10, if_pos cc11, if_neg cc12, if_pos cc13, if_neg cc14], e0, rfl⟩ (by decide) (by decide)
          · show own_Go p e below s _ _ _ (s₁.setTop (mkF m 32 #[.val (.int p1), .val (.int p2), .val (.int p3), .val (.int p4), .val (.int p5)] [(.int p5), (.int p1)]))
            refine own_st (fun _ kont => XS.icmpYes X0.here hx rfl (pc0 := 32) (pc' := 46) rfl (hb hby own_d1_32) rfl (feq cc13).2 (by decide) (by decide) kont) ?_
            show own_Go p e below s _ _ _ (s₁.setTop (mkF m 46 #[.val (.int p1), .val (.int p2), .val (.int p3), .val (.int p4), .val (.int p5)] []))
            refine own_st (fun _ kont => XS.iconst X0.here hx rfl (hb hby own_d1_46) kont) ?_
            show own_Go p e below s _ _ _ (s₁.setTop (mkF m 47 #[.val (.int p1), .val (.int p2), .val (.int p3), .val (.int p4), .val (.int p5)] [(.int (-1 : Int32))]))
            exact own_endI X0 hx hlk hret (hb hby own_d1_47) ⟨by simp only [own_ex, own_e2, own_e3, if_neg cc1, if_neg cc10, if_pos cc11, if_neg cc12, if_neg cc13], e0, rfl⟩ (by decide) (by decide)
      · show own_Go p e below s _ _ _ (s₁.setTop (mkF m 14 #[.val (.int p1), .val (.int p2), .val (.int p3), .val (.int p4), .val (.int p5)] [(.int (2 : Int32)), (.int p2)]))
        refine own_st (fun _ kont => XS.icmpNo X0.here hx rfl (hb hby own_d1_14) rfl (flt cc11).1 kont) ?_
        show own_Go p e below s _ _ _ (s₁.setTop (mkF m 17 #[.val (.int p1), .val (.int p2), .val (.int p3), .val (.int p4), .val (.int p5)] []))
        refine own_st (fun _ kont => XS.iloadN X0.here hx rfl (hb hby own_d1_17) rfl kont) ?_
        show own_Go p e below s _ _ _ (s₁.setTop (mkF m 18 #[.val (.int p1), .val (.int p2), .val (.int p3), .val (.int p4), .val (.int p5)] [(.int p1)]))
        refine own_st (fun _ kont => XS.iloadN X0.here hx rfl (hb hby own_d1_18) rfl kont) ?_
        show own_Go p e below s _ _ _ (s₁.setTop (mkF m 19 #[.val (.int p1), .val (.int p2), .val (.int p3), .val (.int p4), .val (.int p5)] [(.int p4), (.int p1)]))
        rcases Classical.em (p1 = p4) with cc15 | cc15
        · show own_Go p e below s _ _ _ (s₁.setTop (mkF m 19 #[.val (.int p1), .val (.int p2), .val (.int p3), .val (.int p4), .val (.int p5)] [(.int p4), (.int p1)]))
          refine own_st (fun _ kont => XS.icmpNo X0.here hx rfl (hb hby own_d1_19) rfl (teq cc15).2 kont) ?_
          show own_Go p e below s _ _ _ (s₁.setTop (mkF m 22 #[.val (.int p1), .val (.int p2), .val (.int p3), .val (.int p4), .val (.int p5)] []))
          refine own_st (fun _ kont => XS.iconst X0.here hx rfl (hb hby own_d1_22) kont) ?_
          show own_Go p e below s _ _ _ (s₁.setTop (mkF m 23 #[.val (.int p1), .val (.int p2), .val (.int p3), .val (.int p4), .val (.int p5)] [(.int (1 : Int32))]))
          exact own_endI X0 hx hlk hret (hb hby own_d1_23) ⟨by simp only [own_ex, own_e2, own_e3, if_neg cc1, if_neg cc10, if_neg cc11, if_pos cc15], e0, rfl⟩ (by decide) (by decide)
        · show own_Go p e below s _ _ _ (s₁.setTop (mkF m 19 #[.val (.int p1), .val (.int p2), .val (.int p3), .val (.int p4), .val (.int p5)] [(.int p4), (.int p1)]))
          refine own_st (fun _ kont => XS.icmpYes X0.here hx rfl (pc0 := 19) (pc' := 24) rfl (hb hby own_d1_19) rfl (feq cc15).2 (by decide) (by decide) kont) ?_
          show own_Go p e below s _ _ _ (s₁.setTop (mkF m 24 #[.val (.int p1), .val (.int p2), .val (.int p3), .val (.int p4), .val (.int p5)] []))
          refine own_st (fun _ kont => XS.iloadN X0.here hx rfl (hb hby own_d1_24) rfl kont) ?_
          show own_Go p e below s _ _ _ (s₁.setTop (mkF m 25 #[.val (.int p1), .val (.int p2), .val (.int p3), .val (.int p4), .val (.int p5)] [(.int p2)]))
          refine own_st (fun _ kont => XS.iconst X0.here hx rfl (hb hby own_d1_25) kont) ?_
          show own_Go p e below s _ _ _ (s₁.setTop (mkF m 26 #[.val (.int p1), .val (.int p2), .val (.int p3), .val (.int p4), .val (.int p5)] [(.int (3 : Int32)), (.int p2)]))
          rcases Classical.em (p2 < (3 : Int32)) with cc16 | cc16
          · show own_Go p e below s _ _ _ (s₁.setTop (mkF m 26 #[.val (.int p1), .val (.int p2), .val (.int p3), .val (.int p4), .val (.int p5)] [(.int (3 : Int32)), (.int p2)]))
            refine own_st (fun _ kont => XS.icmpYes X0.here hx rfl (pc0 := 26) (pc' := 46) rfl (hb hby own_d1_26) rfl (tlt cc16).1 (by decide) (by decide) kont) ?_
            show own_Go p e below s _ _ _ (s₁.setTop (mkF m 46 #[.val (.int p1), .val (.int p2), .val (.int p3), .val (.int p4), .val (.int p5)] []))
            refine own_st (fun _ kont => XS.iconst X0.here hx rfl (hb hby own_d1_46) kont) ?_
            show own_Go p e below s _ _ _ (s₁.setTop (mkF m 47 #[.val (.int p1), .val (.int p2), .val (.int p3), .val (.int p4), .val (.int p5)] [(.int (-1 : Int32))]))
            exact own_endI X0 hx hlk hret (hb hby own_d1_47) ⟨by simp only [own_ex, own_e2, own_e3, if_neg cc1, if_neg cc10, if_neg cc11, if_neg cc15, if_pos cc16], e0, rfl⟩ (by decide) (by decide)
          · show own_Go p e below s _ _ _ (s₁.setTop (mkF m 26 #[.val (.int p1), .val (.int p2), .val (.int p3), .val (.int p4), .val (.int p5)] [(.int (3 : Int32)), (.int p2)]))
            refine own_st (fun _ kont => XS.icmpNo X0.here hx rfl (hb hby own_d1_26) rfl (flt cc16).1 kont) ?_
            show own_Go p e below s _ _ _ (s₁.setTop (mkF m 29 #[.val (.int p1), .val (.int p2), .val (.int p3), .val (.int p4), .val (.int p5)] []))
            refine own_st (fun _ kont => XS.iloadN X0.here hx rfl (hb hby own_d1_29) rfl kont) ?_
            show own_Go p e below s _ _ _ (s₁.setTop (mkF m 30 #[.val (.int p1), .val (.int p2), .val (.int p3), .val (.int p4), .val (.int p5)] [(.int p1)]))
            refine own_st (fun _ kont => XS.iload X0.here hx rfl (hb hby own_d1_30) rfl kont) ?_
            show own_Go p e below s _ _ _ (s₁.setTop (mkF m 32 #[.val (.int p1), .val (.int p2), .val (.int p3), .val (.int p4), .val (.int p5)] [(.int p5), (.int p1)]))
            rcases Classical.em (p1 = p5) with cc17 | cc17
            · show own_Go p e below s _ _ _ (s₁.setTop (mkF m 32 #[.val (.int p1), .val (.int p2), .val (.int p3), .val (.int p4), .val (.int p5)] [(.int p5), (.int p1)]))
              refine own_st (fun _ kont => XS.icmpNo X0.here hx rfl (hb hby own_d1_32) rfl (teq cc17).2 kont) ?_
              show own_Go p e below s _ _ _ (s₁.setTop (mkF m 35 #[.val (.int p1), .val (.int p2), .val (.int p3), .val (.int p4), .val (.int p5)] []))
              refine own_st (fun _ kont => XS.iloadN X0.here hx rfl (hb hby own_d1_35) rfl kont) ?_
              show own_Go p e below s _ _ _ (s₁.setTop (mkF m 36 #[.val (.int p1), .val (.int p2), .val (.int p3), .val (.int p4), .val (.int p5)] [(.int p3)]))
              refine own_st (fun _ kont => XS.iloadN X0.here hx rfl (hb hby own_d1_36) rfl kont) ?_
              show own_Go p e below s _ _ _ (s₁.setTop (mkF m 37 #[.val (.int p1), .val (.int p2), .val (.int p3), .val (.int p4), .val (.int p5)] [(.int p4), (.int p3)]))
              rcases Classical.em (p3 = p4) with cc18 | cc18
              · show own_Go p e below s _ _ _ (s₁.setTop (mkF m 37 #[.val (.int p1), .val (.int p2), .val (.int p3), .val (.int p4), .val (.int p5)] [(.int p4), (.int p3)]))
                refine own_st (fun _ kont => XS.icmpNo X0.here hx rfl (hb hby own_d1_37) rfl (teq cc18).2 kont) ?_
                show own_Go p e below s _ _ _ (s₁.setTop (mkF m 40 #[.val (.int p1), .val (.int p2), .val (.int p3), .val (.int p4), .val (.int p5)] []))
                refine own_st (fun _ kont => XS.iconst X0.here hx rfl (hb hby own_d1_40) kont) ?_
                show own_Go p e below s _ _ _ (s₁.setTop (mkF m 41 #[.val (.int p1), .val (.int p2), .val (.int p3), .val (.int p4), .val (.int p5)] [(.int (1 : Int32))]))
                refine own_st (fun _ kont => XS.goto X0.here hx rfl (pc0 := 41) (pc' := 45) rfl (hb hby own_d1_41) (by decide) (by decide) kont) ?_
                show own_Go p e below s _ _ _ (s₁.setTop (mkF m 45 #[.val (.int p1), .val (.int p2), .val (.int p3), .val (.int p4), .val (.int p5)] [(.int (1 : Int32))]))
                exact own_endI X0 hx hlk hret (hb hby own_d1_45) ⟨by simp only [own_ex, own_e2, own_e3, if_neg cc1, if_neg cc10, if_neg cc11, if_neg cc15, if_neg cc16, if_pos cc17, if_pos cc18], e0, rfl⟩ (by decide) (by decide)
              · show own_Go p e below s _ _ _ (s₁.setTop (mkF m 37 #[.val (.int p1), .val (.int p2), .val (.int p3), .val (.int p4), .val (.int p5)] [(.int p4), (.int p3)]))
                refine own_st (fun _ kont => XS.icmpYes X0.here hx rfl (pc0 := 37) (pc' := 44) rfl (hb hby own_d1_37) rfl (feq cc18).2 (by decide) (by decide) kont) ?_
                show own_Go p e below s _ _ _ (s₁.setTop (mkF m 44 #[.val (.int p1), .val (.int p2), .val (.int p3), .val (.int p4), .val (.int p5)] []))
                refine own_st (fun _ kont => XS.iconst X0.here hx rfl (hb hby own_d1_44) kont) ?_
                show own_Go p e below s _ _ _ (s₁.setTop (mkF m 45 #[.val (.int p1), .val (.int p2), .val (.int p3), .val (.int p4), .val (.int p5)] [(.int (2 : Int32))]))
                exact own_endI X0 hx hlk hret (hb hby own_d1_45) ⟨by simp only [own_ex, own_e2, own_e3, if_neg cc1, if_neg cc10, if_neg cc11, if_neg cc15, if_neg cc16, if_pos cc17, if_neg cc18], e0, rfl⟩ (by decide) (by decide)
            · show own_Go p e below s _ _ _ (s₁.setTop (mkF m 32 #[.val (.int p1), .val (.int p2), .val (.int p3), .val (.int p4), .val (.int p5)] [(.int p5), (.int p1)]))
              refine own_st (fun _ kont => XS.icmpYes X0.here hx rfl (pc0 := 32) (pc' := 46) rfl (hb hby own_d1_32) rfl (feq cc17).2 (by decide) (by decide) kont) ?_
              show own_Go p e below s _ _ _ (s₁.setTop (mkF m 46 #[.val (.int p1), .val (.int p2), .val (.int p3), .val (.int p4), .val (.int p5)] []))
              refine own_st (fun _ kont => XS.iconst X0.here hx rfl (hb hby own_d1_46) kont) ?_
              show own_Go p e below s _ _ _ (s₁.setTop (mkF m 47 #[.val (.int p1), .val (.int p2), .val (.int p3), .val (.int p4), .val (.int p5)] [(.int (-1 : Int32))]))
              exact own_endI X0 hx hlk hret (hb hby own_d1_47) ⟨by simp only [own_ex, own_e2, own_e3, if_neg cc1, if_neg cc10, if_neg cc11, if_neg cc15, if_neg cc16, if_neg cc17], e0, rfl⟩ (by decide) (by decide)
theorem own_d2_0 : decode prog_59_method_1_code 0 = .ok (.aload_n 0, 1) := by decide +kernel
theorem own_d2_1 : decode prog_59_method_1_code 1 = .ok (.invokespecial 1, 3) := by decide +kernel
theorem own_d2_4 : decode prog_59_method_1_code 4 = .ok (.aload_n 0, 1) := by decide +kernel
theorem own_d2_5 : decode prog_59_method_1_code 5 = .ok (.bipush 16, 2) := by decide +kernel
theorem own_d2_7 : decode prog_59_method_1_code 7 = .ok (.newarray .int, 2) := by decide +kernel
theorem own_d2_9 : decode prog_59_method_1_code 9 = .ok (.putfield 7, 3) := by decide +kernel
theorem own_d2_12 : decode prog_59_method_1_code 12 = .ok (.aload_n 0, 1) := by decide +kernel
theorem own_d2_13 : decode prog_59_method_1_code 13 = .ok (.bipush 16, 2) := by decide +kernel
theorem own_d2_15 : decode prog_59_method_1_code 15 = .ok (.newarray .int, 2) := by decide +kernel
theorem own_d2_17 : decode prog_59_method_1_code 17 = .ok (.putfield 13, 3) := by decide +kernel
theorem own_d2_20 : decode prog_59_method_1_code 20 = .ok (.aload_n 0, 1) := by decide +kernel
theorem own_d2_21 : decode prog_59_method_1_code 21 = .ok (.bipush 28, 2) := by decide +kernel
theorem own_d2_23 : decode prog_59_method_1_code 23 = .ok (.putfield 16, 3) := by decide +kernel
theorem own_d2_26 : decode prog_59_method_1_code 26 = .ok (.return_, 1) := by decide +kernel
theorem own_pn2 : plainFor (⟨"com/example/hop_gate/hopgate/UserIndex", "<init>", "()V"⟩ : MethodName) = true := by first | exact plainFor_of_name (show plainName "com/example/hop_gate/hopgate/UserIndex" = true by first | (simp [plainName, overriddenIn]; done) | decide +kernel) | decide +kernel
theorem own_ef2 (m : MethodId) (x0 : Addr) : entryFrame m #[(.ref x0)] 1 = mkF m 0 #[.val (.ref x0)] [] := by first | (simp [entryFrame, mkF, argsToLocals, Value.category]; done) | rfl
set_option maxRecDepth 65536 in
set_option maxHeartbeats 40000000 in
theorem own_rm3 (l : Launch) (Z : State) (a0 : Array Value) (hw : ∀ d ∈ tables_1, d.before a0 Z = true) (a1 : Addr) (h0 : Heap) (n0 : Nat) (Z0 : n0 ≤ h0.size) (Fk : Fld Z h0 a1 "com/example/hop_gate/hopgate/UserIndex" "keys" "[I" .null) (Fn : Fld Z h0 a1 "com/example/hop_gate/hopgate/UserIndex" "numbers" "[I" .null) (Fs : Fld Z h0 a1 "com/example/hop_gate/hopgate/UserIndex" "shift" "I" (.int 0)) (Fz : Fld Z h0 a1 "com/example/hop_gate/hopgate/UserIndex" "size" "I" (.int 0)) (EX : Exa Z h0 a1 "com/example/hop_gate/hopgate/UserIndex") (fr_a1 : n0 ≤ a1) :
    own_Met l Z (⟨"com/example/hop_gate/hopgate/UserIndex", "<init>", "()V"⟩ : MethodName) prog_59_method_1_code 1 none ({ frames := 1, cells := 2, slots := 32, locals := 12 } : Room) #[(.ref a1)] h0 (fun v h' L => ∃ ka na : Addr, v = none ∧ Fr n0 L ∧ Keep h0 h' [a1] ∧ Fld Z h' a1 "com/example/hop_gate/hopgate/UserIndex" "keys" "[I" (.ref ka) ∧ Fld Z h' a1 "com/example/hop_gate/hopgate/UserIndex" "numbers" "[I" (.ref na) ∧ Fld Z h' a1 "com/example/hop_gate/hopgate/UserIndex" "shift" "I" (.int 28) ∧ Fld Z h' a1 "com/example/hop_gate/hopgate/UserIndex" "size" "I" (.int 0) ∧ own_Av Z h' ka .int 16 (fun _ => .int 0) ∧ own_Av Z h' na .int 16 (fun _ => .int 0) ∧ h0.size ≤ ka ∧ ka ≠ na ∧ h0.size ≤ na) := by
  refine own_in own_pn2 ?_
  intro p e s m below meth c s₁ hx hby hml hown hnm hlk hret hZ X0 e0
  have N0 := Fr.nil n0
  refine own_ef (own_ef2 m a1) ?_
  show own_Go p e below s _ _ _ (s₁.setTop (mkF m 0 #[.val (.ref a1)] []))
  refine own_st (fun _ kont => XS.aloadN X0.here hx rfl (hb hby own_d2_0) rfl rfl kont) ?_
  show own_Go p e below s _ _ _ (s₁.setTop (mkF m 1 #[.val (.ref a1)] [(.ref a1)]))
  obtain ⟨T1, X1, e1, st1⟩ := initO X0 hx hZ hown (hw _ (List.mem_of_getElem? (i := 10) rfl)) (hw _ (List.mem_of_getElem? (i := 11) rfl)) (hw _ (List.mem_of_getElem? (i := 12) rfl)) e0 (g := (mkF m 1 #[.val (.ref a1)] [(.ref a1)])) rfl (by rw [hml]; rfl) rfl (hb hby own_d2_1) (by decide) (W := 0) (by show 2 * 0 + _ ≤ _; exact Nat.le_of_eq rfl) (by decide)
  refine own_st st1 ?_
  show own_Go p e below s _ _ _ (T1.setTop (mkF m 4 #[.val (.ref a1)] []))
  refine own_st (fun _ kont => XS.aloadN X1.here hx rfl (hb hby own_d2_4) rfl rfl kont) ?_
  show own_Go p e below s _ _ _ (T1.setTop (mkF m 5 #[.val (.ref a1)] [(.ref a1)]))
  refine own_st (fun _ kont => XS.bipush X1.here hx rfl (hb hby own_d2_5) kont) ?_
  show own_Go p e below s _ _ _ (T1.setTop (mkF m 7 #[.val (.ref a1)] [(.int (16 : Int32)), (.ref a1)]))
  obtain ⟨T2, h2, ka, g2, X2, e2, E2, Vka, st2⟩ := own_newA X1 hx hZ (hw _ (List.mem_of_getElem? (i := 13) rfl)) e1 (g := (mkF m 7 #[.val (.ref a1)] [(.int (16 : Int32)), (.ref a1)])) rfl (hb hby own_d2_7) rfl (n := 16) (cap := 16) (by decide) (by decide) (by decide) (by decide) (by decide)
  replace Vka : own_Av Z h2 ka .int 16 (fun _ => .int 0) := Vka
  have ne_a1_ka : a1 ≠ ka := Nat.ne_of_lt (Nat.lt_of_lt_of_eq Fk.lt g2.symm)
  have fr_ka : n0 ≤ ka := Nat.le_trans Z0 (Nat.le_of_eq g2.symm)
  have sk_ka : h0.size ≤ ka := Nat.le_trans (Keep.refl h0 [a1]).1 (Nat.le_of_eq g2.symm)
  have Fk_2 := Fk.ext E2
  have Fn_2 := Fn.ext E2
  have Fs_2 := Fs.ext E2
  have Fz_2 := Fz.ext E2
  have EX_2 := EX.ext E2
  have sz2 := Nat.le_trans Z0 E2.1
  have K2 := (Keep.refl h0 [a1]).ext E2
  refine own_st st2 ?_
  show own_Go p e below s _ _ _ (T2.setTop (mkF m 9 #[.val (.ref a1)] [(.ref ka), (.ref a1)]))
  obtain ⟨T3, h3, X3, e3, W3, st3⟩ := putF X2 hx hZ hown (host := "") (Or.inl (hw _ (List.mem_of_getElem? (i := 14) rfl))) Via.refl e2 Fk_2 EX_2 (Or.inl (hw _ (List.mem_of_getElem? (i := 15) rfl))) (hw _ (List.mem_of_getElem? (i := 5) rfl)) (ty := (.array .int)) (by decide) rfl rfl (g := (mkF m 9 #[.val (.ref a1)] [(.ref ka), (.ref a1)])) rfl rfl (hb hby own_d2_9)
  have Fk_3 := Fk_2.same W3
  have Fn_3 := Fn_2.other W3 (Or.inr (slot_ne (Or.inl (hw _ (List.mem_of_getElem? (i := 17) rfl))) (Or.inl (hw _ (List.mem_of_getElem? (i := 15) rfl))) (by decide) (t := (.array .int)) (t' := (.array .int)) (by decide) (by decide)))
  have Fs_3 := Fs_2.other W3 (Or.inr (slot_ne (Or.inl (hw _ (List.mem_of_getElem? (i := 19) rfl))) (Or.inl (hw _ (List.mem_of_getElem? (i := 15) rfl))) (by decide) (t := .int) (t' := (.array .int)) (by decide) (by decide)))
  have Fz_3 := Fz_2.other W3 (Or.inr (slot_ne (Or.inl (hw _ (List.mem_of_getElem? (i := 39) rfl))) (Or.inl (hw _ (List.mem_of_getElem? (i := 15) rfl))) (by decide) (t := .int) (t' := (.array .int)) (by decide) (by decide)))
  have EX_3 := EX_2.wr W3
  have Vka_3 := Vka.other W3 (Ne.symm ne_a1_ka)
  have sz3 := Nat.le_trans sz2 (Keep.of_wr W3).1
  have K3 := K2.wr W3 (Or.inl (List.mem_of_getElem? (i := 0) rfl))
  have N3 := Fr.snoc X3 N0 fr_a1
  refine own_st st3 ?_
  show own_Go p e below s _ _ _ (T3.setTop (mkF m 12 #[.val (.ref a1)] []))
  refine own_st (fun _ kont => XS.aloadN X3.here hx rfl (hb hby own_d2_12) rfl rfl kont) ?_
  show own_Go p e below s _ _ _ (T3.setTop (mkF m 13 #[.val (.ref a1)] [(.ref a1)]))
  refine own_st (fun _ kont => XS.bipush X3.here hx rfl (hb hby own_d2_13) kont) ?_
  show own_Go p e below s _ _ _ (T3.setTop (mkF m 15 #[.val (.ref a1)] [(.int (16 : Int32)), (.ref a1)]))
  obtain ⟨T4, h4, na, g4, X4, e4, E4, Vna, st4⟩ := own_newA X3 hx hZ (hw _ (List.mem_of_getElem? (i := 13) rfl)) e3 (g := (mkF m 15 #[.val (.ref a1)] [(.int (16 : Int32)), (.ref a1)])) rfl (hb hby own_d2_15) rfl (n := 16) (cap := 16) (by decide) (by decide) (by decide) (by decide) (by decide)
  replace Vna : own_Av Z h4 na .int 16 (fun _ => .int 0) := Vna
  have ne_a1_na : a1 ≠ na := Nat.ne_of_lt (Nat.lt_of_lt_of_eq Fn_3.lt g4.symm)
  have ne_ka_na : ka ≠ na := Nat.ne_of_lt (Nat.lt_of_lt_of_eq Vka_3.lt g4.symm)
  have fr_na : n0 ≤ na := Nat.le_trans sz3 (Nat.le_of_eq g4.symm)
  have sk_na : h0.size ≤ na := Nat.le_trans K3.1 (Nat.le_of_eq g4.symm)
  have Fn_4 := Fn_3.ext E4
  have Fs_4 := Fs_3.ext E4
  have Fz_4 := Fz_3.ext E4
  have EX_4 := EX_3.ext E4
  have Vka_4 := Vka_3.ext E4
  have Fk_4 := Fk_3.ext E4
  have sz4 := Nat.le_trans sz3 E4.1
  have K4 := K3.ext E4
  refine own_st st4 ?_
  show own_Go p e below s _ _ _ (T4.setTop (mkF m 17 #[.val (.ref a1)] [(.ref na), (.ref a1)]))
  obtain ⟨T5, h5, X5, e5, W5, st5⟩ := putF X4 hx hZ hown (host := "") (Or.inl (hw _ (List.mem_of_getElem? (i := 16) rfl))) Via.refl e4 Fn_4 EX_4 (Or.inl (hw _ (List.mem_of_getElem? (i := 17) rfl))) (hw _ (List.mem_of_getElem? (i := 5) rfl)) (ty := (.array .int)) (by decide) rfl rfl (g := (mkF m 17 #[.val (.ref a1)] [(.ref na), (.ref a1)])) rfl rfl (hb hby own_d2_17)
  have Fn_5 := Fn_4.same W5
  have Fs_5 := Fs_4.other W5 (Or.inr (slot_ne (Or.inl (hw _ (List.mem_of_getElem? (i := 19) rfl))) (Or.inl (hw _ (List.mem_of_getElem? (i := 17) rfl))) (by decide) (t := .int) (t' := (.array .int)) (by decide) (by decide)))
  have Fz_5 := Fz_4.other W5 (Or.inr (slot_ne (Or.inl (hw _ (List.mem_of_getElem? (i := 39) rfl))) (Or.inl (hw _ (List.mem_of_getElem? (i := 17) rfl))) (by decide) (t := .int) (t' := (.array .int)) (by decide) (by decide)))
  have EX_5 := EX_4.wr W5
  have Vka_5 := Vka_4.other W5 (Ne.symm ne_a1_ka)
  have Fk_5 := Fk_4.other W5 (Or.inr (slot_ne (Or.inl (hw _ (List.mem_of_getElem? (i := 15) rfl))) (Or.inl (hw _ (List.mem_of_getElem? (i := 17) rfl))) (by decide) (t := (.array .int)) (t' := (.array .int)) (by decide) (by decide)))
  have Vna_5 := Vna.other W5 (Ne.symm ne_a1_na)
  have sz5 := Nat.le_trans sz4 (Keep.of_wr W5).1
  have K5 := K4.wr W5 (Or.inl (List.mem_of_getElem? (i := 0) rfl))
  have N5 := Fr.snoc X5 N3 fr_a1
  refine own_st st5 ?_
  show own_Go p e below s _ _ _ (T5.setTop (mkF m 20 #[.val (.ref a1)] []))
  refine own_st (fun _ kont => XS.aloadN X5.here hx rfl (hb hby own_d2_20) rfl rfl kont) ?_
  show own_Go p e below s _ _ _ (T5.setTop (mkF m 21 #[.val (.ref a1)] [(.ref a1)]))
  refine own_st (fun _ kont => XS.bipush X5.here hx rfl (hb hby own_d2_21) kont) ?_
  show own_Go p e below s _ _ _ (T5.setTop (mkF m 23 #[.val (.ref a1)] [(.int (28 : Int32)), (.ref a1)]))
  obtain ⟨T6, h6, X6, e6, W6, st6⟩ := putF X5 hx hZ hown (host := "") (Or.inl (hw _ (List.mem_of_getElem? (i := 18) rfl))) Via.refl e5 Fs_5 EX_5 (Or.inl (hw _ (List.mem_of_getElem? (i := 19) rfl))) (hw _ (List.mem_of_getElem? (i := 5) rfl)) (ty := .int) (by decide) rfl rfl (g := (mkF m 23 #[.val (.ref a1)] [(.int (28 : Int32)), (.ref a1)])) rfl rfl (hb hby own_d2_23)
  have Fs_6 := Fs_5.same W6
  have Fz_6 := Fz_5.other W6 (Or.inr (slot_ne (Or.inl (hw _ (List.mem_of_getElem? (i := 39) rfl))) (Or.inl (hw _ (List.mem_of_getElem? (i := 19) rfl))) (by decide) (t := .int) (t' := .int) (by decide) (by decide)))
  have EX_6 := EX_5.wr W6
  have Vka_6 := Vka_5.other W6 (Ne.symm ne_a1_ka)
  have Fk_6 := Fk_5.other W6 (Or.inr (slot_ne (Or.inl (hw _ (List.mem_of_getElem? (i := 15) rfl))) (Or.inl (hw _ (List.mem_of_getElem? (i := 19) rfl))) (by decide) (t := (.array .int)) (t' := .int) (by decide) (by decide)))
  have Vna_6 := Vna_5.other W6 (Ne.symm ne_a1_na)
  have Fn_6 := Fn_5.other W6 (Or.inr (slot_ne (Or.inl (hw _ (List.mem_of_getElem? (i := 17) rfl))) (Or.inl (hw _ (List.mem_of_getElem? (i := 19) rfl))) (by decide) (t := (.array .int)) (t' := .int) (by decide) (by decide)))
  have sz6 := Nat.le_trans sz5 (Keep.of_wr W6).1
  have K6 := K5.wr W6 (Or.inl (List.mem_of_getElem? (i := 0) rfl))
  have N6 := Fr.snoc X6 N5 fr_a1
  refine own_st st6 ?_
  show own_Go p e below s _ _ _ (T6.setTop (mkF m 26 #[.val (.ref a1)] []))
  exact own_endV X6 hx hlk hret (hb hby own_d2_26) (by rw [e6]; exact ⟨ka, na, rfl, N6, K6, Fk_6, Fn_6, Fs_6, Fz_6, Vka_6, Vna_6, sk_ka, ne_ka_na, sk_na⟩) (by decide) (by decide)
theorem own_d3_0 : decode prog_59_method_5_code 0 = .ok (.iload_n 1, 1) := by decide +kernel
theorem own_d3_1 : decode prog_59_method_5_code 1 = .ok (.ldc 30, 2) := by decide +kernel
theorem own_d3_3 : decode prog_59_method_5_code 3 = .ok (.imul, 1) := by decide +kernel
theorem own_d3_4 : decode prog_59_method_5_code 4 = .ok (.aload_n 0, 1) := by decide +kernel
theorem own_d3_5 : decode prog_59_method_5_code 5 = .ok (.getfield 16, 3) := by decide +kernel
theorem own_d3_8 : decode prog_59_method_5_code 8 = .ok (.iushr, 1) := by decide +kernel
theorem own_d3_9 : decode prog_59_method_5_code 9 = .ok (.istore_n 2, 1) := by decide +kernel
theorem own_d3_10 : decode prog_59_method_5_code 10 = .ok (.aload_n 0, 1) := by decide +kernel
theorem own_d3_11 : decode prog_59_method_5_code 11 = .ok (.getfield 7, 3) := by decide +kernel
theorem own_d3_14 : decode prog_59_method_5_code 14 = .ok (.iload_n 2, 1) := by decide +kernel
theorem own_d3_15 : decode prog_59_method_5_code 15 = .ok (.iaload, 1) := by decide +kernel
theorem own_d3_16 : decode prog_59_method_5_code 16 = .ok (.ifCond .eq 30, 3) := by decide +kernel
theorem own_d3_19 : decode prog_59_method_5_code 19 = .ok (.aload_n 0, 1) := by decide +kernel
theorem own_d3_20 : decode prog_59_method_5_code 20 = .ok (.getfield 7, 3) := by decide +kernel
theorem own_d3_23 : decode prog_59_method_5_code 23 = .ok (.iload_n 2, 1) := by decide +kernel
theorem own_d3_24 : decode prog_59_method_5_code 24 = .ok (.iaload, 1) := by decide +kernel
theorem own_d3_25 : decode prog_59_method_5_code 25 = .ok (.iload_n 1, 1) := by decide +kernel
theorem own_d3_26 : decode prog_59_method_5_code 26 = .ok (.iconst 1, 1) := by decide +kernel
theorem own_d3_27 : decode prog_59_method_5_code 27 = .ok (.iadd, 1) := by decide +kernel
theorem own_d3_28 : decode prog_59_method_5_code 28 = .ok (.if_icmp .eq 18, 3) := by decide +kernel
theorem own_d3_31 : decode prog_59_method_5_code 31 = .ok (.iload_n 2, 1) := by decide +kernel
theorem own_d3_32 : decode prog_59_method_5_code 32 = .ok (.iconst 1, 1) := by decide +kernel
theorem own_d3_33 : decode prog_59_method_5_code 33 = .ok (.iadd, 1) := by decide +kernel
theorem own_d3_34 : decode prog_59_method_5_code 34 = .ok (.aload_n 0, 1) := by decide +kernel
theorem own_d3_35 : decode prog_59_method_5_code 35 = .ok (.getfield 7, 3) := by decide +kernel
theorem own_d3_38 : decode prog_59_method_5_code 38 = .ok (.arraylength, 1) := by decide +kernel
theorem own_d3_39 : decode prog_59_method_5_code 39 = .ok (.iconst 1, 1) := by decide +kernel
theorem own_d3_40 : decode prog_59_method_5_code 40 = .ok (.isub, 1) := by decide +kernel
theorem own_d3_41 : decode prog_59_method_5_code 41 = .ok (.iand, 1) := by decide +kernel
theorem own_d3_42 : decode prog_59_method_5_code 42 = .ok (.istore_n 2, 1) := by decide +kernel
theorem own_d3_43 : decode prog_59_method_5_code 43 = .ok (.goto (-33), 3) := by decide +kernel
theorem own_d3_46 : decode prog_59_method_5_code 46 = .ok (.iload_n 2, 1) := by decide +kernel
theorem own_d3_47 : decode prog_59_method_5_code 47 = .ok (.ireturn, 1) := by decide +kernel
theorem own_pn3 : plainFor (⟨"com/example/hop_gate/hopgate/UserIndex", "place", "(I)I"⟩ : MethodName) = true := by first | exact plainFor_of_name (show plainName "com/example/hop_gate/hopgate/UserIndex" = true by first | (simp [plainName, overriddenIn]; done) | decide +kernel) | decide +kernel
theorem own_ef3 (m : MethodId) (x0 : Addr) (x1 : Int32) : entryFrame m #[(.ref x0), (.int x1)] 3 = mkF m 0 #[.val (.ref x0), .val (.int x1), .unset] [] := by first | (simp [entryFrame, mkF, argsToLocals, Value.category]; done) | rfl
set_option maxRecDepth 65536 in
set_option maxHeartbeats 40000000 in
theorem own_rm4 (l : Launch) (Z : State) (a0 : Array Value) (hw : ∀ d ∈ tables_1, d.before a0 Z = true) (a1 : Addr) (pu : Int32) (ka : Addr) (kf : Nat → Int32) (z : Nat) (h0 : Heap) (n0 : Nat) (Z0 : n0 ≤ h0.size) (V : own_Av Z h0 ka .int 16 (fun t => .int (kf t))) (Fk : Fld Z h0 a1 "com/example/hop_gate/hopgate/UserIndex" "keys" "[I" (.ref ka)) (Fs : Fld Z h0 a1 "com/example/hop_gate/hopgate/UserIndex" "shift" "I" (.int 28)) (hz : z < 16) (hz0 : kf z = 0) :
    own_Met l Z (⟨"com/example/hop_gate/hopgate/UserIndex", "place", "(I)I"⟩ : MethodName) prog_59_method_5_code 3 (some .int) ({ frames := 0, cells := 0, slots := 0, locals := 0 } : Room) #[(.ref a1), (.int pu)] h0 (fun v h' L => (∃ (zr : Int32) (r : Nat), v = some (.int zr) ∧ zr.toInt = (r : Int) ∧ r < 16 ∧ own_Pl kf 16 (own_hs pu) (pu + 1) r) ∧ h' = h0 ∧ L = []) := by
  refine own_in own_pn3 ?_
  intro p e s m below meth c s₁ hx hby hml hown hnm hlk hret hZ X0 e0
  have N0 := Fr.nil n0
  refine own_ef (own_ef3 m a1 pu) ?_
  show own_Go p e below s _ _ _ (s₁.setTop (mkF m 0 #[.val (.ref a1), .val (.int pu), .unset] []))
  refine own_st (fun _ kont => XS.iloadN X0.here hx rfl (hb hby own_d3_0) rfl kont) ?_
  show own_Go p e below s _ _ _ (s₁.setTop (mkF m 1 #[.val (.ref a1), .val (.int pu), .unset] [(.int pu)]))
  refine own_st (fun _ kont => X0.ldcInt hx hown (mvT hZ (hw _ (List.mem_of_getElem? (i := 29) rfl))) (g := (mkF m 1 #[.val (.ref a1), .val (.int pu), .unset] [(.int pu)])) rfl (hb hby own_d3_1) _ kont) ?_
  show own_Go p e below s _ _ _ (s₁.setTop (mkF m 3 #[.val (.ref a1), .val (.int pu), .unset] [(.int (-1640531527 : Int32)), (.int pu)]))
  refine own_st (fun _ kont => XS.imul X0.here hx rfl (hb hby own_d3_3) rfl kont) ?_
  show own_Go p e below s _ _ _ (s₁.setTop (mkF m 4 #[.val (.ref a1), .val (.int pu), .unset] [(.int (pu * (-1640531527 : Int32)))]))
  refine own_st (fun _ kont => XS.aloadN X0.here hx rfl (hb hby own_d3_4) rfl rfl kont) ?_
  show own_Go p e below s _ _ _ (s₁.setTop (mkF m 5 #[.val (.ref a1), .val (.int pu), .unset] [(.ref a1), (.int (pu * (-1640531527 : Int32)))]))
  obtain ⟨T1, X1, e1, st1⟩ := getF X0 hx hZ hown (host := "") (Or.inl (hw _ (List.mem_of_getElem? (i := 18) rfl))) Via.refl e0 Fs (g := (mkF m 5 #[.val (.ref a1), .val (.int pu), .unset] [(.ref a1), (.int (pu * (-1640531527 : Int32)))])) rfl rfl (hb hby own_d3_5)
  refine own_st st1 ?_
  show own_Go p e below s _ _ _ (T1.setTop (mkF m 8 #[.val (.ref a1), .val (.int pu), .unset] [(.int (28 : Int32)), (.int (pu * (-1640531527 : Int32)))]))
  refine own_st (fun _ kont => XT.iushr X1.here hx rfl (hb hby own_d3_8) rfl kont) ?_
  show own_Go p e below s _ _ _ (T1.setTop (mkF m 9 #[.val (.ref a1), .val (.int pu), .unset] [(.int (XT.ushr (pu * (-1640531527 : Int32)) (28 : Int32)))]))
  refine own_st (fun _ kont => XS.istoreN X1.here hx rfl (hb hby own_d3_9) rfl (l' := #[.val (.ref a1), .val (.int pu), .val (.int (XT.ushr (pu * (-1640531527 : Int32)) (28 : Int32)))]) rfl kont) ?_
  show own_Go p e below s _ _ _ (T1.setTop (mkF m 10 #[.val (.ref a1), .val (.int pu), .val (.int (XT.ushr (pu * (-1640531527 : Int32)) (28 : Int32)))] []))
  obtain ⟨hh, hl⟩ := own_hsp pu
  obtain ⟨hs, ehs⟩ : ∃ n, n = own_hs pu := ⟨_, rfl⟩
  rw [← ehs] at hh hl ⊢
  have loop : ∀ (r q : Nat) (cur : Int32) (Tl : State), (hs + (q + r)) % 16 = z → cur.toInt = (((hs + q) % 16 : Nat) : Int) → (∀ t, t < q → kf ((hs + t) % 16) ≠ 0 ∧ kf ((hs + t) % 16) ≠ pu + 1) → Stand p l e ({ frames := 0, cells := 0, slots := 0, locals := 0 } : Room) s m #[(.ref a1), (.int pu)] below meth c Tl [] 0 0 → Tl.heap = h0 → own_Go p e below s (fun v h' L => (∃ (zr : Int32) (r : Nat), v = some (.int zr) ∧ zr.toInt = (r : Int) ∧ r < 16 ∧ own_Pl kf 16 (hs) (pu + 1) r) ∧ h' = h0 ∧ L = []) ({ frames := 0, cells := 0, slots := 0, locals := 0 } : Room).cells ({ frames := 0, cells := 0, slots := 0, locals := 0 } : Room).slots (Tl.setTop (mkF m 10 #[.val (.ref a1), .val (.int pu), .val (.int cur)] [])) := by
    intro r
    induction r with
    | zero =>
      intro q cur Tl hk hc hp Xl el
      show own_Go p e below s _ _ _ (Tl.setTop (mkF m 10 #[.val (.ref a1), .val (.int pu), .val (.int cur)] []))
      refine own_st (fun _ kont => XS.aloadN Xl.here hx rfl (hb hby own_d3_10) rfl rfl kont) ?_
      show own_Go p e below s _ _ _ (Tl.setTop (mkF m 11 #[.val (.ref a1), .val (.int pu), .val (.int cur)] [(.ref a1)]))
      obtain ⟨T2, X2, e2, st2⟩ := getF Xl hx hZ hown (host := "") (Or.inl (hw _ (List.mem_of_getElem? (i := 14) rfl))) Via.refl el Fk (g := (mkF m 11 #[.val (.ref a1), .val (.int pu), .val (.int cur)] [(.ref a1)])) rfl rfl (hb hby own_d3_11)
      refine own_st st2 ?_
      show own_Go p e below s _ _ _ (T2.setTop (mkF m 14 #[.val (.ref a1), .val (.int pu), .val (.int cur)] [(.ref ka)]))
      refine own_st (fun _ kont => XS.iloadN X2.here hx rfl (hb hby own_d3_14) rfl kont) ?_
      show own_Go p e below s _ _ _ (T2.setTop (mkF m 15 #[.val (.ref a1), .val (.int pu), .val (.int cur)] [(.int cur), (.ref ka)]))
      refine own_st (own_ldI X2 hx hZ e2 V (i := ((hs + q) % 16)) hc (Nat.mod_lt _ (by omega)) (v := (.int (kf ((hs + q) % 16)))) rfl (g := (mkF m 15 #[.val (.ref a1), .val (.int pu), .val (.int cur)] [(.int cur), (.ref ka)])) rfl rfl (hb hby own_d3_15)) ?_
      show own_Go p e below s _ _ _ (T2.setTop (mkF m 16 #[.val (.ref a1), .val (.int pu), .val (.int cur)] [(.int (kf ((hs + q) % 16)))]))
      have hq0 : kf ((hs + q) % 16) = 0 := by rw [show q = q + 0 by omega, hk]; exact hz0
      show own_Go p e below s _ _ _ (T2.setTop (mkF m 16 #[.val (.ref a1), .val (.int pu), .val (.int cur)] [(.int (kf ((hs + q) % 16)))]))
      refine own_st (fun _ kont => XS.ifYes X2.here hx rfl (pc0 := 16) (pc' := 46) rfl (hb hby own_d3_16) rfl ((if0 _ _).trans (teq hq0).1) (by decide) (by decide) kont) ?_
      show own_Go p e below s _ _ _ (T2.setTop (mkF m 46 #[.val (.ref a1), .val (.int pu), .val (.int cur)] []))
      refine own_st (fun _ kont => XS.iloadN X2.here hx rfl (hb hby own_d3_46) rfl kont) ?_
      show own_Go p e below s _ _ _ (T2.setTop (mkF m 47 #[.val (.ref a1), .val (.int pu), .val (.int cur)] [(.int cur)]))
      exact own_endI X2 hx hlk hret (hb hby own_d3_47) ⟨⟨_, _, rfl, hc, Nat.mod_lt _ (by omega), q, rfl, hp, Or.inl hq0⟩, e2, rfl⟩ (by decide) (by decide)
    | succ r ih =>
      intro q cur Tl hk hc hp Xl el
      show own_Go p e below s _ _ _ (Tl.setTop (mkF m 10 #[.val (.ref a1), .val (.int pu), .val (.int cur)] []))
      refine own_st (fun _ kont => XS.aloadN Xl.here hx rfl (hb hby own_d3_10) rfl rfl kont) ?_
      show own_Go p e below s _ _ _ (Tl.setTop (mkF m 11 #[.val (.ref a1), .val (.int pu), .val (.int cur)] [(.ref a1)]))
      obtain ⟨T3, X3, e3, st3⟩ := getF Xl hx hZ hown (host := "") (Or.inl (hw _ (List.mem_of_getElem? (i := 14) rfl))) Via.refl el Fk (g := (mkF m 11 #[.val (.ref a1), .val (.int pu), .val (.int cur)] [(.ref a1)])) rfl rfl (hb hby own_d3_11)
      refine own_st st3 ?_
      show own_Go p e below s _ _ _ (T3.setTop (mkF m 14 #[.val (.ref a1), .val (.int pu), .val (.int cur)] [(.ref ka)]))
      refine own_st (fun _ kont => XS.iloadN X3.here hx rfl (hb hby own_d3_14) rfl kont) ?_
      show own_Go p e below s _ _ _ (T3.setTop (mkF m 15 #[.val (.ref a1), .val (.int pu), .val (.int cur)] [(.int cur), (.ref ka)]))
      refine own_st (own_ldI X3 hx hZ e3 V (i := ((hs + q) % 16)) hc (Nat.mod_lt _ (by omega)) (v := (.int (kf ((hs + q) % 16)))) rfl (g := (mkF m 15 #[.val (.ref a1), .val (.int pu), .val (.int cur)] [(.int cur), (.ref ka)])) rfl rfl (hb hby own_d3_15)) ?_
      show own_Go p e below s _ _ _ (T3.setTop (mkF m 16 #[.val (.ref a1), .val (.int pu), .val (.int cur)] [(.int (kf ((hs + q) % 16)))]))
      rcases Classical.em ((kf ((hs + q) % 16)) = (0 : Int32)) with c1 | c1
      · show own_Go p e below s _ _ _ (T3.setTop (mkF m 16 #[.val (.ref a1), .val (.int pu), .val (.int cur)] [(.int (kf ((hs + q) % 16)))]))
        refine own_st (fun _ kont => XS.ifYes X3.here hx rfl (pc0 := 16) (pc' := 46) rfl (hb hby own_d3_16) rfl ((if0 _ _).trans (teq c1).1) (by decide) (by decide) kont) ?_
        show own_Go p e below s _ _ _ (T3.setTop (mkF m 46 #[.val (.ref a1), .val (.int pu), .val (.int cur)] []))
        refine own_st (fun _ kont => XS.iloadN X3.here hx rfl (hb hby own_d3_46) rfl kont) ?_
        show own_Go p e below s _ _ _ (T3.setTop (mkF m 47 #[.val (.ref a1), .val (.int pu), .val (.int cur)] [(.int cur)]))
        exact own_endI X3 hx hlk hret (hb hby own_d3_47) ⟨⟨_, _, rfl, hc, Nat.mod_lt _ (by omega), q, rfl, hp, Or.inl c1⟩, e3, rfl⟩ (by decide) (by decide)
      · show own_Go p e below s _ _ _ (T3.setTop (mkF m 16 #[.val (.ref a1), .val (.int pu), .val (.int cur)] [(.int (kf ((hs + q) % 16)))]))
        refine own_st (fun _ kont => XS.ifNo X3.here hx rfl (hb hby own_d3_16) rfl ((if0 _ _).trans (feq c1).1) kont) ?_
        show own_Go p e below s _ _ _ (T3.setTop (mkF m 19 #[.val (.ref a1), .val (.int pu), .val (.int cur)] []))
        refine own_st (fun _ kont => XS.aloadN X3.here hx rfl (hb hby own_d3_19) rfl rfl kont) ?_
        show own_Go p e below s _ _ _ (T3.setTop (mkF m 20 #[.val (.ref a1), .val (.int pu), .val (.int cur)] [(.ref a1)]))
        obtain ⟨T4, X4, e4, st4⟩ := getF X3 hx hZ hown (host := "") (Or.inl (hw _ (List.mem_of_getElem? (i := 14) rfl))) Via.refl e3 Fk (g := (mkF m 20 #[.val (.ref a1), .val (.int pu), .val (.int cur)] [(.ref a1)])) rfl rfl (hb hby own_d3_20)
        refine own_st st4 ?_
        show own_Go p e below s _ _ _ (T4.setTop (mkF m 23 #[.val (.ref a1), .val (.int pu), .val (.int cur)] [(.ref ka)]))
        refine own_st (fun _ kont => XS.iloadN X4.here hx rfl (hb hby own_d3_23) rfl kont) ?_
        show own_Go p e below s _ _ _ (T4.setTop (mkF m 24 #[.val (.ref a1), .val (.int pu), .val (.int cur)] [(.int cur), (.ref ka)]))
        refine own_st (own_ldI X4 hx hZ e4 V (i := ((hs + q) % 16)) hc (Nat.mod_lt _ (by omega)) (v := (.int (kf ((hs + q) % 16)))) rfl (g := (mkF m 24 #[.val (.ref a1), .val (.int pu), .val (.int cur)] [(.int cur), (.ref ka)])) rfl rfl (hb hby own_d3_24)) ?_
        show own_Go p e below s _ _ _ (T4.setTop (mkF m 25 #[.val (.ref a1), .val (.int pu), .val (.int cur)] [(.int (kf ((hs + q) % 16)))]))
        refine own_st (fun _ kont => XS.iloadN X4.here hx rfl (hb hby own_d3_25) rfl kont) ?_
        show own_Go p e below s _ _ _ (T4.setTop (mkF m 26 #[.val (.ref a1), .val (.int pu), .val (.int cur)] [(.int pu), (.int (kf ((hs + q) % 16)))]))
        refine own_st (fun _ kont => XS.iconst X4.here hx rfl (hb hby own_d3_26) kont) ?_
        show own_Go p e below s _ _ _ (T4.setTop (mkF m 27 #[.val (.ref a1), .val (.int pu), .val (.int cur)] [(.int (1 : Int32)), (.int pu), (.int (kf ((hs + q) % 16)))]))
        refine own_st (fun _ kont => XS.iadd X4.here hx rfl (hb hby own_d3_27) rfl kont) ?_
        show own_Go p e below s _ _ _ (T4.setTop (mkF m 28 #[.val (.ref a1), .val (.int pu), .val (.int cur)] [(.int (pu + (1 : Int32))), (.int (kf ((hs + q) % 16)))]))
        rcases Classical.em ((kf ((hs + q) % 16)) = (pu + (1 : Int32))) with c2 | c2
        · show own_Go p e below s _ _ _ (T4.setTop (mkF m 28 #[.val (.ref a1), .val (.int pu), .val (.int cur)] [(.int (pu + (1 : Int32))), (.int (kf ((hs + q) % 16)))]))
          refine own_st (fun _ kont => XS.icmpYes X4.here hx rfl (pc0 := 28) (pc' := 46) rfl (hb hby own_d3_28) rfl (teq c2).1 (by decide) (by decide) kont) ?_
          show own_Go p e below s _ _ _ (T4.setTop (mkF m 46 #[.val (.ref a1), .val (.int pu), .val (.int cur)] []))
          refine own_st (fun _ kont => XS.iloadN X4.here hx rfl (hb hby own_d3_46) rfl kont) ?_
          show own_Go p e below s _ _ _ (T4.setTop (mkF m 47 #[.val (.ref a1), .val (.int pu), .val (.int cur)] [(.int cur)]))
          exact own_endI X4 hx hlk hret (hb hby own_d3_47) ⟨⟨_, _, rfl, hc, Nat.mod_lt _ (by omega), q, rfl, hp, Or.inr c2⟩, e4, rfl⟩ (by decide) (by decide)
        · show own_Go p e below s _ _ _ (T4.setTop (mkF m 28 #[.val (.ref a1), .val (.int pu), .val (.int cur)] [(.int (pu + (1 : Int32))), (.int (kf ((hs + q) % 16)))]))
          refine own_st (fun _ kont => XS.icmpNo X4.here hx rfl (hb hby own_d3_28) rfl (feq c2).1 kont) ?_
          show own_Go p e below s _ _ _ (T4.setTop (mkF m 31 #[.val (.ref a1), .val (.int pu), .val (.int cur)] []))
          refine own_st (fun _ kont => XS.iloadN X4.here hx rfl (hb hby own_d3_31) rfl kont) ?_
          show own_Go p e below s _ _ _ (T4.setTop (mkF m 32 #[.val (.ref a1), .val (.int pu), .val (.int cur)] [(.int cur)]))
          refine own_st (fun _ kont => XS.iconst X4.here hx rfl (hb hby own_d3_32) kont) ?_
          show own_Go p e below s _ _ _ (T4.setTop (mkF m 33 #[.val (.ref a1), .val (.int pu), .val (.int cur)] [(.int (1 : Int32)), (.int cur)]))
          refine own_st (fun _ kont => XS.iadd X4.here hx rfl (hb hby own_d3_33) rfl kont) ?_
          show own_Go p e below s _ _ _ (T4.setTop (mkF m 34 #[.val (.ref a1), .val (.int pu), .val (.int cur)] [(.int (cur + (1 : Int32)))]))
          refine own_st (fun _ kont => XS.aloadN X4.here hx rfl (hb hby own_d3_34) rfl rfl kont) ?_
          show own_Go p e below s _ _ _ (T4.setTop (mkF m 35 #[.val (.ref a1), .val (.int pu), .val (.int cur)] [(.ref a1), (.int (cur + (1 : Int32)))]))
          obtain ⟨T5, X5, e5, st5⟩ := getF X4 hx hZ hown (host := "") (Or.inl (hw _ (List.mem_of_getElem? (i := 14) rfl))) Via.refl e4 Fk (g := (mkF m 35 #[.val (.ref a1), .val (.int pu), .val (.int cur)] [(.ref a1), (.int (cur + (1 : Int32)))])) rfl rfl (hb hby own_d3_35)
          refine own_st st5 ?_
          show own_Go p e below s _ _ _ (T5.setTop (mkF m 38 #[.val (.ref a1), .val (.int pu), .val (.int cur)] [(.ref ka), (.int (cur + (1 : Int32)))]))
          refine own_st (own_len X5 hx hZ e5 V (z := (16 : Int32)) (by decide) (g := (mkF m 38 #[.val (.ref a1), .val (.int pu), .val (.int cur)] [(.ref ka), (.int (cur + (1 : Int32)))])) rfl rfl (hb hby own_d3_38)) ?_
          show own_Go p e below s _ _ _ (T5.setTop (mkF m 39 #[.val (.ref a1), .val (.int pu), .val (.int cur)] [(.int (16 : Int32)), (.int (cur + (1 : Int32)))]))
          refine own_st (fun _ kont => XS.iconst X5.here hx rfl (hb hby own_d3_39) kont) ?_
          show own_Go p e below s _ _ _ (T5.setTop (mkF m 40 #[.val (.ref a1), .val (.int pu), .val (.int cur)] [(.int (1 : Int32)), (.int (16 : Int32)), (.int (cur + (1 : Int32)))]))
          refine own_st (fun _ kont => XS.isub X5.here hx rfl (hb hby own_d3_40) rfl kont) ?_
          show own_Go p e below s _ _ _ (T5.setTop (mkF m 41 #[.val (.ref a1), .val (.int pu), .val (.int cur)] [(.int (15 : Int32)), (.int (cur + (1 : Int32)))]))
          refine own_st (fun _ kont => XS.iand X5.here hx rfl (hb hby own_d3_41) rfl kont) ?_
          show own_Go p e below s _ _ _ (T5.setTop (mkF m 42 #[.val (.ref a1), .val (.int pu), .val (.int cur)] [(.int ((cur + (1 : Int32)) &&& (15 : Int32)))]))
          refine own_st (fun _ kont => XS.istoreN X5.here hx rfl (hb hby own_d3_42) rfl (l' := #[.val (.ref a1), .val (.int pu), .val (.int ((cur + (1 : Int32)) &&& (15 : Int32)))]) rfl kont) ?_
          show own_Go p e below s _ _ _ (T5.setTop (mkF m 43 #[.val (.ref a1), .val (.int pu), .val (.int ((cur + (1 : Int32)) &&& (15 : Int32)))] []))
          refine own_st (fun _ kont => XS.goto X5.here hx rfl (pc0 := 43) (pc' := 10) rfl (hb hby own_d3_43) (by decide) (by decide) kont) ?_
          show own_Go p e below s _ _ _ (T5.setTop (mkF m 10 #[.val (.ref a1), .val (.int pu), .val (.int ((cur + (1 : Int32)) &&& (15 : Int32)))] []))
          refine ih (q + 1) _ _ (by rw [← hk]; congr 1; omega) ?_ (fun t ht => ?_) X5 e5
          · rw [own_and (c := (hs + q) % 16 + 1) (m := 4) (own_addN hc (by decide) (by omega)) (by decide) (by omega)]
            congr 1
            show ((hs + q) % 16 + 1) % 16 = (hs + (q + 1)) % 16
            omega
          · by_cases e : t = q
            · subst e; exact ⟨c1, c2⟩
            · exact hp t (by omega)
  show own_Go p e below s _ _ _ (T1.setTop (mkF m 10 #[.val (.ref a1), .val (.int pu), .val (.int (XT.ushr (pu * (-1640531527 : Int32)) (28 : Int32)))] []))
  exact loop ((z + 16 - hs) % 16) 0 _ _ (by omega) (by rw [hh]; congr 1; omega) (fun t ht => absurd ht (by omega)) X1 e1
theorem own_pd0 : parseMethodDescriptor "(I)I" = some ⟨[.int], some .int⟩ := by decide +kernel
theorem own_d4_0 : decode prog_59_method_3_code 0 = .ok (.aload_n 0, 1) := by decide +kernel
theorem own_d4_1 : decode prog_59_method_3_code 1 = .ok (.iload_n 1, 1) := by decide +kernel
theorem own_d4_2 : decode prog_59_method_3_code 2 = .ok (.invokevirtual 23, 3) := by decide +kernel
theorem own_d4_5 : decode prog_59_method_3_code 5 = .ok (.istore_n 2, 1) := by decide +kernel
theorem own_d4_6 : decode prog_59_method_3_code 6 = .ok (.aload_n 0, 1) := by decide +kernel
theorem own_d4_7 : decode prog_59_method_3_code 7 = .ok (.getfield 7, 3) := by decide +kernel
theorem own_d4_10 : decode prog_59_method_3_code 10 = .ok (.iload_n 2, 1) := by decide +kernel
theorem own_d4_11 : decode prog_59_method_3_code 11 = .ok (.iaload, 1) := by decide +kernel
theorem own_d4_12 : decode prog_59_method_3_code 12 = .ok (.ifCond .ne 7, 3) := by decide +kernel
theorem own_d4_15 : decode prog_59_method_3_code 15 = .ok (.iconst (-1), 1) := by decide +kernel
theorem own_d4_16 : decode prog_59_method_3_code 16 = .ok (.goto 9, 3) := by decide +kernel
theorem own_d4_19 : decode prog_59_method_3_code 19 = .ok (.aload_n 0, 1) := by decide +kernel
theorem own_d4_20 : decode prog_59_method_3_code 20 = .ok (.getfield 13, 3) := by decide +kernel
theorem own_d4_23 : decode prog_59_method_3_code 23 = .ok (.iload_n 2, 1) := by decide +kernel
theorem own_d4_24 : decode prog_59_method_3_code 24 = .ok (.iaload, 1) := by decide +kernel
theorem own_d4_25 : decode prog_59_method_3_code 25 = .ok (.ireturn, 1) := by decide +kernel
theorem own_pn4 : plainFor (⟨"com/example/hop_gate/hopgate/UserIndex", "find", "(I)I"⟩ : MethodName) = true := by first | exact plainFor_of_name (show plainName "com/example/hop_gate/hopgate/UserIndex" = true by first | (simp [plainName, overriddenIn]; done) | decide +kernel) | decide +kernel
theorem own_ef4 (m : MethodId) (x0 : Addr) (x1 : Int32) : entryFrame m #[(.ref x0), (.int x1)] 3 = mkF m 0 #[.val (.ref x0), .val (.int x1), .unset] [] := by first | (simp [entryFrame, mkF, argsToLocals, Value.category]; done) | rfl
set_option maxRecDepth 65536 in
set_option maxHeartbeats 40000000 in
theorem own_rm5 (l : Launch) (Z : State) (a0 : Array Value) (hw : ∀ d ∈ tables_1, d.before a0 Z = true) (a1 : Addr) (pu : Int32) (ka na : Addr) (kf nf : Nat → Int32) (S : Int32 → Int32 → Prop) (sz : Int32) (kk : Nat) (h0 : Heap) (n0 : Nat) (Z0 : n0 ≤ h0.size) (Vk : own_Av Z h0 ka .int 16 (fun t => .int (kf t))) (Vn : own_Av Z h0 na .int 16 (fun t => .int (nf t))) (Fk : Fld Z h0 a1 "com/example/hop_gate/hopgate/UserIndex" "keys" "[I" (.ref ka)) (Fn : Fld Z h0 a1 "com/example/hop_gate/hopgate/UserIndex" "numbers" "[I" (.ref na)) (Fs : Fld Z h0 a1 "com/example/hop_gate/hopgate/UserIndex" "shift" "I" (.int 28)) (Fz : Fld Z h0 a1 "com/example/hop_gate/hopgate/UserIndex" "size" "I" (.int sz)) (EX : Exa Z h0 a1 "com/example/hop_gate/hopgate/UserIndex") (HT : own_T 16 own_hs kf nf S) (hz : 16 ≤ own_zero kf 16 + kk) (hkk : kk ≤ 7) :
    own_Met l Z (⟨"com/example/hop_gate/hopgate/UserIndex", "find", "(I)I"⟩ : MethodName) prog_59_method_3_code 3 (some .int) ({ frames := 1, cells := 0, slots := 0, locals := 14 } : Room) #[(.ref a1), (.int pu)] h0 (fun v h' L => ((∃ n, S pu n ∧ v = some (.int n)) ∨ ((∀ n, ¬ S pu n) ∧ v = some (.int (-1)))) ∧ h' = h0 ∧ L = []) := by
  refine own_in own_pn4 ?_
  intro p e s m below meth c s₁ hx hby hml hown hnm hlk hret hZ X0 e0
  have N0 := Fr.nil n0
  refine own_ef (own_ef4 m a1 pu) ?_
  show own_Go p e below s _ _ _ (s₁.setTop (mkF m 0 #[.val (.ref a1), .val (.int pu), .unset] []))
  refine own_st (fun _ kont => XS.aloadN X0.here hx rfl (hb hby own_d4_0) rfl rfl kont) ?_
  show own_Go p e below s _ _ _ (s₁.setTop (mkF m 1 #[.val (.ref a1), .val (.int pu), .unset] [(.ref a1)]))
  refine own_st (fun _ kont => XS.iloadN X0.here hx rfl (hb hby own_d4_1) rfl kont) ?_
  show own_Go p e below s _ _ _ (s₁.setTop (mkF m 2 #[.val (.ref a1), .val (.int pu), .unset] [(.int pu), (.ref a1)]))
  obtain ⟨z, hzl, hz0⟩ := own_zero_pos (kf := kf) (n := 16) (by omega)
  refine own_cP X0 hx hml hZ hown (hw _ (List.mem_of_getElem? (i := 25) rfl)) (hw _ (List.mem_of_getElem? (i := 26) rfl)) (hw _ (List.mem_of_getElem? (i := 27) rfl)) (hw _ (List.mem_of_getElem? (i := 5) rfl)) (hw _ (List.mem_of_getElem? (i := 6) rfl)) (hw _ (List.mem_of_getElem? (i := 28) rfl)) (by decide) (own_rm4 l Z a0 hw a1 pu ka kf z h0 n0 Z0 Vk Fk Fs hzl hz0) e0 EX (by decide) (W := 0) (by decide) (g := (mkF m 2 #[.val (.ref a1), .val (.int pu), .unset] [(.int pu), (.ref a1)])) rfl rfl own_pd0 (argsL := [(.int pu)]) (rest := []) rfl rfl rfl (by show 2 * 0 + _ ≤ _; exact Nat.le_of_eq rfl) (hb hby own_d4_2) (by decide) (by decide) ?_
  intro T1 L1 v1 X1 hQ1
  obtain ⟨⟨zr, r, rfl, hzr, hr, hpl⟩, eh1, le1⟩ := hQ1
  have N1 := own_nil N0 le1
  show own_Go p e below s _ _ _ (T1.setTop (mkF m 5 #[.val (.ref a1), .val (.int pu), .unset] [(.int zr)]))
  refine own_st (fun _ kont => XS.istoreN X1.here hx rfl (hb hby own_d4_5) rfl (l' := #[.val (.ref a1), .val (.int pu), .val (.int zr)]) rfl kont) ?_
  show own_Go p e below s _ _ _ (T1.setTop (mkF m 6 #[.val (.ref a1), .val (.int pu), .val (.int zr)] []))
  refine own_st (fun _ kont => XS.aloadN X1.here hx rfl (hb hby own_d4_6) rfl rfl kont) ?_
  show own_Go p e below s _ _ _ (T1.setTop (mkF m 7 #[.val (.ref a1), .val (.int pu), .val (.int zr)] [(.ref a1)]))
  obtain ⟨T2, X2, e2, st2⟩ := getF X1 hx hZ hown (host := "") (Or.inl (hw _ (List.mem_of_getElem? (i := 14) rfl))) Via.refl eh1 Fk (g := (mkF m 7 #[.val (.ref a1), .val (.int pu), .val (.int zr)] [(.ref a1)])) rfl rfl (hb hby own_d4_7)
  refine own_st st2 ?_
  show own_Go p e below s _ _ _ (T2.setTop (mkF m 10 #[.val (.ref a1), .val (.int pu), .val (.int zr)] [(.ref ka)]))
  refine own_st (fun _ kont => XS.iloadN X2.here hx rfl (hb hby own_d4_10) rfl kont) ?_
  show own_Go p e below s _ _ _ (T2.setTop (mkF m 11 #[.val (.ref a1), .val (.int pu), .val (.int zr)] [(.int zr), (.ref ka)]))
  refine own_st (own_ldI X2 hx hZ e2 Vk (i := r) hzr hr (v := (.int (kf r))) rfl (g := (mkF m 11 #[.val (.ref a1), .val (.int pu), .val (.int zr)] [(.int zr), (.ref ka)])) rfl rfl (hb hby own_d4_11)) ?_
  show own_Go p e below s _ _ _ (T2.setTop (mkF m 12 #[.val (.ref a1), .val (.int pu), .val (.int zr)] [(.int (kf r))]))
  rcases Classical.em ((kf r) = (0 : Int32)) with c1 | c1
  · show own_Go p e below s _ _ _ (T2.setTop (mkF m 12 #[.val (.ref a1), .val (.int pu), .val (.int zr)] [(.int (kf r))]))
    refine own_st (fun _ kont => XS.ifNo X2.here hx rfl (hb hby own_d4_12) rfl ((if0 _ _).trans (teq c1).2) kont) ?_
    show own_Go p e below s _ _ _ (T2.setTop (mkF m 15 #[.val (.ref a1), .val (.int pu), .val (.int zr)] []))
    refine own_st (fun _ kont => XS.iconst X2.here hx rfl (hb hby own_d4_15) kont) ?_
    show own_Go p e below s _ _ _ (T2.setTop (mkF m 16 #[.val (.ref a1), .val (.int pu), .val (.int zr)] [(.int (-1 : Int32))]))
    refine own_st (fun _ kont => XS.goto X2.here hx rfl (pc0 := 16) (pc' := 25) rfl (hb hby own_d4_16) (by decide) (by decide) kont) ?_
    show own_Go p e below s _ _ _ (T2.setTop (mkF m 25 #[.val (.ref a1), .val (.int pu), .val (.int zr)] [(.int (-1 : Int32))]))
    exact own_endI X2 hx hlk hret (hb hby own_d4_25) ⟨Or.inr ⟨fun n hn => (own_T_hit (by omega) HT hn hpl).2.1 c1, rfl⟩, e2, le1⟩ (by decide) (by decide)
  · show own_Go p e below s _ _ _ (T2.setTop (mkF m 12 #[.val (.ref a1), .val (.int pu), .val (.int zr)] [(.int (kf r))]))
    refine own_st (fun _ kont => XS.ifYes X2.here hx rfl (pc0 := 12) (pc' := 19) rfl (hb hby own_d4_12) rfl ((if0 _ _).trans (feq c1).2) (by decide) (by decide) kont) ?_
    show own_Go p e below s _ _ _ (T2.setTop (mkF m 19 #[.val (.ref a1), .val (.int pu), .val (.int zr)] []))
    refine own_st (fun _ kont => XS.aloadN X2.here hx rfl (hb hby own_d4_19) rfl rfl kont) ?_
    show own_Go p e below s _ _ _ (T2.setTop (mkF m 20 #[.val (.ref a1), .val (.int pu), .val (.int zr)] [(.ref a1)]))
    obtain ⟨T3, X3, e3, st3⟩ := getF X2 hx hZ hown (host := "") (Or.inl (hw _ (List.mem_of_getElem? (i := 16) rfl))) Via.refl e2 Fn (g := (mkF m 20 #[.val (.ref a1), .val (.int pu), .val (.int zr)] [(.ref a1)])) rfl rfl (hb hby own_d4_20)
    refine own_st st3 ?_
    show own_Go p e below s _ _ _ (T3.setTop (mkF m 23 #[.val (.ref a1), .val (.int pu), .val (.int zr)] [(.ref na)]))
    refine own_st (fun _ kont => XS.iloadN X3.here hx rfl (hb hby own_d4_23) rfl kont) ?_
    show own_Go p e below s _ _ _ (T3.setTop (mkF m 24 #[.val (.ref a1), .val (.int pu), .val (.int zr)] [(.int zr), (.ref na)]))
    refine own_st (own_ldI X3 hx hZ e3 Vn (i := r) hzr hr (v := (.int (nf r))) rfl (g := (mkF m 24 #[.val (.ref a1), .val (.int pu), .val (.int zr)] [(.int zr), (.ref na)])) rfl rfl (hb hby own_d4_24)) ?_
    show own_Go p e below s _ _ _ (T3.setTop (mkF m 25 #[.val (.ref a1), .val (.int pu), .val (.int zr)] [(.int (nf r))]))
    have hres : S pu (nf r) := by
      rcases Classical.em (∃ n, S pu n) with ⟨n, hn⟩ | hn
      · rw [(own_T_hit (by omega) HT hn hpl).2.2]; exact hn
      · exact absurd (own_T_miss (by omega) HT (fun n h => hn ⟨n, h⟩) hpl) c1
    show own_Go p e below s _ _ _ (T3.setTop (mkF m 25 #[.val (.ref a1), .val (.int pu), .val (.int zr)] [(.int (nf r))]))
    exact own_endI X3 hx hlk hret (hb hby own_d4_25) ⟨Or.inl ⟨_, hres, rfl⟩, e3, le1⟩ (by decide) (by decide)
theorem own_d5_0 : decode prog_59_method_4_code 0 = .ok (.aload_n 0, 1) := by decide +kernel
theorem own_d5_1 : decode prog_59_method_4_code 1 = .ok (.iload_n 1, 1) := by decide +kernel
theorem own_d5_2 : decode prog_59_method_4_code 2 = .ok (.invokevirtual 23, 3) := by decide +kernel
theorem own_d5_5 : decode prog_59_method_4_code 5 = .ok (.istore_n 2, 1) := by decide +kernel
theorem own_d5_6 : decode prog_59_method_4_code 6 = .ok (.aload_n 0, 1) := by decide +kernel
theorem own_d5_7 : decode prog_59_method_4_code 7 = .ok (.getfield 7, 3) := by decide +kernel
theorem own_d5_10 : decode prog_59_method_4_code 10 = .ok (.iload_n 2, 1) := by decide +kernel
theorem own_d5_11 : decode prog_59_method_4_code 11 = .ok (.iaload, 1) := by decide +kernel
theorem own_d5_12 : decode prog_59_method_4_code 12 = .ok (.ifCond .ne 52, 3) := by decide +kernel
theorem own_d5_15 : decode prog_59_method_4_code 15 = .ok (.aload_n 0, 1) := by decide +kernel
theorem own_d5_16 : decode prog_59_method_4_code 16 = .ok (.dup, 1) := by decide +kernel
theorem own_d5_17 : decode prog_59_method_4_code 17 = .ok (.getfield 20, 3) := by decide +kernel
theorem own_d5_20 : decode prog_59_method_4_code 20 = .ok (.dup_x1, 1) := by decide +kernel
theorem own_d5_21 : decode prog_59_method_4_code 21 = .ok (.iconst 1, 1) := by decide +kernel
theorem own_d5_22 : decode prog_59_method_4_code 22 = .ok (.iadd, 1) := by decide +kernel
theorem own_d5_23 : decode prog_59_method_4_code 23 = .ok (.putfield 20, 3) := by decide +kernel
theorem own_d5_26 : decode prog_59_method_4_code 26 = .ok (.istore_n 3, 1) := by decide +kernel
theorem own_d5_27 : decode prog_59_method_4_code 27 = .ok (.aload_n 0, 1) := by decide +kernel
theorem own_d5_28 : decode prog_59_method_4_code 28 = .ok (.getfield 7, 3) := by decide +kernel
theorem own_d5_31 : decode prog_59_method_4_code 31 = .ok (.iload_n 2, 1) := by decide +kernel
theorem own_d5_32 : decode prog_59_method_4_code 32 = .ok (.iload_n 1, 1) := by decide +kernel
theorem own_d5_33 : decode prog_59_method_4_code 33 = .ok (.iconst 1, 1) := by decide +kernel
theorem own_d5_34 : decode prog_59_method_4_code 34 = .ok (.iadd, 1) := by decide +kernel
theorem own_d5_35 : decode prog_59_method_4_code 35 = .ok (.iastore, 1) := by decide +kernel
theorem own_d5_36 : decode prog_59_method_4_code 36 = .ok (.aload_n 0, 1) := by decide +kernel
theorem own_d5_37 : decode prog_59_method_4_code 37 = .ok (.getfield 13, 3) := by decide +kernel
theorem own_d5_40 : decode prog_59_method_4_code 40 = .ok (.iload_n 2, 1) := by decide +kernel
theorem own_d5_41 : decode prog_59_method_4_code 41 = .ok (.iload_n 3, 1) := by decide +kernel
theorem own_d5_42 : decode prog_59_method_4_code 42 = .ok (.iastore, 1) := by decide +kernel
theorem own_d5_43 : decode prog_59_method_4_code 43 = .ok (.iconst 2, 1) := by decide +kernel
theorem own_d5_44 : decode prog_59_method_4_code 44 = .ok (.aload_n 0, 1) := by decide +kernel
theorem own_d5_45 : decode prog_59_method_4_code 45 = .ok (.getfield 20, 3) := by decide +kernel
theorem own_d5_48 : decode prog_59_method_4_code 48 = .ok (.imul, 1) := by decide +kernel
theorem own_d5_49 : decode prog_59_method_4_code 49 = .ok (.aload_n 0, 1) := by decide +kernel
theorem own_d5_50 : decode prog_59_method_4_code 50 = .ok (.getfield 7, 3) := by decide +kernel
theorem own_d5_53 : decode prog_59_method_4_code 53 = .ok (.arraylength, 1) := by decide +kernel
theorem own_d5_54 : decode prog_59_method_4_code 54 = .ok (.if_icmp .le 17, 3) := by decide +kernel
theorem own_d5_64 : decode prog_59_method_4_code 64 = .ok (.aload_n 0, 1) := by decide +kernel
theorem own_d5_65 : decode prog_59_method_4_code 65 = .ok (.getfield 13, 3) := by decide +kernel
theorem own_d5_68 : decode prog_59_method_4_code 68 = .ok (.iload_n 2, 1) := by decide +kernel
theorem own_d5_69 : decode prog_59_method_4_code 69 = .ok (.iaload, 1) := by decide +kernel
theorem own_d5_70 : decode prog_59_method_4_code 70 = .ok (.istore_n 3, 1) := by decide +kernel
theorem own_d5_71 : decode prog_59_method_4_code 71 = .ok (.iload_n 3, 1) := by decide +kernel
theorem own_d5_72 : decode prog_59_method_4_code 72 = .ok (.ireturn, 1) := by decide +kernel
theorem own_pn5 : plainFor (⟨"com/example/hop_gate/hopgate/UserIndex", "add", "(I)I"⟩ : MethodName) = true := by first | exact plainFor_of_name (show plainName "com/example/hop_gate/hopgate/UserIndex" = true by first | (simp [plainName, overriddenIn]; done) | decide +kernel) | decide +kernel
theorem own_ef5 (m : MethodId) (x0 : Addr) (x1 : Int32) : entryFrame m #[(.ref x0), (.int x1)] 4 = mkF m 0 #[.val (.ref x0), .val (.int x1), .unset, .unset] [] := by first | (simp [entryFrame, mkF, argsToLocals, Value.category]; done) | rfl
set_option maxRecDepth 65536 in
set_option maxHeartbeats 40000000 in
theorem own_rm6 (l : Launch) (Z : State) (a0 : Array Value) (hw : ∀ d ∈ tables_1, d.before a0 Z = true) (a1 : Addr) (pu : Int32) (ka na : Addr) (kf nf : Nat → Int32) (S : Int32 → Int32 → Prop) (sz : Int32) (kk : Nat) (h0 : Heap) (n0 : Nat) (Z0 : n0 ≤ h0.size) (Vk : own_Av Z h0 ka .int 16 (fun t => .int (kf t))) (Vn : own_Av Z h0 na .int 16 (fun t => .int (nf t))) (Fk : Fld Z h0 a1 "com/example/hop_gate/hopgate/UserIndex" "keys" "[I" (.ref ka)) (Fn : Fld Z h0 a1 "com/example/hop_gate/hopgate/UserIndex" "numbers" "[I" (.ref na)) (Fs : Fld Z h0 a1 "com/example/hop_gate/hopgate/UserIndex" "shift" "I" (.int 28)) (Fz : Fld Z h0 a1 "com/example/hop_gate/hopgate/UserIndex" "size" "I" (.int sz)) (EX : Exa Z h0 a1 "com/example/hop_gate/hopgate/UserIndex") (HT : own_T 16 own_hs kf nf S) (hz : 16 ≤ own_zero kf 16 + kk) (hkk : kk ≤ 7) (hs0 : 0 ≤ sz.toInt) (hsk : sz.toInt ≤ kk) (hpu : pu + 1 ≠ 0) (fr_a1 : n0 ≤ a1) (fr_ka : n0 ≤ ka) (fr_na : n0 ≤ na) (nak : a1 ≠ ka) (nan : a1 ≠ na) (nkn : ka ≠ na) :
    own_Met l Z (⟨"com/example/hop_gate/hopgate/UserIndex", "add", "(I)I"⟩ : MethodName) prog_59_method_4_code 4 (some .int) ({ frames := 1, cells := 0, slots := 0, locals := 14 } : Room) #[(.ref a1), (.int pu)] h0 (fun v h' L => ∃ (d sz' : Int32) (kf' nf' : Nat → Int32) (S' : Int32 → Int32 → Prop), v = some (.int d) ∧ Fr n0 L ∧ Keep h0 h' [a1, ka, na] ∧ Fld Z h' a1 "com/example/hop_gate/hopgate/UserIndex" "keys" "[I" (.ref ka) ∧ Fld Z h' a1 "com/example/hop_gate/hopgate/UserIndex" "numbers" "[I" (.ref na) ∧ Fld Z h' a1 "com/example/hop_gate/hopgate/UserIndex" "shift" "I" (.int 28) ∧ Fld Z h' a1 "com/example/hop_gate/hopgate/UserIndex" "size" "I" (.int sz') ∧ own_Av Z h' ka .int 16 (fun t => .int (kf' t)) ∧ own_Av Z h' na .int 16 (fun t => .int (nf' t)) ∧ own_T 16 own_hs kf' nf' S' ∧ 16 ≤ own_zero kf' 16 + (kk + 1) ∧ 0 ≤ sz'.toInt ∧ sz'.toInt ≤ kk + 1 ∧ ((S' = S ∧ S pu d ∧ sz' = sz) ∨ ((∀ n, ¬ S pu n) ∧ d = sz ∧ sz' = sz + 1 ∧ S' = fun u n => S u n ∨ (u = pu ∧ n = sz)))) := by
  refine own_in own_pn5 ?_
  intro p e s m below meth c s₁ hx hby hml hown hnm hlk hret hZ X0 e0
  have N0 := Fr.nil n0
  refine own_ef (own_ef5 m a1 pu) ?_
  show own_Go p e below s _ _ _ (s₁.setTop (mkF m 0 #[.val (.ref a1), .val (.int pu), .unset, .unset] []))
  refine own_st (fun _ kont => XS.aloadN X0.here hx rfl (hb hby own_d5_0) rfl rfl kont) ?_
  show own_Go p e below s _ _ _ (s₁.setTop (mkF m 1 #[.val (.ref a1), .val (.int pu), .unset, .unset] [(.ref a1)]))
  refine own_st (fun _ kont => XS.iloadN X0.here hx rfl (hb hby own_d5_1) rfl kont) ?_
  show own_Go p e below s _ _ _ (s₁.setTop (mkF m 2 #[.val (.ref a1), .val (.int pu), .unset, .unset] [(.int pu), (.ref a1)]))
  obtain ⟨z, hzl, hz0⟩ := own_zero_pos (kf := kf) (n := 16) (by omega)
  refine own_cP X0 hx hml hZ hown (hw _ (List.mem_of_getElem? (i := 25) rfl)) (hw _ (List.mem_of_getElem? (i := 26) rfl)) (hw _ (List.mem_of_getElem? (i := 27) rfl)) (hw _ (List.mem_of_getElem? (i := 5) rfl)) (hw _ (List.mem_of_getElem? (i := 6) rfl)) (hw _ (List.mem_of_getElem? (i := 28) rfl)) (by decide) (own_rm4 l Z a0 hw a1 pu ka kf z h0 n0 Z0 Vk Fk Fs hzl hz0) e0 EX (by decide) (W := 0) (by decide) (g := (mkF m 2 #[.val (.ref a1), .val (.int pu), .unset, .unset] [(.int pu), (.ref a1)])) rfl rfl own_pd0 (argsL := [(.int pu)]) (rest := []) rfl rfl rfl (by show 2 * 0 + _ ≤ _; exact Nat.le_of_eq rfl) (hb hby own_d5_2) (by decide) (by decide) ?_
  intro T1 L1 v1 X1 hQ1
  obtain ⟨⟨zr, r, rfl, hzr, hr, hpl⟩, eh1, le1⟩ := hQ1
  have N1 := own_nil N0 le1
  show own_Go p e below s _ _ _ (T1.setTop (mkF m 5 #[.val (.ref a1), .val (.int pu), .unset, .unset] [(.int zr)]))
  refine own_st (fun _ kont => XS.istoreN X1.here hx rfl (hb hby own_d5_5) rfl (l' := #[.val (.ref a1), .val (.int pu), .val (.int zr), .unset]) rfl kont) ?_
  show own_Go p e below s _ _ _ (T1.setTop (mkF m 6 #[.val (.ref a1), .val (.int pu), .val (.int zr), .unset] []))
  refine own_st (fun _ kont => XS.aloadN X1.here hx rfl (hb hby own_d5_6) rfl rfl kont) ?_
  show own_Go p e below s _ _ _ (T1.setTop (mkF m 7 #[.val (.ref a1), .val (.int pu), .val (.int zr), .unset] [(.ref a1)]))
  obtain ⟨T2, X2, e2, st2⟩ := getF X1 hx hZ hown (host := "") (Or.inl (hw _ (List.mem_of_getElem? (i := 14) rfl))) Via.refl eh1 Fk (g := (mkF m 7 #[.val (.ref a1), .val (.int pu), .val (.int zr), .unset] [(.ref a1)])) rfl rfl (hb hby own_d5_7)
  refine own_st st2 ?_
  show own_Go p e below s _ _ _ (T2.setTop (mkF m 10 #[.val (.ref a1), .val (.int pu), .val (.int zr), .unset] [(.ref ka)]))
  refine own_st (fun _ kont => XS.iloadN X2.here hx rfl (hb hby own_d5_10) rfl kont) ?_
  show own_Go p e below s _ _ _ (T2.setTop (mkF m 11 #[.val (.ref a1), .val (.int pu), .val (.int zr), .unset] [(.int zr), (.ref ka)]))
  refine own_st (own_ldI X2 hx hZ e2 Vk (i := r) hzr hr (v := (.int (kf r))) rfl (g := (mkF m 11 #[.val (.ref a1), .val (.int pu), .val (.int zr), .unset] [(.int zr), (.ref ka)])) rfl rfl (hb hby own_d5_11)) ?_
  show own_Go p e below s _ _ _ (T2.setTop (mkF m 12 #[.val (.ref a1), .val (.int pu), .val (.int zr), .unset] [(.int (kf r))]))
  rcases Classical.em ((kf r) = (0 : Int32)) with c1 | c1
  · show own_Go p e below s _ _ _ (T2.setTop (mkF m 12 #[.val (.ref a1), .val (.int pu), .val (.int zr), .unset] [(.int (kf r))]))
    refine own_st (fun _ kont => XS.ifNo X2.here hx rfl (hb hby own_d5_12) rfl ((if0 _ _).trans (teq c1).2) kont) ?_
    show own_Go p e below s _ _ _ (T2.setTop (mkF m 15 #[.val (.ref a1), .val (.int pu), .val (.int zr), .unset] []))
    have hno : ∀ n, ¬ S pu n := fun n hn => (own_T_hit (by omega) HT hn hpl).2.1 c1
    have hsz1 : (sz + (1 : Int32)).toInt = sz.toInt + 1 := by
      have c2 : ((1 : Int32)).toInt = 1 := by decide
      rw [own_add (by rw [c2]; omega) (by rw [c2]; omega), c2]
    show own_Go p e below s _ _ _ (T2.setTop (mkF m 15 #[.val (.ref a1), .val (.int pu), .val (.int zr), .unset] []))
    refine own_st (fun _ kont => XS.aloadN X2.here hx rfl (hb hby own_d5_15) rfl rfl kont) ?_
    show own_Go p e below s _ _ _ (T2.setTop (mkF m 16 #[.val (.ref a1), .val (.int pu), .val (.int zr), .unset] [(.ref a1)]))
    refine own_st (fun _ kont => XS.dup X2.here hx rfl (hb hby own_d5_16) rfl rfl kont) ?_
    show own_Go p e below s _ _ _ (T2.setTop (mkF m 17 #[.val (.ref a1), .val (.int pu), .val (.int zr), .unset] [(.ref a1), (.ref a1)]))
    obtain ⟨T4, X4, e4, st4⟩ := getF X2 hx hZ hown (host := "") (Or.inl (hw _ (List.mem_of_getElem? (i := 38) rfl))) Via.refl e2 Fz (g := (mkF m 17 #[.val (.ref a1), .val (.int pu), .val (.int zr), .unset] [(.ref a1), (.ref a1)])) rfl rfl (hb hby own_d5_17)
    refine own_st st4 ?_
    show own_Go p e below s _ _ _ (T4.setTop (mkF m 20 #[.val (.ref a1), .val (.int pu), .val (.int zr), .unset] [(.int sz), (.ref a1)]))
    refine own_st (fun _ kont => XS.dupX1 X4.here hx rfl (hb hby own_d5_20) rfl rfl rfl kont) ?_
    show own_Go p e below s _ _ _ (T4.setTop (mkF m 21 #[.val (.ref a1), .val (.int pu), .val (.int zr), .unset] [(.int sz), (.ref a1), (.int sz)]))
    refine own_st (fun _ kont => XS.iconst X4.here hx rfl (hb hby own_d5_21) kont) ?_
    show own_Go p e below s _ _ _ (T4.setTop (mkF m 22 #[.val (.ref a1), .val (.int pu), .val (.int zr), .unset] [(.int (1 : Int32)), (.int sz), (.ref a1), (.int sz)]))
    refine own_st (fun _ kont => XS.iadd X4.here hx rfl (hb hby own_d5_22) rfl kont) ?_
    show own_Go p e below s _ _ _ (T4.setTop (mkF m 23 #[.val (.ref a1), .val (.int pu), .val (.int zr), .unset] [(.int (sz + (1 : Int32))), (.ref a1), (.int sz)]))
    obtain ⟨T5, h5, X5, e5, W5, st5⟩ := putF X4 hx hZ hown (host := "") (Or.inl (hw _ (List.mem_of_getElem? (i := 38) rfl))) Via.refl e4 Fz EX (Or.inl (hw _ (List.mem_of_getElem? (i := 39) rfl))) (hw _ (List.mem_of_getElem? (i := 5) rfl)) (ty := .int) (by decide) rfl rfl (g := (mkF m 23 #[.val (.ref a1), .val (.int pu), .val (.int zr), .unset] [(.int (sz + (1 : Int32))), (.ref a1), (.int sz)])) rfl rfl (hb hby own_d5_23)
    have Fz_5 := Fz.same W5
    have Fk_5 := Fk.other W5 (Or.inr (slot_ne (Or.inl (hw _ (List.mem_of_getElem? (i := 15) rfl))) (Or.inl (hw _ (List.mem_of_getElem? (i := 39) rfl))) (by decide) (t := (.array .int)) (t' := .int) (by decide) (by decide)))
    have Fn_5 := Fn.other W5 (Or.inr (slot_ne (Or.inl (hw _ (List.mem_of_getElem? (i := 17) rfl))) (Or.inl (hw _ (List.mem_of_getElem? (i := 39) rfl))) (by decide) (t := (.array .int)) (t' := .int) (by decide) (by decide)))
    have Fs_5 := Fs.other W5 (Or.inr (slot_ne (Or.inl (hw _ (List.mem_of_getElem? (i := 19) rfl))) (Or.inl (hw _ (List.mem_of_getElem? (i := 39) rfl))) (by decide) (t := .int) (t' := .int) (by decide) (by decide)))
    have EX_5 := EX.wr W5
    have Vk_5 := Vk.other W5 (Ne.symm nak)
    have Vn_5 := Vn.other W5 (Ne.symm nan)
    have sz5 := Nat.le_trans Z0 (Keep.of_wr W5).1
    have K5 := (Keep.refl h0 [a1, ka, na]).wr W5 (Or.inl (List.mem_of_getElem? (i := 0) rfl))
    have N5 := Fr.snoc X5 N1 fr_a1
    refine own_st st5 ?_
    show own_Go p e below s _ _ _ (T5.setTop (mkF m 26 #[.val (.ref a1), .val (.int pu), .val (.int zr), .unset] [(.int sz)]))
    refine own_st (fun _ kont => XS.istoreN X5.here hx rfl (hb hby own_d5_26) rfl (l' := #[.val (.ref a1), .val (.int pu), .val (.int zr), .val (.int sz)]) rfl kont) ?_
    show own_Go p e below s _ _ _ (T5.setTop (mkF m 27 #[.val (.ref a1), .val (.int pu), .val (.int zr), .val (.int sz)] []))
    refine own_st (fun _ kont => XS.aloadN X5.here hx rfl (hb hby own_d5_27) rfl rfl kont) ?_
    show own_Go p e below s _ _ _ (T5.setTop (mkF m 28 #[.val (.ref a1), .val (.int pu), .val (.int zr), .val (.int sz)] [(.ref a1)]))
    obtain ⟨T6, X6, e6, st6⟩ := getF X5 hx hZ hown (host := "") (Or.inl (hw _ (List.mem_of_getElem? (i := 14) rfl))) Via.refl e5 Fk_5 (g := (mkF m 28 #[.val (.ref a1), .val (.int pu), .val (.int zr), .val (.int sz)] [(.ref a1)])) rfl rfl (hb hby own_d5_28)
    refine own_st st6 ?_
    show own_Go p e below s _ _ _ (T6.setTop (mkF m 31 #[.val (.ref a1), .val (.int pu), .val (.int zr), .val (.int sz)] [(.ref ka)]))
    refine own_st (fun _ kont => XS.iloadN X6.here hx rfl (hb hby own_d5_31) rfl kont) ?_
    show own_Go p e below s _ _ _ (T6.setTop (mkF m 32 #[.val (.ref a1), .val (.int pu), .val (.int zr), .val (.int sz)] [(.int zr), (.ref ka)]))
    refine own_st (fun _ kont => XS.iloadN X6.here hx rfl (hb hby own_d5_32) rfl kont) ?_
    show own_Go p e below s _ _ _ (T6.setTop (mkF m 33 #[.val (.ref a1), .val (.int pu), .val (.int zr), .val (.int sz)] [(.int pu), (.int zr), (.ref ka)]))
    refine own_st (fun _ kont => XS.iconst X6.here hx rfl (hb hby own_d5_33) kont) ?_
    show own_Go p e below s _ _ _ (T6.setTop (mkF m 34 #[.val (.ref a1), .val (.int pu), .val (.int zr), .val (.int sz)] [(.int (1 : Int32)), (.int pu), (.int zr), (.ref ka)]))
    refine own_st (fun _ kont => XS.iadd X6.here hx rfl (hb hby own_d5_34) rfl kont) ?_
    show own_Go p e below s _ _ _ (T6.setTop (mkF m 35 #[.val (.ref a1), .val (.int pu), .val (.int zr), .val (.int sz)] [(.int (pu + (1 : Int32))), (.int zr), (.ref ka)]))
    obtain ⟨T7, h7, X7, e7, W7, Vk_7, st7⟩ := own_stI X6 hx hZ e6 Vk_5 (i := r) hzr hr (g := (mkF m 35 #[.val (.ref a1), .val (.int pu), .val (.int zr), .val (.int sz)] [(.int (pu + (1 : Int32))), (.int zr), (.ref ka)])) rfl rfl (hb hby own_d5_35)
    have Fk_7 := Fk_5.other W7 (Or.inl nak)
    have Fn_7 := Fn_5.other W7 (Or.inl nak)
    have Fs_7 := Fs_5.other W7 (Or.inl nak)
    have EX_7 := EX_5.wr W7
    have Vn_7 := Vn_5.other W7 (Ne.symm nkn)
    have Fz_7 := Fz_5.other W7 (Or.inl nak)
    have sz7 := Nat.le_trans sz5 (Keep.of_wr W7).1
    have K7 := K5.wr W7 (Or.inl (List.mem_of_getElem? (i := 1) rfl))
    have N7 := Fr.snoc X7 N5 fr_ka
    refine own_st st7 ?_
    show own_Go p e below s _ _ _ (T7.setTop (mkF m 36 #[.val (.ref a1), .val (.int pu), .val (.int zr), .val (.int sz)] []))
    refine own_st (fun _ kont => XS.aloadN X7.here hx rfl (hb hby own_d5_36) rfl rfl kont) ?_
    show own_Go p e below s _ _ _ (T7.setTop (mkF m 37 #[.val (.ref a1), .val (.int pu), .val (.int zr), .val (.int sz)] [(.ref a1)]))
    obtain ⟨T8, X8, e8, st8⟩ := getF X7 hx hZ hown (host := "") (Or.inl (hw _ (List.mem_of_getElem? (i := 16) rfl))) Via.refl e7 Fn_7 (g := (mkF m 37 #[.val (.ref a1), .val (.int pu), .val (.int zr), .val (.int sz)] [(.ref a1)])) rfl rfl (hb hby own_d5_37)
    refine own_st st8 ?_
    show own_Go p e below s _ _ _ (T8.setTop (mkF m 40 #[.val (.ref a1), .val (.int pu), .val (.int zr), .val (.int sz)] [(.ref na)]))
    refine own_st (fun _ kont => XS.iloadN X8.here hx rfl (hb hby own_d5_40) rfl kont) ?_
    show own_Go p e below s _ _ _ (T8.setTop (mkF m 41 #[.val (.ref a1), .val (.int pu), .val (.int zr), .val (.int sz)] [(.int zr), (.ref na)]))
    refine own_st (fun _ kont => XS.iloadN X8.here hx rfl (hb hby own_d5_41) rfl kont) ?_
    show own_Go p e below s _ _ _ (T8.setTop (mkF m 42 #[.val (.ref a1), .val (.int pu), .val (.int zr), .val (.int sz)] [(.int sz), (.int zr), (.ref na)]))
    obtain ⟨T9, h9, X9, e9, W9, Vn_9, st9⟩ := own_stI X8 hx hZ e8 Vn_7 (i := r) hzr hr (g := (mkF m 42 #[.val (.ref a1), .val (.int pu), .val (.int zr), .val (.int sz)] [(.int sz), (.int zr), (.ref na)])) rfl rfl (hb hby own_d5_42)
    have Fk_9 := Fk_7.other W9 (Or.inl nan)
    have Fn_9 := Fn_7.other W9 (Or.inl nan)
    have Fs_9 := Fs_7.other W9 (Or.inl nan)
    have EX_9 := EX_7.wr W9
    have Fz_9 := Fz_7.other W9 (Or.inl nan)
    have Vk_9 := Vk_7.other W9 nkn
    have sz9 := Nat.le_trans sz7 (Keep.of_wr W9).1
    have K9 := K7.wr W9 (Or.inl (List.mem_of_getElem? (i := 2) rfl))
    have N9 := Fr.snoc X9 N7 fr_na
    refine own_st st9 ?_
    show own_Go p e below s _ _ _ (T9.setTop (mkF m 43 #[.val (.ref a1), .val (.int pu), .val (.int zr), .val (.int sz)] []))
    refine own_st (fun _ kont => XS.iconst X9.here hx rfl (hb hby own_d5_43) kont) ?_
    show own_Go p e below s _ _ _ (T9.setTop (mkF m 44 #[.val (.ref a1), .val (.int pu), .val (.int zr), .val (.int sz)] [(.int (2 : Int32))]))
    refine own_st (fun _ kont => XS.aloadN X9.here hx rfl (hb hby own_d5_44) rfl rfl kont) ?_
    show own_Go p e below s _ _ _ (T9.setTop (mkF m 45 #[.val (.ref a1), .val (.int pu), .val (.int zr), .val (.int sz)] [(.ref a1), (.int (2 : Int32))]))
    obtain ⟨T10, X10, e10, st10⟩ := getF X9 hx hZ hown (host := "") (Or.inl (hw _ (List.mem_of_getElem? (i := 38) rfl))) Via.refl e9 Fz_9 (g := (mkF m 45 #[.val (.ref a1), .val (.int pu), .val (.int zr), .val (.int sz)] [(.ref a1), (.int (2 : Int32))])) rfl rfl (hb hby own_d5_45)
    refine own_st st10 ?_
    show own_Go p e below s _ _ _ (T10.setTop (mkF m 48 #[.val (.ref a1), .val (.int pu), .val (.int zr), .val (.int sz)] [(.int (sz + (1 : Int32))), (.int (2 : Int32))]))
    refine own_st (fun _ kont => XS.imul X10.here hx rfl (hb hby own_d5_48) rfl kont) ?_
    show own_Go p e below s _ _ _ (T10.setTop (mkF m 49 #[.val (.ref a1), .val (.int pu), .val (.int zr), .val (.int sz)] [(.int ((2 : Int32) * (sz + (1 : Int32))))]))
    refine own_st (fun _ kont => XS.aloadN X10.here hx rfl (hb hby own_d5_49) rfl rfl kont) ?_
    show own_Go p e below s _ _ _ (T10.setTop (mkF m 50 #[.val (.ref a1), .val (.int pu), .val (.int zr), .val (.int sz)] [(.ref a1), (.int ((2 : Int32) * (sz + (1 : Int32))))]))
    obtain ⟨T11, X11, e11, st11⟩ := getF X10 hx hZ hown (host := "") (Or.inl (hw _ (List.mem_of_getElem? (i := 14) rfl))) Via.refl e10 Fk_9 (g := (mkF m 50 #[.val (.ref a1), .val (.int pu), .val (.int zr), .val (.int sz)] [(.ref a1), (.int ((2 : Int32) * (sz + (1 : Int32))))])) rfl rfl (hb hby own_d5_50)
    refine own_st st11 ?_
    show own_Go p e below s _ _ _ (T11.setTop (mkF m 53 #[.val (.ref a1), .val (.int pu), .val (.int zr), .val (.int sz)] [(.ref ka), (.int ((2 : Int32) * (sz + (1 : Int32))))]))
    refine own_st (own_len X11 hx hZ e11 Vk_9 (z := (16 : Int32)) (by decide) (g := (mkF m 53 #[.val (.ref a1), .val (.int pu), .val (.int zr), .val (.int sz)] [(.ref ka), (.int ((2 : Int32) * (sz + (1 : Int32))))])) rfl rfl (hb hby own_d5_53)) ?_
    show own_Go p e below s _ _ _ (T11.setTop (mkF m 54 #[.val (.ref a1), .val (.int pu), .val (.int zr), .val (.int sz)] [(.int (16 : Int32)), (.int ((2 : Int32) * (sz + (1 : Int32))))]))
    have hle : ¬ ((16 : Int32) < (2 : Int32) * (sz + (1 : Int32))) := by
      rw [own_lt32, Int32.toInt_mul, hsz1]
      have c2 : ((2 : Int32)).toInt = 2 := by decide
      have c3 : ((16 : Int32)).toInt = 16 := by decide
      rw [c2, c3, own_bm (by omega) (by omega)]
      omega
    show own_Go p e below s _ _ _ (T11.setTop (mkF m 54 #[.val (.ref a1), .val (.int pu), .val (.int zr), .val (.int sz)] [(.int (16 : Int32)), (.int ((2 : Int32) * (sz + (1 : Int32))))]))
    refine own_st (fun _ kont => XS.icmpYes X11.here hx rfl (pc0 := 54) (pc' := 71) rfl (hb hby own_d5_54) rfl (flt hle).2.2.2 (by decide) (by decide) kont) ?_
    show own_Go p e below s _ _ _ (T11.setTop (mkF m 71 #[.val (.ref a1), .val (.int pu), .val (.int zr), .val (.int sz)] []))
    refine own_st (fun _ kont => XS.iloadN X11.here hx rfl (hb hby own_d5_71) rfl kont) ?_
    show own_Go p e below s _ _ _ (T11.setTop (mkF m 72 #[.val (.ref a1), .val (.int pu), .val (.int zr), .val (.int sz)] [(.int sz)]))
    exact own_endI X11 hx hlk hret (hb hby own_d5_72) (by rw [e11]; exact ⟨_, _, _, _, _, rfl, N9, K9, Fk_9, Fn_9, Fs_9, Fz_9, Vk_9, Vn_9, own_T_ins (by omega) HT hno hpu hpl, by have := own_zero_set (n := 16) hr c1 hpu; omega, by rw [hsz1]; omega, by rw [hsz1]; omega, Or.inr ⟨hno, rfl, rfl, rfl⟩⟩) (by decide) (by decide)
  · show own_Go p e below s _ _ _ (T2.setTop (mkF m 12 #[.val (.ref a1), .val (.int pu), .val (.int zr), .unset] [(.int (kf r))]))
    refine own_st (fun _ kont => XS.ifYes X2.here hx rfl (pc0 := 12) (pc' := 64) rfl (hb hby own_d5_12) rfl ((if0 _ _).trans (feq c1).2) (by decide) (by decide) kont) ?_
    show own_Go p e below s _ _ _ (T2.setTop (mkF m 64 #[.val (.ref a1), .val (.int pu), .val (.int zr), .unset] []))
    refine own_st (fun _ kont => XS.aloadN X2.here hx rfl (hb hby own_d5_64) rfl rfl kont) ?_
    show own_Go p e below s _ _ _ (T2.setTop (mkF m 65 #[.val (.ref a1), .val (.int pu), .val (.int zr), .unset] [(.ref a1)]))
    obtain ⟨T3, X3, e3, st3⟩ := getF X2 hx hZ hown (host := "") (Or.inl (hw _ (List.mem_of_getElem? (i := 16) rfl))) Via.refl e2 Fn (g := (mkF m 65 #[.val (.ref a1), .val (.int pu), .val (.int zr), .unset] [(.ref a1)])) rfl rfl (hb hby own_d5_65)
    refine own_st st3 ?_
    show own_Go p e below s _ _ _ (T3.setTop (mkF m 68 #[.val (.ref a1), .val (.int pu), .val (.int zr), .unset] [(.ref na)]))
    refine own_st (fun _ kont => XS.iloadN X3.here hx rfl (hb hby own_d5_68) rfl kont) ?_
    show own_Go p e below s _ _ _ (T3.setTop (mkF m 69 #[.val (.ref a1), .val (.int pu), .val (.int zr), .unset] [(.int zr), (.ref na)]))
    refine own_st (own_ldI X3 hx hZ e3 Vn (i := r) hzr hr (v := (.int (nf r))) rfl (g := (mkF m 69 #[.val (.ref a1), .val (.int pu), .val (.int zr), .unset] [(.int zr), (.ref na)])) rfl rfl (hb hby own_d5_69)) ?_
    show own_Go p e below s _ _ _ (T3.setTop (mkF m 70 #[.val (.ref a1), .val (.int pu), .val (.int zr), .unset] [(.int (nf r))]))
    have hres : S pu (nf r) := by
      rcases Classical.em (∃ n, S pu n) with ⟨n, hn⟩ | hn
      · rw [(own_T_hit (by omega) HT hn hpl).2.2]; exact hn
      · exact absurd (own_T_miss (by omega) HT (fun n h => hn ⟨n, h⟩) hpl) c1
    show own_Go p e below s _ _ _ (T3.setTop (mkF m 70 #[.val (.ref a1), .val (.int pu), .val (.int zr), .unset] [(.int (nf r))]))
    refine own_st (fun _ kont => XS.istoreN X3.here hx rfl (hb hby own_d5_70) rfl (l' := #[.val (.ref a1), .val (.int pu), .val (.int zr), .val (.int (nf r))]) rfl kont) ?_
    show own_Go p e below s _ _ _ (T3.setTop (mkF m 71 #[.val (.ref a1), .val (.int pu), .val (.int zr), .val (.int (nf r))] []))
    refine own_st (fun _ kont => XS.iloadN X3.here hx rfl (hb hby own_d5_71) rfl kont) ?_
    show own_Go p e below s _ _ _ (T3.setTop (mkF m 72 #[.val (.ref a1), .val (.int pu), .val (.int zr), .val (.int (nf r))] [(.int (nf r))]))
    exact own_endI X3 hx hlk hret (hb hby own_d5_72) (by rw [e3]; exact ⟨_, _, _, _, _, rfl, N1, Keep.refl _ _, Fk, Fn, Fs, Fz, Vk, Vn, HT, by omega, hs0, by omega, Or.inl ⟨rfl, hres, rfl⟩⟩) (by decide) (by decide)
theorem own_pd1 : parseMethodDescriptor "()V" = some ⟨[], none⟩ := by decide +kernel
theorem own_pd2 : parseMethodDescriptor "(IIIII)I" = some ⟨[.int, .int, .int, .int, .int], some .int⟩ := by decide +kernel
theorem own_pn6 : plainFor x = true := by first | exact plainFor_of_name (show plainName "com/example/hop_gate/hopgate/UserIndexFindPinLaw" = true by first | (simp [plainName, overriddenIn]; done) | decide +kernel) | decide +kernel
theorem own_ef6 (m : MethodId) (x0 : Int32) (x1 : Int32) (x2 : Int32) (x3 : Int32) (x4 : Int32) : entryFrame m #[(.int x0), (.int x1), (.int x2), (.int x3), (.int x4)] maxLocals = mkF m 0 #[.val (.int x0), .val (.int x1), .val (.int x2), .val (.int x3), .val (.int x4), .unset, .unset, .unset, .unset, .unset, .unset] [] := by first | (simp [entryFrame, mkF, argsToLocals, Value.category, maxLocals]; done) | rfl
set_option maxRecDepth 65536 in
set_option maxHeartbeats 40000000 in
theorem own_rm0 (l : Launch) (Z : State) (a0 : Array Value) (hw : ∀ d ∈ tables_1, d.before a0 Z = true) (b0 b1 b2 aq an : Int32) (h0 : Heap) (n0 : Nat) (Z0 : n0 ≤ h0.size)  :
    own_Met l Z x code maxLocals ret room_1 #[(.int b0), (.int b1), (.int b2), (.int aq), (.int an)] h0 (fun v h' L => v = some (.int 1) ∧ Fr n0 L) := by
  refine own_in own_pn6 ?_
  intro p e s m below meth c s₁ hx hby hml hown hnm hlk hret hZ X0 e0
  have N0 := Fr.nil n0
  refine own_ef (own_ef6 m b0 b1 b2 aq an) ?_
  show own_Go p e below s _ _ _ (s₁.setTop (mkF m 0 #[.val (.int b0), .val (.int b1), .val (.int b2), .val (.int aq), .val (.int an), .unset, .unset, .unset, .unset, .unset, .unset] []))
  refine own_st (fun _ kont => XS.iloadN X0.here hx rfl (hb hby at_0) rfl kont) ?_
  show own_Go p e below s _ _ _ (s₁.setTop (mkF m 1 #[.val (.int b0), .val (.int b1), .val (.int b2), .val (.int aq), .val (.int an), .unset, .unset, .unset, .unset, .unset, .unset] [(.int b0)]))
  refine own_cS X0 hx hml hZ hown (hw _ (List.mem_of_getElem? (i := 0) rfl)) (hw _ (List.mem_of_getElem? (i := 1) rfl)) (hw _ (List.mem_of_getElem? (i := 2) rfl)) (hw _ (List.mem_of_getElem? (i := 3) rfl)) (by decide) (own_rm1 l Z a0 hw b0 h0 n0 Z0) e0 (by decide) (W := 0) (by decide) (g := (mkF m 1 #[.val (.int b0), .val (.int b1), .val (.int b2), .val (.int aq), .val (.int an), .unset, .unset, .unset, .unset, .unset, .unset] [(.int b0)])) rfl rfl own_pd0 (argsL := [(.int b0)]) (rest := []) rfl rfl rfl (by show 2 * 0 + _ ≤ _; exact Nat.le_of_eq rfl) (hb hby at_1) (by decide) (by decide) ?_
  intro T1 L1 v1 X1 hQ1
  obtain ⟨rfl, eh1, le1⟩ := hQ1
  have N1 := own_nil N0 le1
  show own_Go p e below s _ _ _ (T1.setTop (mkF m 4 #[.val (.int b0), .val (.int b1), .val (.int b2), .val (.int aq), .val (.int an), .unset, .unset, .unset, .unset, .unset, .unset] [(.int (own_fix b0))]))
  refine own_st (fun _ kont => XS.istore X1.here hx rfl (hb hby at_4) rfl (l' := #[.val (.int b0), .val (.int b1), .val (.int b2), .val (.int aq), .val (.int an), .val (.int (own_fix b0)), .unset, .unset, .unset, .unset, .unset]) rfl kont) ?_
  show own_Go p e below s _ _ _ (T1.setTop (mkF m 6 #[.val (.int b0), .val (.int b1), .val (.int b2), .val (.int aq), .val (.int an), .val (.int (own_fix b0)), .unset, .unset, .unset, .unset, .unset] []))
  refine own_st (fun _ kont => XS.iloadN X1.here hx rfl (hb hby at_6) rfl kont) ?_
  show own_Go p e below s _ _ _ (T1.setTop (mkF m 7 #[.val (.int b0), .val (.int b1), .val (.int b2), .val (.int aq), .val (.int an), .val (.int (own_fix b0)), .unset, .unset, .unset, .unset, .unset] [(.int b1)]))
  refine own_cS X1 hx hml hZ hown (hw _ (List.mem_of_getElem? (i := 0) rfl)) (hw _ (List.mem_of_getElem? (i := 1) rfl)) (hw _ (List.mem_of_getElem? (i := 2) rfl)) (hw _ (List.mem_of_getElem? (i := 3) rfl)) (by decide) (own_rm1 l Z a0 hw b1 h0 n0 Z0) eh1 (by decide) (W := 0) (by decide) (g := (mkF m 7 #[.val (.int b0), .val (.int b1), .val (.int b2), .val (.int aq), .val (.int an), .val (.int (own_fix b0)), .unset, .unset, .unset, .unset, .unset] [(.int b1)])) rfl rfl own_pd0 (argsL := [(.int b1)]) (rest := []) rfl rfl rfl (by show 2 * 0 + _ ≤ _; exact Nat.le_of_eq rfl) (hb hby at_7) (by decide) (by decide) ?_
  intro T2 L2 v2 X2 hQ2
  obtain ⟨rfl, eh2, le2⟩ := hQ2
  have N2 := own_nil N1 le2
  show own_Go p e below s _ _ _ (T2.setTop (mkF m 10 #[.val (.int b0), .val (.int b1), .val (.int b2), .val (.int aq), .val (.int an), .val (.int (own_fix b0)), .unset, .unset, .unset, .unset, .unset] [(.int (own_fix b1))]))
  refine own_st (fun _ kont => XS.istore X2.here hx rfl (hb hby at_10) rfl (l' := #[.val (.int b0), .val (.int b1), .val (.int b2), .val (.int aq), .val (.int an), .val (.int (own_fix b0)), .val (.int (own_fix b1)), .unset, .unset, .unset, .unset]) rfl kont) ?_
  show own_Go p e below s _ _ _ (T2.setTop (mkF m 12 #[.val (.int b0), .val (.int b1), .val (.int b2), .val (.int aq), .val (.int an), .val (.int (own_fix b0)), .val (.int (own_fix b1)), .unset, .unset, .unset, .unset] []))
  refine own_st (fun _ kont => XS.iloadN X2.here hx rfl (hb hby at_12) rfl kont) ?_
  show own_Go p e below s _ _ _ (T2.setTop (mkF m 13 #[.val (.int b0), .val (.int b1), .val (.int b2), .val (.int aq), .val (.int an), .val (.int (own_fix b0)), .val (.int (own_fix b1)), .unset, .unset, .unset, .unset] [(.int b2)]))
  refine own_cS X2 hx hml hZ hown (hw _ (List.mem_of_getElem? (i := 0) rfl)) (hw _ (List.mem_of_getElem? (i := 1) rfl)) (hw _ (List.mem_of_getElem? (i := 2) rfl)) (hw _ (List.mem_of_getElem? (i := 3) rfl)) (by decide) (own_rm1 l Z a0 hw b2 h0 n0 Z0) eh2 (by decide) (W := 0) (by decide) (g := (mkF m 13 #[.val (.int b0), .val (.int b1), .val (.int b2), .val (.int aq), .val (.int an), .val (.int (own_fix b0)), .val (.int (own_fix b1)), .unset, .unset, .unset, .unset] [(.int b2)])) rfl rfl own_pd0 (argsL := [(.int b2)]) (rest := []) rfl rfl rfl (by show 2 * 0 + _ ≤ _; exact Nat.le_of_eq rfl) (hb hby at_13) (by decide) (by decide) ?_
  intro T3 L3 v3 X3 hQ3
  obtain ⟨rfl, eh3, le3⟩ := hQ3
  have N3 := own_nil N2 le3
  show own_Go p e below s _ _ _ (T3.setTop (mkF m 16 #[.val (.int b0), .val (.int b1), .val (.int b2), .val (.int aq), .val (.int an), .val (.int (own_fix b0)), .val (.int (own_fix b1)), .unset, .unset, .unset, .unset] [(.int (own_fix b2))]))
  refine own_st (fun _ kont => XS.istore X3.here hx rfl (hb hby at_16) rfl (l' := #[.val (.int b0), .val (.int b1), .val (.int b2), .val (.int aq), .val (.int an), .val (.int (own_fix b0)), .val (.int (own_fix b1)), .val (.int (own_fix b2)), .unset, .unset, .unset]) rfl kont) ?_
  show own_Go p e below s _ _ _ (T3.setTop (mkF m 18 #[.val (.int b0), .val (.int b1), .val (.int b2), .val (.int aq), .val (.int an), .val (.int (own_fix b0)), .val (.int (own_fix b1)), .val (.int (own_fix b2)), .unset, .unset, .unset] []))
  refine own_st (fun _ kont => XS.iload X3.here hx rfl (hb hby at_18) rfl kont) ?_
  show own_Go p e below s _ _ _ (T3.setTop (mkF m 20 #[.val (.int b0), .val (.int b1), .val (.int b2), .val (.int aq), .val (.int an), .val (.int (own_fix b0)), .val (.int (own_fix b1)), .val (.int (own_fix b2)), .unset, .unset, .unset] [(.int an)]))
  refine own_st (fun _ kont => XS.iconst X3.here hx rfl (hb hby at_20) kont) ?_
  show own_Go p e below s _ _ _ (T3.setTop (mkF m 21 #[.val (.int b0), .val (.int b1), .val (.int b2), .val (.int aq), .val (.int an), .val (.int (own_fix b0)), .val (.int (own_fix b1)), .val (.int (own_fix b2)), .unset, .unset, .unset] [(.int (3 : Int32)), (.int an)]))
  refine own_st (fun _ kont => XS.iand X3.here hx rfl (hb hby at_21) rfl kont) ?_
  show own_Go p e below s _ _ _ (T3.setTop (mkF m 22 #[.val (.int b0), .val (.int b1), .val (.int b2), .val (.int aq), .val (.int an), .val (.int (own_fix b0)), .val (.int (own_fix b1)), .val (.int (own_fix b2)), .unset, .unset, .unset] [(.int (an &&& (3 : Int32)))]))
  refine own_st (fun _ kont => XS.istore X3.here hx rfl (hb hby at_22) rfl (l' := #[.val (.int b0), .val (.int b1), .val (.int b2), .val (.int aq), .val (.int an), .val (.int (own_fix b0)), .val (.int (own_fix b1)), .val (.int (own_fix b2)), .val (.int (an &&& (3 : Int32))), .unset, .unset]) rfl kont) ?_
  show own_Go p e below s _ _ _ (T3.setTop (mkF m 24 #[.val (.int b0), .val (.int b1), .val (.int b2), .val (.int aq), .val (.int an), .val (.int (own_fix b0)), .val (.int (own_fix b1)), .val (.int (own_fix b2)), .val (.int (an &&& (3 : Int32))), .unset, .unset] []))
  obtain ⟨ik, hik, hk3⟩ := own_mask an (3 : Int32) (k := 3) (by decide)
  suffices JJ4 : ∀ (ua ub uc k : Int32) (na1 : ua + 1 ≠ 0) (nb1 : ub + 1 ≠ 0) (nc1 : uc + 1 ≠ 0) (hk : k.toInt = (ik : Int)), own_Go p e below s (fun v h' L => v = some (.int 1) ∧ Fr n0 L) room_1.cells room_1.slots (T3.setTop (mkF m 24 #[.val (.int b0), .val (.int b1), .val (.int b2), .val (.int aq), .val (.int an), .val (.int ua), .val (.int ub), .val (.int uc), .val (.int k), .unset, .unset] [])) from JJ4 _ _ _ _ (own_fixp _) (own_fixp _) (own_fixp _) hik
  intro ua ub uc k na1 nb1 nc1 hk
  show own_Go p e below s _ _ _ (T3.setTop (mkF m 24 #[.val (.int b0), .val (.int b1), .val (.int b2), .val (.int aq), .val (.int an), .val (.int ua), .val (.int ub), .val (.int uc), .val (.int k), .unset, .unset] []))
  obtain ⟨T5, h5, X5, e5, E5, A5, D5, -, st5⟩ := newO X3 hx hZ hown (hw _ (List.mem_of_getElem? (i := 4) rfl)) (hw _ (List.mem_of_getElem? (i := 5) rfl)) (hw _ (List.mem_of_getElem? (i := 6) rfl)) eh3 (g := (mkF m 24 #[.val (.int b0), .val (.int b1), .val (.int b2), .val (.int aq), .val (.int an), .val (.int ua), .val (.int ub), .val (.int uc), .val (.int k), .unset, .unset] [])) rfl (hb hby at_24) (by decide) (by decide)
  obtain ⟨ui, g5⟩ : ∃ z, z = h0.size := ⟨_, rfl⟩
  rw [← g5] at A5 D5 st5
  have fr_ui : n0 ≤ ui := Nat.le_trans Z0 (Nat.le_of_eq g5.symm)
  have sz5 := Nat.le_trans Z0 E5.1
  have EXui := A5
  have Fui_keys : Fld Z h5 ui "com/example/hop_gate/hopgate/UserIndex" "keys" "[I" .null := D5 (Or.inl (hw _ (List.mem_of_getElem? (i := 15) rfl))) (ty := (.array .int)) (by decide)
  have Fui_numbers : Fld Z h5 ui "com/example/hop_gate/hopgate/UserIndex" "numbers" "[I" .null := D5 (Or.inl (hw _ (List.mem_of_getElem? (i := 17) rfl))) (ty := (.array .int)) (by decide)
  have Fui_shift : Fld Z h5 ui "com/example/hop_gate/hopgate/UserIndex" "shift" "I" (.int 0) := D5 (Or.inl (hw _ (List.mem_of_getElem? (i := 19) rfl))) (ty := .int) (by decide)
  have Fui_size : Fld Z h5 ui "com/example/hop_gate/hopgate/UserIndex" "size" "I" (.int 0) := D5 (Or.inl (hw _ (List.mem_of_getElem? (i := 39) rfl))) (ty := .int) (by decide)
  refine own_st st5 ?_
  show own_Go p e below s _ _ _ (T5.setTop (mkF m 27 #[.val (.int b0), .val (.int b1), .val (.int b2), .val (.int aq), .val (.int an), .val (.int ua), .val (.int ub), .val (.int uc), .val (.int k), .unset, .unset] [(.ref ui)]))
  refine own_st (fun _ kont => XS.dup X5.here hx rfl (hb hby at_27) rfl rfl kont) ?_
  show own_Go p e below s _ _ _ (T5.setTop (mkF m 28 #[.val (.int b0), .val (.int b1), .val (.int b2), .val (.int aq), .val (.int an), .val (.int ua), .val (.int ub), .val (.int uc), .val (.int k), .unset, .unset] [(.ref ui), (.ref ui)]))
  refine own_cN X5 hx hml hZ rfl hown (hw _ (List.mem_of_getElem? (i := 7) rfl)) (hw _ (List.mem_of_getElem? (i := 8) rfl)) (hw _ (List.mem_of_getElem? (i := 6) rfl)) (hw _ (List.mem_of_getElem? (i := 9) rfl)) (by decide) (own_rm3 l Z a0 hw ui h5 n0 sz5 Fui_keys Fui_numbers Fui_shift Fui_size EXui fr_ui) e5 (by decide) (W := 1) (by decide) (g := (mkF m 28 #[.val (.int b0), .val (.int b1), .val (.int b2), .val (.int aq), .val (.int an), .val (.int ua), .val (.int ub), .val (.int uc), .val (.int k), .unset, .unset] [(.ref ui), (.ref ui)])) rfl rfl own_pd1 (argsL := []) (rest := [(.ref ui)]) rfl rfl rfl (by show 2 * 0 + _ ≤ _; exact Nat.le_of_eq rfl) (hb hby at_28) (by decide) (by decide) ?_
  intro T6 L6 v6 X6 hQ6
  obtain ⟨ka, na, rfl, Nc6, K6, Fk6, Fn6, Fs6, Fz6, Vk6, Vn6, gk6, kn, gn6⟩ := hQ6
  have N6 := Fr.app N3 Nc6
  have EXui_6 := EXui.keep K6
  have sz6 := Nat.le_trans sz5 K6.1
  show own_Go p e below s _ _ _ (T6.setTop (mkF m 31 #[.val (.int b0), .val (.int b1), .val (.int b2), .val (.int aq), .val (.int an), .val (.int ua), .val (.int ub), .val (.int uc), .val (.int k), .unset, .unset] [(.ref ui)]))
  have fr_ka : n0 ≤ ka := Nat.le_trans sz5 gk6
  have fr_na : n0 ≤ na := Nat.le_trans sz5 gn6
  have nak : ui ≠ ka := Nat.ne_of_lt (Nat.lt_of_lt_of_le EXui.lt gk6)
  have nan : ui ≠ na := Nat.ne_of_lt (Nat.lt_of_lt_of_le EXui.lt gn6)
  refine own_st (fun _ kont => XS.astore X6.here hx rfl (hb hby at_31) rfl rfl (l' := #[.val (.int b0), .val (.int b1), .val (.int b2), .val (.int aq), .val (.int an), .val (.int ua), .val (.int ub), .val (.int uc), .val (.int k), .val (.ref ui), .unset]) rfl kont) ?_
  show own_Go p e below s _ _ _ (T6.setTop (mkF m 33 #[.val (.int b0), .val (.int b1), .val (.int b2), .val (.int aq), .val (.int an), .val (.int ua), .val (.int ub), .val (.int uc), .val (.int k), .val (.ref ui), .unset] []))
  have J75 : ∀ (Tl : State) (Ll : List Loc) (kf nf : Nat → Int32) (S : Int32 → Int32 → Prop) (sz : Int32) (kk : Nat), Stand p l e room_1 s m #[(.int b0), (.int b1), (.int b2), (.int aq), (.int an)] below meth c Tl Ll 3 36 → Fr n0 Ll → n0 ≤ Tl.heap.size → Exa Z Tl.heap ui "com/example/hop_gate/hopgate/UserIndex" → Fld Z Tl.heap ui "com/example/hop_gate/hopgate/UserIndex" "keys" "[I" (.ref ka) → Fld Z Tl.heap ui "com/example/hop_gate/hopgate/UserIndex" "numbers" "[I" (.ref na) → Fld Z Tl.heap ui "com/example/hop_gate/hopgate/UserIndex" "shift" "I" (.int 28) → Fld Z Tl.heap ui "com/example/hop_gate/hopgate/UserIndex" "size" "I" (.int sz) → own_Av Z Tl.heap ka .int 16 (fun t => .int (kf t)) → own_Av Z Tl.heap na .int 16 (fun t => .int (nf t)) → own_T 16 own_hs kf nf S → 16 ≤ own_zero kf 16 + kk → kk ≤ 7 → (∀ x, S x (own_ex x k ua ub uc) ∨ (own_ex x k ua ub uc = -1 ∧ ∀ n, ¬ S x n)) → own_Go p e below s (fun v h' L => v = some (.int 1) ∧ Fr n0 L) room_1.cells room_1.slots (Tl.setTop (mkF m 75 #[.val (.int b0), .val (.int b1), .val (.int b2), .val (.int aq), .val (.int an), .val (.int ua), .val (.int ub), .val (.int uc), .val (.int k), .val (.ref ui), .unset] [])) := by
    intro Tl Ll kf nf S sz kk Xl Nl szl EXl Fkl Fnl Fsl Fzl Vkl Vnl HT hz hkk hS
    show own_Go p e below s _ _ _ (Tl.setTop (mkF m 75 #[.val (.int b0), .val (.int b1), .val (.int b2), .val (.int aq), .val (.int an), .val (.int ua), .val (.int ub), .val (.int uc), .val (.int k), .val (.ref ui), .unset] []))
    refine own_st (fun _ kont => XS.aload Xl.here hx rfl (hb hby at_75) rfl rfl kont) ?_
    show own_Go p e below s _ _ _ (Tl.setTop (mkF m 77 #[.val (.int b0), .val (.int b1), .val (.int b2), .val (.int aq), .val (.int an), .val (.int ua), .val (.int ub), .val (.int uc), .val (.int k), .val (.ref ui), .unset] [(.ref ui)]))
    refine own_st (fun _ kont => XS.iloadN Xl.here hx rfl (hb hby at_77) rfl kont) ?_
    show own_Go p e below s _ _ _ (Tl.setTop (mkF m 78 #[.val (.int b0), .val (.int b1), .val (.int b2), .val (.int aq), .val (.int an), .val (.int ua), .val (.int ub), .val (.int uc), .val (.int k), .val (.ref ui), .unset] [(.int aq), (.ref ui)]))
    refine own_cV Xl hx hml hZ hown (hw _ (List.mem_of_getElem? (i := 20) rfl)) (hw _ (List.mem_of_getElem? (i := 21) rfl)) (hw _ (List.mem_of_getElem? (i := 23) rfl)) (hw _ (List.mem_of_getElem? (i := 22) rfl)) (hw _ (List.mem_of_getElem? (i := 6) rfl)) (hw _ (List.mem_of_getElem? (i := 24) rfl)) (by decide) (own_rm5 l Z a0 hw ui aq ka na kf nf S sz kk Tl.heap n0 szl Vkl Vnl Fkl Fnl Fsl Fzl EXl HT hz hkk) (rfl : Tl.heap = Tl.heap) EXl (by decide) (W := 0) (by decide) (g := (mkF m 78 #[.val (.int b0), .val (.int b1), .val (.int b2), .val (.int aq), .val (.int an), .val (.int ua), .val (.int ub), .val (.int uc), .val (.int k), .val (.ref ui), .unset] [(.int aq), (.ref ui)])) rfl rfl own_pd0 (argsL := [(.int aq)]) (rest := []) rfl rfl rfl (by show 2 * 0 + _ ≤ _; exact Nat.le_of_eq rfl) (hb hby at_78) (by decide) (by decide) ?_
    intro T7 L7 v7 X7 hQ7
    obtain ⟨hd7, eh7, le7⟩ := hQ7
    obtain rfl : v7 = some (.int (own_ex aq k ua ub uc)) := by
      rcases hd7 with ⟨n, hn, rfl⟩ | ⟨hn, rfl⟩
      · rcases hS aq with g | ⟨-, g⟩
        · rw [HT.2.2.1 _ _ _ g hn]
        · exact absurd hn (g n)
      · rcases hS aq with g | ⟨g, -⟩
        · exact absurd g (hn _)
        · rw [g]
    have N7 := own_nil Nl le7
    show own_Go p e below s _ _ _ (T7.setTop (mkF m 81 #[.val (.int b0), .val (.int b1), .val (.int b2), .val (.int aq), .val (.int an), .val (.int ua), .val (.int ub), .val (.int uc), .val (.int k), .val (.ref ui), .unset] [(.int (own_ex aq k ua ub uc))]))
    refine own_st (fun _ kont => XS.iloadN X7.here hx rfl (hb hby at_81) rfl kont) ?_
    show own_Go p e below s _ _ _ (T7.setTop (mkF m 82 #[.val (.int b0), .val (.int b1), .val (.int b2), .val (.int aq), .val (.int an), .val (.int ua), .val (.int ub), .val (.int uc), .val (.int k), .val (.ref ui), .unset] [(.int aq), (.int (own_ex aq k ua ub uc))]))
    refine own_st (fun _ kont => XS.iload X7.here hx rfl (hb hby at_82) rfl kont) ?_
    show own_Go p e below s _ _ _ (T7.setTop (mkF m 84 #[.val (.int b0), .val (.int b1), .val (.int b2), .val (.int aq), .val (.int an), .val (.int ua), .val (.int ub), .val (.int uc), .val (.int k), .val (.ref ui), .unset] [(.int k), (.int aq), (.int (own_ex aq k ua ub uc))]))
    refine own_st (fun _ kont => XS.iload X7.here hx rfl (hb hby at_84) rfl kont) ?_
    show own_Go p e below s _ _ _ (T7.setTop (mkF m 86 #[.val (.int b0), .val (.int b1), .val (.int b2), .val (.int aq), .val (.int an), .val (.int ua), .val (.int ub), .val (.int uc), .val (.int k), .val (.ref ui), .unset] [(.int ua), (.int k), (.int aq), (.int (own_ex aq k ua ub uc))]))
    refine own_st (fun _ kont => XS.iload X7.here hx rfl (hb hby at_86) rfl kont) ?_
    show own_Go p e below s _ _ _ (T7.setTop (mkF m 88 #[.val (.int b0), .val (.int b1), .val (.int b2), .val (.int aq), .val (.int an), .val (.int ua), .val (.int ub), .val (.int uc), .val (.int k), .val (.ref ui), .unset] [(.int ub), (.int ua), (.int k), (.int aq), (.int (own_ex aq k ua ub uc))]))
    refine own_st (fun _ kont => XS.iload X7.here hx rfl (hb hby at_88) rfl kont) ?_
    show own_Go p e below s _ _ _ (T7.setTop (mkF m 90 #[.val (.int b0), .val (.int b1), .val (.int b2), .val (.int aq), .val (.int an), .val (.int ua), .val (.int ub), .val (.int uc), .val (.int k), .val (.ref ui), .unset] [(.int uc), (.int ub), (.int ua), (.int k), (.int aq), (.int (own_ex aq k ua ub uc))]))
    refine own_cS X7 hx hml hZ hown (hw _ (List.mem_of_getElem? (i := 30) rfl)) (hw _ (List.mem_of_getElem? (i := 31) rfl)) (hw _ (List.mem_of_getElem? (i := 2) rfl)) (hw _ (List.mem_of_getElem? (i := 32) rfl)) (by decide) (own_rm2 l Z a0 hw aq k ua ub uc Tl.heap n0 szl) eh7 (by decide) (W := 1) (by decide) (g := (mkF m 90 #[.val (.int b0), .val (.int b1), .val (.int b2), .val (.int aq), .val (.int an), .val (.int ua), .val (.int ub), .val (.int uc), .val (.int k), .val (.ref ui), .unset] [(.int uc), (.int ub), (.int ua), (.int k), (.int aq), (.int (own_ex aq k ua ub uc))])) rfl rfl own_pd2 (argsL := [(.int aq), (.int k), (.int ua), (.int ub), (.int uc)]) (rest := [(.int (own_ex aq k ua ub uc))]) rfl rfl rfl (by show 2 * 0 + _ ≤ _; exact Nat.le_of_eq rfl) (hb hby at_90) (by decide) (by decide) ?_
    intro T8 L8 v8 X8 hQ8
    obtain ⟨rfl, eh8, le8⟩ := hQ8
    have N8 := own_nil N7 le8
    show own_Go p e below s _ _ _ (T8.setTop (mkF m 93 #[.val (.int b0), .val (.int b1), .val (.int b2), .val (.int aq), .val (.int an), .val (.int ua), .val (.int ub), .val (.int uc), .val (.int k), .val (.ref ui), .unset] [(.int (own_ex aq k ua ub uc)), (.int (own_ex aq k ua ub uc))]))
    refine own_st (fun _ kont => XS.icmpNo X8.here hx rfl (hb hby at_93) rfl (teq rfl).2 kont) ?_
    show own_Go p e below s _ _ _ (T8.setTop (mkF m 96 #[.val (.int b0), .val (.int b1), .val (.int b2), .val (.int aq), .val (.int an), .val (.int ua), .val (.int ub), .val (.int uc), .val (.int k), .val (.ref ui), .unset] []))
    refine own_st (fun _ kont => XS.iconst X8.here hx rfl (hb hby at_96) kont) ?_
    show own_Go p e below s _ _ _ (T8.setTop (mkF m 97 #[.val (.int b0), .val (.int b1), .val (.int b2), .val (.int aq), .val (.int an), .val (.int ua), .val (.int ub), .val (.int uc), .val (.int k), .val (.ref ui), .unset] [(.int (1 : Int32))]))
    refine own_st (fun _ kont => XS.goto X8.here hx rfl (pc0 := 97) (pc' := 101) rfl (hb hby at_97) (by decide) (by decide) kont) ?_
    show own_Go p e below s _ _ _ (T8.setTop (mkF m 101 #[.val (.int b0), .val (.int b1), .val (.int b2), .val (.int aq), .val (.int an), .val (.int ua), .val (.int ub), .val (.int uc), .val (.int k), .val (.ref ui), .unset] [(.int (1 : Int32))]))
    refine own_st (fun _ kont => XS.istore X8.here hx rfl (hb hby at_101) rfl (l' := #[.val (.int b0), .val (.int b1), .val (.int b2), .val (.int aq), .val (.int an), .val (.int ua), .val (.int ub), .val (.int uc), .val (.int k), .val (.ref ui), .val (.int (1 : Int32))]) rfl kont) ?_
    show own_Go p e below s _ _ _ (T8.setTop (mkF m 103 #[.val (.int b0), .val (.int b1), .val (.int b2), .val (.int aq), .val (.int an), .val (.int ua), .val (.int ub), .val (.int uc), .val (.int k), .val (.ref ui), .val (.int (1 : Int32))] []))
    refine own_st (fun _ kont => XS.iload X8.here hx rfl (hb hby at_103) rfl kont) ?_
    show own_Go p e below s _ _ _ (T8.setTop (mkF m 105 #[.val (.int b0), .val (.int b1), .val (.int b2), .val (.int aq), .val (.int an), .val (.int ua), .val (.int ub), .val (.int uc), .val (.int k), .val (.ref ui), .val (.int (1 : Int32))] [(.int (1 : Int32))]))
    refine own_st (fun _ kont => XS.aload X8.here hx rfl (hb hby at_105) rfl rfl kont) ?_
    show own_Go p e below s _ _ _ (T8.setTop (mkF m 107 #[.val (.int b0), .val (.int b1), .val (.int b2), .val (.int aq), .val (.int an), .val (.int ua), .val (.int ub), .val (.int uc), .val (.int k), .val (.ref ui), .val (.int (1 : Int32))] [(.ref ui), (.int (1 : Int32))]))
    refine own_st (fun _ kont => XS.iload X8.here hx rfl (hb hby at_107) rfl kont) ?_
    show own_Go p e below s _ _ _ (T8.setTop (mkF m 109 #[.val (.int b0), .val (.int b1), .val (.int b2), .val (.int aq), .val (.int an), .val (.int ua), .val (.int ub), .val (.int uc), .val (.int k), .val (.ref ui), .val (.int (1 : Int32))] [(.int ua), (.ref ui), (.int (1 : Int32))]))
    refine own_cV X8 hx hml hZ hown (hw _ (List.mem_of_getElem? (i := 20) rfl)) (hw _ (List.mem_of_getElem? (i := 21) rfl)) (hw _ (List.mem_of_getElem? (i := 23) rfl)) (hw _ (List.mem_of_getElem? (i := 22) rfl)) (hw _ (List.mem_of_getElem? (i := 6) rfl)) (hw _ (List.mem_of_getElem? (i := 24) rfl)) (by decide) (own_rm5 l Z a0 hw ui ua ka na kf nf S sz kk Tl.heap n0 szl Vkl Vnl Fkl Fnl Fsl Fzl EXl HT hz hkk) eh8 EXl (by decide) (W := 1) (by decide) (g := (mkF m 109 #[.val (.int b0), .val (.int b1), .val (.int b2), .val (.int aq), .val (.int an), .val (.int ua), .val (.int ub), .val (.int uc), .val (.int k), .val (.ref ui), .val (.int (1 : Int32))] [(.int ua), (.ref ui), (.int (1 : Int32))])) rfl rfl own_pd0 (argsL := [(.int ua)]) (rest := [(.int (1 : Int32))]) rfl rfl rfl (by show 2 * 0 + _ ≤ _; exact Nat.le_of_eq rfl) (hb hby at_109) (by decide) (by decide) ?_
    intro T9 L9 v9 X9 hQ9
    obtain ⟨hd9, eh9, le9⟩ := hQ9
    obtain rfl : v9 = some (.int (own_ex ua k ua ub uc)) := by
      rcases hd9 with ⟨n, hn, rfl⟩ | ⟨hn, rfl⟩
      · rcases hS ua with g | ⟨-, g⟩
        · rw [HT.2.2.1 _ _ _ g hn]
        · exact absurd hn (g n)
      · rcases hS ua with g | ⟨g, -⟩
        · exact absurd g (hn _)
        · rw [g]
    have N9 := own_nil N8 le9
    show own_Go p e below s _ _ _ (T9.setTop (mkF m 112 #[.val (.int b0), .val (.int b1), .val (.int b2), .val (.int aq), .val (.int an), .val (.int ua), .val (.int ub), .val (.int uc), .val (.int k), .val (.ref ui), .val (.int (1 : Int32))] [(.int (own_ex ua k ua ub uc)), (.int (1 : Int32))]))
    refine own_st (fun _ kont => XS.iload X9.here hx rfl (hb hby at_112) rfl kont) ?_
    show own_Go p e below s _ _ _ (T9.setTop (mkF m 114 #[.val (.int b0), .val (.int b1), .val (.int b2), .val (.int aq), .val (.int an), .val (.int ua), .val (.int ub), .val (.int uc), .val (.int k), .val (.ref ui), .val (.int (1 : Int32))] [(.int ua), (.int (own_ex ua k ua ub uc)), (.int (1 : Int32))]))
    refine own_st (fun _ kont => XS.iload X9.here hx rfl (hb hby at_114) rfl kont) ?_
    show own_Go p e below s _ _ _ (T9.setTop (mkF m 116 #[.val (.int b0), .val (.int b1), .val (.int b2), .val (.int aq), .val (.int an), .val (.int ua), .val (.int ub), .val (.int uc), .val (.int k), .val (.ref ui), .val (.int (1 : Int32))] [(.int k), (.int ua), (.int (own_ex ua k ua ub uc)), (.int (1 : Int32))]))
    refine own_st (fun _ kont => XS.iload X9.here hx rfl (hb hby at_116) rfl kont) ?_
    show own_Go p e below s _ _ _ (T9.setTop (mkF m 118 #[.val (.int b0), .val (.int b1), .val (.int b2), .val (.int aq), .val (.int an), .val (.int ua), .val (.int ub), .val (.int uc), .val (.int k), .val (.ref ui), .val (.int (1 : Int32))] [(.int ua), (.int k), (.int ua), (.int (own_ex ua k ua ub uc)), (.int (1 : Int32))]))
    refine own_st (fun _ kont => XS.iload X9.here hx rfl (hb hby at_118) rfl kont) ?_
    show own_Go p e below s _ _ _ (T9.setTop (mkF m 120 #[.val (.int b0), .val (.int b1), .val (.int b2), .val (.int aq), .val (.int an), .val (.int ua), .val (.int ub), .val (.int uc), .val (.int k), .val (.ref ui), .val (.int (1 : Int32))] [(.int ub), (.int ua), (.int k), (.int ua), (.int (own_ex ua k ua ub uc)), (.int (1 : Int32))]))
    refine own_st (fun _ kont => XS.iload X9.here hx rfl (hb hby at_120) rfl kont) ?_
    show own_Go p e below s _ _ _ (T9.setTop (mkF m 122 #[.val (.int b0), .val (.int b1), .val (.int b2), .val (.int aq), .val (.int an), .val (.int ua), .val (.int ub), .val (.int uc), .val (.int k), .val (.ref ui), .val (.int (1 : Int32))] [(.int uc), (.int ub), (.int ua), (.int k), (.int ua), (.int (own_ex ua k ua ub uc)), (.int (1 : Int32))]))
    refine own_cS X9 hx hml hZ hown (hw _ (List.mem_of_getElem? (i := 30) rfl)) (hw _ (List.mem_of_getElem? (i := 31) rfl)) (hw _ (List.mem_of_getElem? (i := 2) rfl)) (hw _ (List.mem_of_getElem? (i := 32) rfl)) (by decide) (own_rm2 l Z a0 hw ua k ua ub uc Tl.heap n0 szl) eh9 (by decide) (W := 2) (by decide) (g := (mkF m 122 #[.val (.int b0), .val (.int b1), .val (.int b2), .val (.int aq), .val (.int an), .val (.int ua), .val (.int ub), .val (.int uc), .val (.int k), .val (.ref ui), .val (.int (1 : Int32))] [(.int uc), (.int ub), (.int ua), (.int k), (.int ua), (.int (own_ex ua k ua ub uc)), (.int (1 : Int32))])) rfl rfl own_pd2 (argsL := [(.int ua), (.int k), (.int ua), (.int ub), (.int uc)]) (rest := [(.int (own_ex ua k ua ub uc)), (.int (1 : Int32))]) rfl rfl rfl (by show 2 * 0 + _ ≤ _; exact Nat.le_of_eq rfl) (hb hby at_122) (by decide) (by decide) ?_
    intro T10 L10 v10 X10 hQ10
    obtain ⟨rfl, eh10, le10⟩ := hQ10
    have N10 := own_nil N9 le10
    show own_Go p e below s _ _ _ (T10.setTop (mkF m 125 #[.val (.int b0), .val (.int b1), .val (.int b2), .val (.int aq), .val (.int an), .val (.int ua), .val (.int ub), .val (.int uc), .val (.int k), .val (.ref ui), .val (.int (1 : Int32))] [(.int (own_ex ua k ua ub uc)), (.int (own_ex ua k ua ub uc)), (.int (1 : Int32))]))
    refine own_st (fun _ kont => XS.icmpNo X10.here hx rfl (hb hby at_125) rfl (teq rfl).2 kont) ?_
    show own_Go p e below s _ _ _ (T10.setTop (mkF m 128 #[.val (.int b0), .val (.int b1), .val (.int b2), .val (.int aq), .val (.int an), .val (.int ua), .val (.int ub), .val (.int uc), .val (.int k), .val (.ref ui), .val (.int (1 : Int32))] [(.int (1 : Int32))]))
    refine own_st (fun _ kont => XS.iconst X10.here hx rfl (hb hby at_128) kont) ?_
    show own_Go p e below s _ _ _ (T10.setTop (mkF m 129 #[.val (.int b0), .val (.int b1), .val (.int b2), .val (.int aq), .val (.int an), .val (.int ua), .val (.int ub), .val (.int uc), .val (.int k), .val (.ref ui), .val (.int (1 : Int32))] [(.int (1 : Int32)), (.int (1 : Int32))]))
    refine own_st (fun _ kont => XS.goto X10.here hx rfl (pc0 := 129) (pc' := 133) rfl (hb hby at_129) (by decide) (by decide) kont) ?_
    show own_Go p e below s _ _ _ (T10.setTop (mkF m 133 #[.val (.int b0), .val (.int b1), .val (.int b2), .val (.int aq), .val (.int an), .val (.int ua), .val (.int ub), .val (.int uc), .val (.int k), .val (.ref ui), .val (.int (1 : Int32))] [(.int (1 : Int32)), (.int (1 : Int32))]))
    refine own_st (fun _ kont => XS.iand X10.here hx rfl (hb hby at_133) rfl kont) ?_
    show own_Go p e below s _ _ _ (T10.setTop (mkF m 134 #[.val (.int b0), .val (.int b1), .val (.int b2), .val (.int aq), .val (.int an), .val (.int ua), .val (.int ub), .val (.int uc), .val (.int k), .val (.ref ui), .val (.int (1 : Int32))] [(.int (1 : Int32))]))
    refine own_st (fun _ kont => XS.istore X10.here hx rfl (hb hby at_134) rfl (l' := #[.val (.int b0), .val (.int b1), .val (.int b2), .val (.int aq), .val (.int an), .val (.int ua), .val (.int ub), .val (.int uc), .val (.int k), .val (.ref ui), .val (.int (1 : Int32))]) rfl kont) ?_
    show own_Go p e below s _ _ _ (T10.setTop (mkF m 136 #[.val (.int b0), .val (.int b1), .val (.int b2), .val (.int aq), .val (.int an), .val (.int ua), .val (.int ub), .val (.int uc), .val (.int k), .val (.ref ui), .val (.int (1 : Int32))] []))
    refine own_st (fun _ kont => XS.iload X10.here hx rfl (hb hby at_136) rfl kont) ?_
    show own_Go p e below s _ _ _ (T10.setTop (mkF m 138 #[.val (.int b0), .val (.int b1), .val (.int b2), .val (.int aq), .val (.int an), .val (.int ua), .val (.int ub), .val (.int uc), .val (.int k), .val (.ref ui), .val (.int (1 : Int32))] [(.int (1 : Int32))]))
    refine own_st (fun _ kont => XS.aload X10.here hx rfl (hb hby at_138) rfl rfl kont) ?_
    show own_Go p e below s _ _ _ (T10.setTop (mkF m 140 #[.val (.int b0), .val (.int b1), .val (.int b2), .val (.int aq), .val (.int an), .val (.int ua), .val (.int ub), .val (.int uc), .val (.int k), .val (.ref ui), .val (.int (1 : Int32))] [(.ref ui), (.int (1 : Int32))]))
    refine own_st (fun _ kont => XS.iload X10.here hx rfl (hb hby at_140) rfl kont) ?_
    show own_Go p e below s _ _ _ (T10.setTop (mkF m 142 #[.val (.int b0), .val (.int b1), .val (.int b2), .val (.int aq), .val (.int an), .val (.int ua), .val (.int ub), .val (.int uc), .val (.int k), .val (.ref ui), .val (.int (1 : Int32))] [(.int ub), (.ref ui), (.int (1 : Int32))]))
    refine own_cV X10 hx hml hZ hown (hw _ (List.mem_of_getElem? (i := 20) rfl)) (hw _ (List.mem_of_getElem? (i := 21) rfl)) (hw _ (List.mem_of_getElem? (i := 23) rfl)) (hw _ (List.mem_of_getElem? (i := 22) rfl)) (hw _ (List.mem_of_getElem? (i := 6) rfl)) (hw _ (List.mem_of_getElem? (i := 24) rfl)) (by decide) (own_rm5 l Z a0 hw ui ub ka na kf nf S sz kk Tl.heap n0 szl Vkl Vnl Fkl Fnl Fsl Fzl EXl HT hz hkk) eh10 EXl (by decide) (W := 1) (by decide) (g := (mkF m 142 #[.val (.int b0), .val (.int b1), .val (.int b2), .val (.int aq), .val (.int an), .val (.int ua), .val (.int ub), .val (.int uc), .val (.int k), .val (.ref ui), .val (.int (1 : Int32))] [(.int ub), (.ref ui), (.int (1 : Int32))])) rfl rfl own_pd0 (argsL := [(.int ub)]) (rest := [(.int (1 : Int32))]) rfl rfl rfl (by show 2 * 0 + _ ≤ _; exact Nat.le_of_eq rfl) (hb hby at_142) (by decide) (by decide) ?_
    intro T11 L11 v11 X11 hQ11
    obtain ⟨hd11, eh11, le11⟩ := hQ11
    obtain rfl : v11 = some (.int (own_ex ub k ua ub uc)) := by
      rcases hd11 with ⟨n, hn, rfl⟩ | ⟨hn, rfl⟩
      · rcases hS ub with g | ⟨-, g⟩
        · rw [HT.2.2.1 _ _ _ g hn]
        · exact absurd hn (g n)
      · rcases hS ub with g | ⟨g, -⟩
        · exact absurd g (hn _)
        · rw [g]
    have N11 := own_nil N10 le11
    show own_Go p e below s _ _ _ (T11.setTop (mkF m 145 #[.val (.int b0), .val (.int b1), .val (.int b2), .val (.int aq), .val (.int an), .val (.int ua), .val (.int ub), .val (.int uc), .val (.int k), .val (.ref ui), .val (.int (1 : Int32))] [(.int (own_ex ub k ua ub uc)), (.int (1 : Int32))]))
    refine own_st (fun _ kont => XS.iload X11.here hx rfl (hb hby at_145) rfl kont) ?_
    show own_Go p e below s _ _ _ (T11.setTop (mkF m 147 #[.val (.int b0), .val (.int b1), .val (.int b2), .val (.int aq), .val (.int an), .val (.int ua), .val (.int ub), .val (.int uc), .val (.int k), .val (.ref ui), .val (.int (1 : Int32))] [(.int ub), (.int (own_ex ub k ua ub uc)), (.int (1 : Int32))]))
    refine own_st (fun _ kont => XS.iload X11.here hx rfl (hb hby at_147) rfl kont) ?_
    show own_Go p e below s _ _ _ (T11.setTop (mkF m 149 #[.val (.int b0), .val (.int b1), .val (.int b2), .val (.int aq), .val (.int an), .val (.int ua), .val (.int ub), .val (.int uc), .val (.int k), .val (.ref ui), .val (.int (1 : Int32))] [(.int k), (.int ub), (.int (own_ex ub k ua ub uc)), (.int (1 : Int32))]))
    refine own_st (fun _ kont => XS.iload X11.here hx rfl (hb hby at_149) rfl kont) ?_
    show own_Go p e below s _ _ _ (T11.setTop (mkF m 151 #[.val (.int b0), .val (.int b1), .val (.int b2), .val (.int aq), .val (.int an), .val (.int ua), .val (.int ub), .val (.int uc), .val (.int k), .val (.ref ui), .val (.int (1 : Int32))] [(.int ua), (.int k), (.int ub), (.int (own_ex ub k ua ub uc)), (.int (1 : Int32))]))
    refine own_st (fun _ kont => XS.iload X11.here hx rfl (hb hby at_151) rfl kont) ?_
    show own_Go p e below s _ _ _ (T11.setTop (mkF m 153 #[.val (.int b0), .val (.int b1), .val (.int b2), .val (.int aq), .val (.int an), .val (.int ua), .val (.int ub), .val (.int uc), .val (.int k), .val (.ref ui), .val (.int (1 : Int32))] [(.int ub), (.int ua), (.int k), (.int ub), (.int (own_ex ub k ua ub uc)), (.int (1 : Int32))]))
    refine own_st (fun _ kont => XS.iload X11.here hx rfl (hb hby at_153) rfl kont) ?_
    show own_Go p e below s _ _ _ (T11.setTop (mkF m 155 #[.val (.int b0), .val (.int b1), .val (.int b2), .val (.int aq), .val (.int an), .val (.int ua), .val (.int ub), .val (.int uc), .val (.int k), .val (.ref ui), .val (.int (1 : Int32))] [(.int uc), (.int ub), (.int ua), (.int k), (.int ub), (.int (own_ex ub k ua ub uc)), (.int (1 : Int32))]))
    refine own_cS X11 hx hml hZ hown (hw _ (List.mem_of_getElem? (i := 30) rfl)) (hw _ (List.mem_of_getElem? (i := 31) rfl)) (hw _ (List.mem_of_getElem? (i := 2) rfl)) (hw _ (List.mem_of_getElem? (i := 32) rfl)) (by decide) (own_rm2 l Z a0 hw ub k ua ub uc Tl.heap n0 szl) eh11 (by decide) (W := 2) (by decide) (g := (mkF m 155 #[.val (.int b0), .val (.int b1), .val (.int b2), .val (.int aq), .val (.int an), .val (.int ua), .val (.int ub), .val (.int uc), .val (.int k), .val (.ref ui), .val (.int (1 : Int32))] [(.int uc), (.int ub), (.int ua), (.int k), (.int ub), (.int (own_ex ub k ua ub uc)), (.int (1 : Int32))])) rfl rfl own_pd2 (argsL := [(.int ub), (.int k), (.int ua), (.int ub), (.int uc)]) (rest := [(.int (own_ex ub k ua ub uc)), (.int (1 : Int32))]) rfl rfl rfl (by show 2 * 0 + _ ≤ _; exact Nat.le_of_eq rfl) (hb hby at_155) (by decide) (by decide) ?_
    intro T12 L12 v12 X12 hQ12
    obtain ⟨rfl, eh12, le12⟩ := hQ12
    have N12 := own_nil N11 le12
    show own_Go p e below s _ _ _ (T12.setTop (mkF m 158 #[.val (.int b0), .val (.int b1), .val (.int b2), .val (.int aq), .val (.int an), .val (.int ua), .val (.int ub), .val (.int uc), .val (.int k), .val (.ref ui), .val (.int (1 : Int32))] [(.int (own_ex ub k ua ub uc)), (.int (own_ex ub k ua ub uc)), (.int (1 : Int32))]))
    refine own_st (fun _ kont => XS.icmpNo X12.here hx rfl (hb hby at_158) rfl (teq rfl).2 kont) ?_
    show own_Go p e below s _ _ _ (T12.setTop (mkF m 161 #[.val (.int b0), .val (.int b1), .val (.int b2), .val (.int aq), .val (.int an), .val (.int ua), .val (.int ub), .val (.int uc), .val (.int k), .val (.ref ui), .val (.int (1 : Int32))] [(.int (1 : Int32))]))
    refine own_st (fun _ kont => XS.iconst X12.here hx rfl (hb hby at_161) kont) ?_
    show own_Go p e below s _ _ _ (T12.setTop (mkF m 162 #[.val (.int b0), .val (.int b1), .val (.int b2), .val (.int aq), .val (.int an), .val (.int ua), .val (.int ub), .val (.int uc), .val (.int k), .val (.ref ui), .val (.int (1 : Int32))] [(.int (1 : Int32)), (.int (1 : Int32))]))
    refine own_st (fun _ kont => XS.goto X12.here hx rfl (pc0 := 162) (pc' := 166) rfl (hb hby at_162) (by decide) (by decide) kont) ?_
    show own_Go p e below s _ _ _ (T12.setTop (mkF m 166 #[.val (.int b0), .val (.int b1), .val (.int b2), .val (.int aq), .val (.int an), .val (.int ua), .val (.int ub), .val (.int uc), .val (.int k), .val (.ref ui), .val (.int (1 : Int32))] [(.int (1 : Int32)), (.int (1 : Int32))]))
    refine own_st (fun _ kont => XS.iand X12.here hx rfl (hb hby at_166) rfl kont) ?_
    show own_Go p e below s _ _ _ (T12.setTop (mkF m 167 #[.val (.int b0), .val (.int b1), .val (.int b2), .val (.int aq), .val (.int an), .val (.int ua), .val (.int ub), .val (.int uc), .val (.int k), .val (.ref ui), .val (.int (1 : Int32))] [(.int (1 : Int32))]))
    refine own_st (fun _ kont => XS.istore X12.here hx rfl (hb hby at_167) rfl (l' := #[.val (.int b0), .val (.int b1), .val (.int b2), .val (.int aq), .val (.int an), .val (.int ua), .val (.int ub), .val (.int uc), .val (.int k), .val (.ref ui), .val (.int (1 : Int32))]) rfl kont) ?_
    show own_Go p e below s _ _ _ (T12.setTop (mkF m 169 #[.val (.int b0), .val (.int b1), .val (.int b2), .val (.int aq), .val (.int an), .val (.int ua), .val (.int ub), .val (.int uc), .val (.int k), .val (.ref ui), .val (.int (1 : Int32))] []))
    refine own_st (fun _ kont => XS.iload X12.here hx rfl (hb hby at_169) rfl kont) ?_
    show own_Go p e below s _ _ _ (T12.setTop (mkF m 171 #[.val (.int b0), .val (.int b1), .val (.int b2), .val (.int aq), .val (.int an), .val (.int ua), .val (.int ub), .val (.int uc), .val (.int k), .val (.ref ui), .val (.int (1 : Int32))] [(.int (1 : Int32))]))
    refine own_st (fun _ kont => XS.aload X12.here hx rfl (hb hby at_171) rfl rfl kont) ?_
    show own_Go p e below s _ _ _ (T12.setTop (mkF m 173 #[.val (.int b0), .val (.int b1), .val (.int b2), .val (.int aq), .val (.int an), .val (.int ua), .val (.int ub), .val (.int uc), .val (.int k), .val (.ref ui), .val (.int (1 : Int32))] [(.ref ui), (.int (1 : Int32))]))
    refine own_st (fun _ kont => XS.iload X12.here hx rfl (hb hby at_173) rfl kont) ?_
    show own_Go p e below s _ _ _ (T12.setTop (mkF m 175 #[.val (.int b0), .val (.int b1), .val (.int b2), .val (.int aq), .val (.int an), .val (.int ua), .val (.int ub), .val (.int uc), .val (.int k), .val (.ref ui), .val (.int (1 : Int32))] [(.int uc), (.ref ui), (.int (1 : Int32))]))
    refine own_cV X12 hx hml hZ hown (hw _ (List.mem_of_getElem? (i := 20) rfl)) (hw _ (List.mem_of_getElem? (i := 21) rfl)) (hw _ (List.mem_of_getElem? (i := 23) rfl)) (hw _ (List.mem_of_getElem? (i := 22) rfl)) (hw _ (List.mem_of_getElem? (i := 6) rfl)) (hw _ (List.mem_of_getElem? (i := 24) rfl)) (by decide) (own_rm5 l Z a0 hw ui uc ka na kf nf S sz kk Tl.heap n0 szl Vkl Vnl Fkl Fnl Fsl Fzl EXl HT hz hkk) eh12 EXl (by decide) (W := 1) (by decide) (g := (mkF m 175 #[.val (.int b0), .val (.int b1), .val (.int b2), .val (.int aq), .val (.int an), .val (.int ua), .val (.int ub), .val (.int uc), .val (.int k), .val (.ref ui), .val (.int (1 : Int32))] [(.int uc), (.ref ui), (.int (1 : Int32))])) rfl rfl own_pd0 (argsL := [(.int uc)]) (rest := [(.int (1 : Int32))]) rfl rfl rfl (by show 2 * 0 + _ ≤ _; exact Nat.le_of_eq rfl) (hb hby at_175) (by decide) (by decide) ?_
    intro T13 L13 v13 X13 hQ13
    obtain ⟨hd13, eh13, le13⟩ := hQ13
    obtain rfl : v13 = some (.int (own_ex uc k ua ub uc)) := by
      rcases hd13 with ⟨n, hn, rfl⟩ | ⟨hn, rfl⟩
      · rcases hS uc with g | ⟨-, g⟩
        · rw [HT.2.2.1 _ _ _ g hn]
        · exact absurd hn (g n)
      · rcases hS uc with g | ⟨g, -⟩
        · exact absurd g (hn _)
        · rw [g]
    have N13 := own_nil N12 le13
    show own_Go p e below s _ _ _ (T13.setTop (mkF m 178 #[.val (.int b0), .val (.int b1), .val (.int b2), .val (.int aq), .val (.int an), .val (.int ua), .val (.int ub), .val (.int uc), .val (.int k), .val (.ref ui), .val (.int (1 : Int32))] [(.int (own_ex uc k ua ub uc)), (.int (1 : Int32))]))
    refine own_st (fun _ kont => XS.iload X13.here hx rfl (hb hby at_178) rfl kont) ?_
    show own_Go p e below s _ _ _ (T13.setTop (mkF m 180 #[.val (.int b0), .val (.int b1), .val (.int b2), .val (.int aq), .val (.int an), .val (.int ua), .val (.int ub), .val (.int uc), .val (.int k), .val (.ref ui), .val (.int (1 : Int32))] [(.int uc), (.int (own_ex uc k ua ub uc)), (.int (1 : Int32))]))
    refine own_st (fun _ kont => XS.iload X13.here hx rfl (hb hby at_180) rfl kont) ?_
    show own_Go p e below s _ _ _ (T13.setTop (mkF m 182 #[.val (.int b0), .val (.int b1), .val (.int b2), .val (.int aq), .val (.int an), .val (.int ua), .val (.int ub), .val (.int uc), .val (.int k), .val (.ref ui), .val (.int (1 : Int32))] [(.int k), (.int uc), (.int (own_ex uc k ua ub uc)), (.int (1 : Int32))]))
    refine own_st (fun _ kont => XS.iload X13.here hx rfl (hb hby at_182) rfl kont) ?_
    show own_Go p e below s _ _ _ (T13.setTop (mkF m 184 #[.val (.int b0), .val (.int b1), .val (.int b2), .val (.int aq), .val (.int an), .val (.int ua), .val (.int ub), .val (.int uc), .val (.int k), .val (.ref ui), .val (.int (1 : Int32))] [(.int ua), (.int k), (.int uc), (.int (own_ex uc k ua ub uc)), (.int (1 : Int32))]))
    refine own_st (fun _ kont => XS.iload X13.here hx rfl (hb hby at_184) rfl kont) ?_
    show own_Go p e below s _ _ _ (T13.setTop (mkF m 186 #[.val (.int b0), .val (.int b1), .val (.int b2), .val (.int aq), .val (.int an), .val (.int ua), .val (.int ub), .val (.int uc), .val (.int k), .val (.ref ui), .val (.int (1 : Int32))] [(.int ub), (.int ua), (.int k), (.int uc), (.int (own_ex uc k ua ub uc)), (.int (1 : Int32))]))
    refine own_st (fun _ kont => XS.iload X13.here hx rfl (hb hby at_186) rfl kont) ?_
    show own_Go p e below s _ _ _ (T13.setTop (mkF m 188 #[.val (.int b0), .val (.int b1), .val (.int b2), .val (.int aq), .val (.int an), .val (.int ua), .val (.int ub), .val (.int uc), .val (.int k), .val (.ref ui), .val (.int (1 : Int32))] [(.int uc), (.int ub), (.int ua), (.int k), (.int uc), (.int (own_ex uc k ua ub uc)), (.int (1 : Int32))]))
    refine own_cS X13 hx hml hZ hown (hw _ (List.mem_of_getElem? (i := 30) rfl)) (hw _ (List.mem_of_getElem? (i := 31) rfl)) (hw _ (List.mem_of_getElem? (i := 2) rfl)) (hw _ (List.mem_of_getElem? (i := 32) rfl)) (by decide) (own_rm2 l Z a0 hw uc k ua ub uc Tl.heap n0 szl) eh13 (by decide) (W := 2) (by decide) (g := (mkF m 188 #[.val (.int b0), .val (.int b1), .val (.int b2), .val (.int aq), .val (.int an), .val (.int ua), .val (.int ub), .val (.int uc), .val (.int k), .val (.ref ui), .val (.int (1 : Int32))] [(.int uc), (.int ub), (.int ua), (.int k), (.int uc), (.int (own_ex uc k ua ub uc)), (.int (1 : Int32))])) rfl rfl own_pd2 (argsL := [(.int uc), (.int k), (.int ua), (.int ub), (.int uc)]) (rest := [(.int (own_ex uc k ua ub uc)), (.int (1 : Int32))]) rfl rfl rfl (by show 2 * 0 + _ ≤ _; exact Nat.le_of_eq rfl) (hb hby at_188) (by decide) (by decide) ?_
    intro T14 L14 v14 X14 hQ14
    obtain ⟨rfl, eh14, le14⟩ := hQ14
    have N14 := own_nil N13 le14
    show own_Go p e below s _ _ _ (T14.setTop (mkF m 191 #[.val (.int b0), .val (.int b1), .val (.int b2), .val (.int aq), .val (.int an), .val (.int ua), .val (.int ub), .val (.int uc), .val (.int k), .val (.ref ui), .val (.int (1 : Int32))] [(.int (own_ex uc k ua ub uc)), (.int (own_ex uc k ua ub uc)), (.int (1 : Int32))]))
    refine own_st (fun _ kont => XS.icmpNo X14.here hx rfl (hb hby at_191) rfl (teq rfl).2 kont) ?_
    show own_Go p e below s _ _ _ (T14.setTop (mkF m 194 #[.val (.int b0), .val (.int b1), .val (.int b2), .val (.int aq), .val (.int an), .val (.int ua), .val (.int ub), .val (.int uc), .val (.int k), .val (.ref ui), .val (.int (1 : Int32))] [(.int (1 : Int32))]))
    refine own_st (fun _ kont => XS.iconst X14.here hx rfl (hb hby at_194) kont) ?_
    show own_Go p e below s _ _ _ (T14.setTop (mkF m 195 #[.val (.int b0), .val (.int b1), .val (.int b2), .val (.int aq), .val (.int an), .val (.int ua), .val (.int ub), .val (.int uc), .val (.int k), .val (.ref ui), .val (.int (1 : Int32))] [(.int (1 : Int32)), (.int (1 : Int32))]))
    refine own_st (fun _ kont => XS.goto X14.here hx rfl (pc0 := 195) (pc' := 199) rfl (hb hby at_195) (by decide) (by decide) kont) ?_
    show own_Go p e below s _ _ _ (T14.setTop (mkF m 199 #[.val (.int b0), .val (.int b1), .val (.int b2), .val (.int aq), .val (.int an), .val (.int ua), .val (.int ub), .val (.int uc), .val (.int k), .val (.ref ui), .val (.int (1 : Int32))] [(.int (1 : Int32)), (.int (1 : Int32))]))
    refine own_st (fun _ kont => XS.iand X14.here hx rfl (hb hby at_199) rfl kont) ?_
    show own_Go p e below s _ _ _ (T14.setTop (mkF m 200 #[.val (.int b0), .val (.int b1), .val (.int b2), .val (.int aq), .val (.int an), .val (.int ua), .val (.int ub), .val (.int uc), .val (.int k), .val (.ref ui), .val (.int (1 : Int32))] [(.int (1 : Int32))]))
    refine own_st (fun _ kont => XS.istore X14.here hx rfl (hb hby at_200) rfl (l' := #[.val (.int b0), .val (.int b1), .val (.int b2), .val (.int aq), .val (.int an), .val (.int ua), .val (.int ub), .val (.int uc), .val (.int k), .val (.ref ui), .val (.int (1 : Int32))]) rfl kont) ?_
    show own_Go p e below s _ _ _ (T14.setTop (mkF m 202 #[.val (.int b0), .val (.int b1), .val (.int b2), .val (.int aq), .val (.int an), .val (.int ua), .val (.int ub), .val (.int uc), .val (.int k), .val (.ref ui), .val (.int (1 : Int32))] []))
    refine own_st (fun _ kont => XS.iload X14.here hx rfl (hb hby at_202) rfl kont) ?_
    show own_Go p e below s _ _ _ (T14.setTop (mkF m 204 #[.val (.int b0), .val (.int b1), .val (.int b2), .val (.int aq), .val (.int an), .val (.int ua), .val (.int ub), .val (.int uc), .val (.int k), .val (.ref ui), .val (.int (1 : Int32))] [(.int (1 : Int32))]))
    exact own_endN X14 hx hlk (t := .boolean) hret (by simp) (hb hby at_204) (w := (1 : Int32)) (by decide) ⟨rfl, N14⟩ (by decide) (by decide)
  show own_Go p e below s _ _ _ (T6.setTop (mkF m 33 #[.val (.int b0), .val (.int b1), .val (.int b2), .val (.int aq), .val (.int an), .val (.int ua), .val (.int ub), .val (.int uc), .val (.int k), .val (.ref ui), .unset] []))
  rcases (by omega : ik = 0 ∨ ik = 1 ∨ ik = 2 ∨ ik = 3) with rfl | rfl | rfl | rfl
  · obtain rfl : k = (0 : Int32) := Int32.toInt_inj.mp hk
    show own_Go p e below s _ _ _ (T6.setTop (mkF m 33 #[.val (.int b0), .val (.int b1), .val (.int b2), .val (.int aq), .val (.int an), .val (.int ua), .val (.int ub), .val (.int uc), .val (.int (0 : Int32)), .val (.ref ui), .unset] []))
    refine own_st (fun _ kont => XS.iload X6.here hx rfl (hb hby at_33) rfl kont) ?_
    show own_Go p e below s _ _ _ (T6.setTop (mkF m 35 #[.val (.int b0), .val (.int b1), .val (.int b2), .val (.int aq), .val (.int an), .val (.int ua), .val (.int ub), .val (.int uc), .val (.int (0 : Int32)), .val (.ref ui), .unset] [(.int (0 : Int32))]))
    refine own_st (fun _ kont => XS.iconst X6.here hx rfl (hb hby at_35) kont) ?_
    show own_Go p e below s _ _ _ (T6.setTop (mkF m 36 #[.val (.int b0), .val (.int b1), .val (.int b2), .val (.int aq), .val (.int an), .val (.int ua), .val (.int ub), .val (.int uc), .val (.int (0 : Int32)), .val (.ref ui), .unset] [(.int (1 : Int32)), (.int (0 : Int32))]))
    refine own_st (fun _ kont => XS.icmpYes X6.here hx rfl (pc0 := 36) (pc' := 47) rfl (hb hby at_36) rfl (by decide) (by decide) (by decide) kont) ?_
    show own_Go p e below s _ _ _ (T6.setTop (mkF m 47 #[.val (.int b0), .val (.int b1), .val (.int b2), .val (.int aq), .val (.int an), .val (.int ua), .val (.int ub), .val (.int uc), .val (.int (0 : Int32)), .val (.ref ui), .unset] []))
    refine own_st (fun _ kont => XS.iload X6.here hx rfl (hb hby at_47) rfl kont) ?_
    show own_Go p e below s _ _ _ (T6.setTop (mkF m 49 #[.val (.int b0), .val (.int b1), .val (.int b2), .val (.int aq), .val (.int an), .val (.int ua), .val (.int ub), .val (.int uc), .val (.int (0 : Int32)), .val (.ref ui), .unset] [(.int (0 : Int32))]))
    refine own_st (fun _ kont => XS.iconst X6.here hx rfl (hb hby at_49) kont) ?_
    show own_Go p e below s _ _ _ (T6.setTop (mkF m 50 #[.val (.int b0), .val (.int b1), .val (.int b2), .val (.int aq), .val (.int an), .val (.int ua), .val (.int ub), .val (.int uc), .val (.int (0 : Int32)), .val (.ref ui), .unset] [(.int (2 : Int32)), (.int (0 : Int32))]))
    refine own_st (fun _ kont => XS.icmpYes X6.here hx rfl (pc0 := 50) (pc' := 61) rfl (hb hby at_50) rfl (by decide) (by decide) (by decide) kont) ?_
    show own_Go p e below s _ _ _ (T6.setTop (mkF m 61 #[.val (.int b0), .val (.int b1), .val (.int b2), .val (.int aq), .val (.int an), .val (.int ua), .val (.int ub), .val (.int uc), .val (.int (0 : Int32)), .val (.ref ui), .unset] []))
    refine own_st (fun _ kont => XS.iload X6.here hx rfl (hb hby at_61) rfl kont) ?_
    show own_Go p e below s _ _ _ (T6.setTop (mkF m 63 #[.val (.int b0), .val (.int b1), .val (.int b2), .val (.int aq), .val (.int an), .val (.int ua), .val (.int ub), .val (.int uc), .val (.int (0 : Int32)), .val (.ref ui), .unset] [(.int (0 : Int32))]))
    refine own_st (fun _ kont => XS.iconst X6.here hx rfl (hb hby at_63) kont) ?_
    show own_Go p e below s _ _ _ (T6.setTop (mkF m 64 #[.val (.int b0), .val (.int b1), .val (.int b2), .val (.int aq), .val (.int an), .val (.int ua), .val (.int ub), .val (.int uc), .val (.int (0 : Int32)), .val (.ref ui), .unset] [(.int (3 : Int32)), (.int (0 : Int32))]))
    refine own_st (fun _ kont => XS.icmpYes X6.here hx rfl (pc0 := 64) (pc' := 75) rfl (hb hby at_64) rfl (by decide) (by decide) (by decide) kont) ?_
    show own_Go p e below s _ _ _ (T6.setTop (mkF m 75 #[.val (.int b0), .val (.int b1), .val (.int b2), .val (.int aq), .val (.int an), .val (.int ua), .val (.int ub), .val (.int uc), .val (.int (0 : Int32)), .val (.ref ui), .unset] []))
    exact J75 _ _ (fun _ => 0) (fun _ => 0) (fun _ _ => False) (0 : Int32) 0 X6 N6 sz6 EXui_6 Fk6 Fn6 Fs6 Fz6 Vk6 Vn6 own_T_nil (by rw [own_zero_all]; omega) (by omega) (own_g0 _ _ _)
  · obtain rfl : k = (1 : Int32) := Int32.toInt_inj.mp hk
    show own_Go p e below s _ _ _ (T6.setTop (mkF m 33 #[.val (.int b0), .val (.int b1), .val (.int b2), .val (.int aq), .val (.int an), .val (.int ua), .val (.int ub), .val (.int uc), .val (.int (1 : Int32)), .val (.ref ui), .unset] []))
    refine own_st (fun _ kont => XS.iload X6.here hx rfl (hb hby at_33) rfl kont) ?_
    show own_Go p e below s _ _ _ (T6.setTop (mkF m 35 #[.val (.int b0), .val (.int b1), .val (.int b2), .val (.int aq), .val (.int an), .val (.int ua), .val (.int ub), .val (.int uc), .val (.int (1 : Int32)), .val (.ref ui), .unset] [(.int (1 : Int32))]))
    refine own_st (fun _ kont => XS.iconst X6.here hx rfl (hb hby at_35) kont) ?_
    show own_Go p e below s _ _ _ (T6.setTop (mkF m 36 #[.val (.int b0), .val (.int b1), .val (.int b2), .val (.int aq), .val (.int an), .val (.int ua), .val (.int ub), .val (.int uc), .val (.int (1 : Int32)), .val (.ref ui), .unset] [(.int (1 : Int32)), (.int (1 : Int32))]))
    refine own_st (fun _ kont => XS.icmpNo X6.here hx rfl (hb hby at_36) rfl (by decide) kont) ?_
    show own_Go p e below s _ _ _ (T6.setTop (mkF m 39 #[.val (.int b0), .val (.int b1), .val (.int b2), .val (.int aq), .val (.int an), .val (.int ua), .val (.int ub), .val (.int uc), .val (.int (1 : Int32)), .val (.ref ui), .unset] []))
    refine own_st (fun _ kont => XS.aload X6.here hx rfl (hb hby at_39) rfl rfl kont) ?_
    show own_Go p e below s _ _ _ (T6.setTop (mkF m 41 #[.val (.int b0), .val (.int b1), .val (.int b2), .val (.int aq), .val (.int an), .val (.int ua), .val (.int ub), .val (.int uc), .val (.int (1 : Int32)), .val (.ref ui), .unset] [(.ref ui)]))
    refine own_st (fun _ kont => XS.iload X6.here hx rfl (hb hby at_41) rfl kont) ?_
    show own_Go p e below s _ _ _ (T6.setTop (mkF m 43 #[.val (.int b0), .val (.int b1), .val (.int b2), .val (.int aq), .val (.int an), .val (.int ua), .val (.int ub), .val (.int uc), .val (.int (1 : Int32)), .val (.ref ui), .unset] [(.int ua), (.ref ui)]))
    refine own_cV X6 hx hml hZ hown (hw _ (List.mem_of_getElem? (i := 33) rfl)) (hw _ (List.mem_of_getElem? (i := 34) rfl)) (hw _ (List.mem_of_getElem? (i := 36) rfl)) (hw _ (List.mem_of_getElem? (i := 35) rfl)) (hw _ (List.mem_of_getElem? (i := 6) rfl)) (hw _ (List.mem_of_getElem? (i := 37) rfl)) (by decide) (own_rm6 l Z a0 hw ui ua ka na (fun _ => 0) (fun _ => 0) (fun _ _ => False) (0 : Int32) 0 T6.heap n0 sz6 Vk6 Vn6 Fk6 Fn6 Fs6 Fz6 EXui_6 own_T_nil (by rw [own_zero_all]; omega) (by omega) (by decide) (by decide) na1 fr_ui fr_ka fr_na nak nan kn) (rfl : T6.heap = T6.heap) EXui_6 (by decide) (W := 0) (by decide) (g := (mkF m 43 #[.val (.int b0), .val (.int b1), .val (.int b2), .val (.int aq), .val (.int an), .val (.int ua), .val (.int ub), .val (.int uc), .val (.int (1 : Int32)), .val (.ref ui), .unset] [(.int ua), (.ref ui)])) rfl rfl own_pd0 (argsL := [(.int ua)]) (rest := []) rfl rfl rfl (by show 2 * 0 + _ ≤ _; exact Nat.le_of_eq rfl) (hb hby at_43) (by decide) (by decide) ?_
    intro T15 L15 v15 X15 hQ15
    obtain ⟨d15, z15, kf15, nf15, S15, rfl, Nc15, K15, Fk15, Fn15, Fs15, Fz15, Vk15, Vn15, T15h, hz15, hl15, hu15, hd15⟩ := hQ15
    have N15 := Fr.app N6 Nc15
    have EXui_15 := EXui_6.keep K15
    have sz15 := Nat.le_trans sz6 K15.1
    show own_Go p e below s _ _ _ (T15.setTop (mkF m 46 #[.val (.int b0), .val (.int b1), .val (.int b2), .val (.int aq), .val (.int an), .val (.int ua), .val (.int ub), .val (.int uc), .val (.int (1 : Int32)), .val (.ref ui), .unset] [(.int d15)]))
    rcases hd15 with ⟨hS, hP0, hsz⟩ | ⟨hP0, hdd, hsz, hS⟩
    · exact hP0.elim
    · subst hS hsz
      show own_Go p e below s _ _ _ (T15.setTop (mkF m 46 #[.val (.int b0), .val (.int b1), .val (.int b2), .val (.int aq), .val (.int an), .val (.int ua), .val (.int ub), .val (.int uc), .val (.int (1 : Int32)), .val (.ref ui), .unset] [(.int d15)]))
      refine own_st (fun _ kont => XS.pop X15.here hx rfl (hb hby at_46) rfl rfl kont) ?_
      show own_Go p e below s _ _ _ (T15.setTop (mkF m 47 #[.val (.int b0), .val (.int b1), .val (.int b2), .val (.int aq), .val (.int an), .val (.int ua), .val (.int ub), .val (.int uc), .val (.int (1 : Int32)), .val (.ref ui), .unset] []))
      refine own_st (fun _ kont => XS.iload X15.here hx rfl (hb hby at_47) rfl kont) ?_
      show own_Go p e below s _ _ _ (T15.setTop (mkF m 49 #[.val (.int b0), .val (.int b1), .val (.int b2), .val (.int aq), .val (.int an), .val (.int ua), .val (.int ub), .val (.int uc), .val (.int (1 : Int32)), .val (.ref ui), .unset] [(.int (1 : Int32))]))
      refine own_st (fun _ kont => XS.iconst X15.here hx rfl (hb hby at_49) kont) ?_
      show own_Go p e below s _ _ _ (T15.setTop (mkF m 50 #[.val (.int b0), .val (.int b1), .val (.int b2), .val (.int aq), .val (.int an), .val (.int ua), .val (.int ub), .val (.int uc), .val (.int (1 : Int32)), .val (.ref ui), .unset] [(.int (2 : Int32)), (.int (1 : Int32))]))
      refine own_st (fun _ kont => XS.icmpYes X15.here hx rfl (pc0 := 50) (pc' := 61) rfl (hb hby at_50) rfl (by decide) (by decide) (by decide) kont) ?_
      show own_Go p e below s _ _ _ (T15.setTop (mkF m 61 #[.val (.int b0), .val (.int b1), .val (.int b2), .val (.int aq), .val (.int an), .val (.int ua), .val (.int ub), .val (.int uc), .val (.int (1 : Int32)), .val (.ref ui), .unset] []))
      refine own_st (fun _ kont => XS.iload X15.here hx rfl (hb hby at_61) rfl kont) ?_
      show own_Go p e below s _ _ _ (T15.setTop (mkF m 63 #[.val (.int b0), .val (.int b1), .val (.int b2), .val (.int aq), .val (.int an), .val (.int ua), .val (.int ub), .val (.int uc), .val (.int (1 : Int32)), .val (.ref ui), .unset] [(.int (1 : Int32))]))
      refine own_st (fun _ kont => XS.iconst X15.here hx rfl (hb hby at_63) kont) ?_
      show own_Go p e below s _ _ _ (T15.setTop (mkF m 64 #[.val (.int b0), .val (.int b1), .val (.int b2), .val (.int aq), .val (.int an), .val (.int ua), .val (.int ub), .val (.int uc), .val (.int (1 : Int32)), .val (.ref ui), .unset] [(.int (3 : Int32)), (.int (1 : Int32))]))
      refine own_st (fun _ kont => XS.icmpYes X15.here hx rfl (pc0 := 64) (pc' := 75) rfl (hb hby at_64) rfl (by decide) (by decide) (by decide) kont) ?_
      show own_Go p e below s _ _ _ (T15.setTop (mkF m 75 #[.val (.int b0), .val (.int b1), .val (.int b2), .val (.int aq), .val (.int an), .val (.int ua), .val (.int ub), .val (.int uc), .val (.int (1 : Int32)), .val (.ref ui), .unset] []))
      exact J75 _ _ kf15 nf15 (fun u n => False ∨ (u = ua ∧ n = (0 : Int32))) ((0 : Int32) + 1) 1 X15 N15 sz15 EXui_15 Fk15 Fn15 Fs15 Fz15 Vk15 Vn15 T15h hz15 (by omega) (own_g1 _ _ _)
  · obtain rfl : k = (2 : Int32) := Int32.toInt_inj.mp hk
    show own_Go p e below s _ _ _ (T6.setTop (mkF m 33 #[.val (.int b0), .val (.int b1), .val (.int b2), .val (.int aq), .val (.int an), .val (.int ua), .val (.int ub), .val (.int uc), .val (.int (2 : Int32)), .val (.ref ui), .unset] []))
    refine own_st (fun _ kont => XS.iload X6.here hx rfl (hb hby at_33) rfl kont) ?_
    show own_Go p e below s _ _ _ (T6.setTop (mkF m 35 #[.val (.int b0), .val (.int b1), .val (.int b2), .val (.int aq), .val (.int an), .val (.int ua), .val (.int ub), .val (.int uc), .val (.int (2 : Int32)), .val (.ref ui), .unset] [(.int (2 : Int32))]))
    refine own_st (fun _ kont => XS.iconst X6.here hx rfl (hb hby at_35) kont) ?_
    show own_Go p e below s _ _ _ (T6.setTop (mkF m 36 #[.val (.int b0), .val (.int b1), .val (.int b2), .val (.int aq), .val (.int an), .val (.int ua), .val (.int ub), .val (.int uc), .val (.int (2 : Int32)), .val (.ref ui), .unset] [(.int (1 : Int32)), (.int (2 : Int32))]))
    refine own_st (fun _ kont => XS.icmpNo X6.here hx rfl (hb hby at_36) rfl (by decide) kont) ?_
    show own_Go p e below s _ _ _ (T6.setTop (mkF m 39 #[.val (.int b0), .val (.int b1), .val (.int b2), .val (.int aq), .val (.int an), .val (.int ua), .val (.int ub), .val (.int uc), .val (.int (2 : Int32)), .val (.ref ui), .unset] []))
    refine own_st (fun _ kont => XS.aload X6.here hx rfl (hb hby at_39) rfl rfl kont) ?_
    show own_Go p e below s _ _ _ (T6.setTop (mkF m 41 #[.val (.int b0), .val (.int b1), .val (.int b2), .val (.int aq), .val (.int an), .val (.int ua), .val (.int ub), .val (.int uc), .val (.int (2 : Int32)), .val (.ref ui), .unset] [(.ref ui)]))
    refine own_st (fun _ kont => XS.iload X6.here hx rfl (hb hby at_41) rfl kont) ?_
    show own_Go p e below s _ _ _ (T6.setTop (mkF m 43 #[.val (.int b0), .val (.int b1), .val (.int b2), .val (.int aq), .val (.int an), .val (.int ua), .val (.int ub), .val (.int uc), .val (.int (2 : Int32)), .val (.ref ui), .unset] [(.int ua), (.ref ui)]))
    refine own_cV X6 hx hml hZ hown (hw _ (List.mem_of_getElem? (i := 33) rfl)) (hw _ (List.mem_of_getElem? (i := 34) rfl)) (hw _ (List.mem_of_getElem? (i := 36) rfl)) (hw _ (List.mem_of_getElem? (i := 35) rfl)) (hw _ (List.mem_of_getElem? (i := 6) rfl)) (hw _ (List.mem_of_getElem? (i := 37) rfl)) (by decide) (own_rm6 l Z a0 hw ui ua ka na (fun _ => 0) (fun _ => 0) (fun _ _ => False) (0 : Int32) 0 T6.heap n0 sz6 Vk6 Vn6 Fk6 Fn6 Fs6 Fz6 EXui_6 own_T_nil (by rw [own_zero_all]; omega) (by omega) (by decide) (by decide) na1 fr_ui fr_ka fr_na nak nan kn) (rfl : T6.heap = T6.heap) EXui_6 (by decide) (W := 0) (by decide) (g := (mkF m 43 #[.val (.int b0), .val (.int b1), .val (.int b2), .val (.int aq), .val (.int an), .val (.int ua), .val (.int ub), .val (.int uc), .val (.int (2 : Int32)), .val (.ref ui), .unset] [(.int ua), (.ref ui)])) rfl rfl own_pd0 (argsL := [(.int ua)]) (rest := []) rfl rfl rfl (by show 2 * 0 + _ ≤ _; exact Nat.le_of_eq rfl) (hb hby at_43) (by decide) (by decide) ?_
    intro T16 L16 v16 X16 hQ16
    obtain ⟨d16, z16, kf16, nf16, S16, rfl, Nc16, K16, Fk16, Fn16, Fs16, Fz16, Vk16, Vn16, T16h, hz16, hl16, hu16, hd16⟩ := hQ16
    have N16 := Fr.app N6 Nc16
    have EXui_16 := EXui_6.keep K16
    have sz16 := Nat.le_trans sz6 K16.1
    show own_Go p e below s _ _ _ (T16.setTop (mkF m 46 #[.val (.int b0), .val (.int b1), .val (.int b2), .val (.int aq), .val (.int an), .val (.int ua), .val (.int ub), .val (.int uc), .val (.int (2 : Int32)), .val (.ref ui), .unset] [(.int d16)]))
    rcases hd16 with ⟨hS, hP0, hsz⟩ | ⟨hP0, hdd, hsz, hS⟩
    · exact hP0.elim
    · subst hS hsz
      show own_Go p e below s _ _ _ (T16.setTop (mkF m 46 #[.val (.int b0), .val (.int b1), .val (.int b2), .val (.int aq), .val (.int an), .val (.int ua), .val (.int ub), .val (.int uc), .val (.int (2 : Int32)), .val (.ref ui), .unset] [(.int d16)]))
      refine own_st (fun _ kont => XS.pop X16.here hx rfl (hb hby at_46) rfl rfl kont) ?_
      show own_Go p e below s _ _ _ (T16.setTop (mkF m 47 #[.val (.int b0), .val (.int b1), .val (.int b2), .val (.int aq), .val (.int an), .val (.int ua), .val (.int ub), .val (.int uc), .val (.int (2 : Int32)), .val (.ref ui), .unset] []))
      refine own_st (fun _ kont => XS.iload X16.here hx rfl (hb hby at_47) rfl kont) ?_
      show own_Go p e below s _ _ _ (T16.setTop (mkF m 49 #[.val (.int b0), .val (.int b1), .val (.int b2), .val (.int aq), .val (.int an), .val (.int ua), .val (.int ub), .val (.int uc), .val (.int (2 : Int32)), .val (.ref ui), .unset] [(.int (2 : Int32))]))
      refine own_st (fun _ kont => XS.iconst X16.here hx rfl (hb hby at_49) kont) ?_
      show own_Go p e below s _ _ _ (T16.setTop (mkF m 50 #[.val (.int b0), .val (.int b1), .val (.int b2), .val (.int aq), .val (.int an), .val (.int ua), .val (.int ub), .val (.int uc), .val (.int (2 : Int32)), .val (.ref ui), .unset] [(.int (2 : Int32)), (.int (2 : Int32))]))
      refine own_st (fun _ kont => XS.icmpNo X16.here hx rfl (hb hby at_50) rfl (by decide) kont) ?_
      show own_Go p e below s _ _ _ (T16.setTop (mkF m 53 #[.val (.int b0), .val (.int b1), .val (.int b2), .val (.int aq), .val (.int an), .val (.int ua), .val (.int ub), .val (.int uc), .val (.int (2 : Int32)), .val (.ref ui), .unset] []))
      refine own_st (fun _ kont => XS.aload X16.here hx rfl (hb hby at_53) rfl rfl kont) ?_
      show own_Go p e below s _ _ _ (T16.setTop (mkF m 55 #[.val (.int b0), .val (.int b1), .val (.int b2), .val (.int aq), .val (.int an), .val (.int ua), .val (.int ub), .val (.int uc), .val (.int (2 : Int32)), .val (.ref ui), .unset] [(.ref ui)]))
      refine own_st (fun _ kont => XS.iload X16.here hx rfl (hb hby at_55) rfl kont) ?_
      show own_Go p e below s _ _ _ (T16.setTop (mkF m 57 #[.val (.int b0), .val (.int b1), .val (.int b2), .val (.int aq), .val (.int an), .val (.int ua), .val (.int ub), .val (.int uc), .val (.int (2 : Int32)), .val (.ref ui), .unset] [(.int ub), (.ref ui)]))
      refine own_cV X16 hx hml hZ hown (hw _ (List.mem_of_getElem? (i := 33) rfl)) (hw _ (List.mem_of_getElem? (i := 34) rfl)) (hw _ (List.mem_of_getElem? (i := 36) rfl)) (hw _ (List.mem_of_getElem? (i := 35) rfl)) (hw _ (List.mem_of_getElem? (i := 6) rfl)) (hw _ (List.mem_of_getElem? (i := 37) rfl)) (by decide) (own_rm6 l Z a0 hw ui ub ka na kf16 nf16 (fun u n => False ∨ (u = ua ∧ n = (0 : Int32))) ((0 : Int32) + 1) 1 T16.heap n0 sz16 Vk16 Vn16 Fk16 Fn16 Fs16 Fz16 EXui_16 T16h hz16 (by omega) hl16 hu16 nb1 fr_ui fr_ka fr_na nak nan kn) (rfl : T16.heap = T16.heap) EXui_16 (by decide) (W := 0) (by decide) (g := (mkF m 57 #[.val (.int b0), .val (.int b1), .val (.int b2), .val (.int aq), .val (.int an), .val (.int ua), .val (.int ub), .val (.int uc), .val (.int (2 : Int32)), .val (.ref ui), .unset] [(.int ub), (.ref ui)])) rfl rfl own_pd0 (argsL := [(.int ub)]) (rest := []) rfl rfl rfl (by show 2 * 0 + _ ≤ _; exact Nat.le_of_eq rfl) (hb hby at_57) (by decide) (by decide) ?_
      intro T17 L17 v17 X17 hQ17
      obtain ⟨d17, z17, kf17, nf17, S17, rfl, Nc17, K17, Fk17, Fn17, Fs17, Fz17, Vk17, Vn17, T17h, hz17, hl17, hu17, hd17⟩ := hQ17
      have N17 := Fr.app N16 Nc17
      have EXui_17 := EXui_16.keep K17
      have sz17 := Nat.le_trans sz16 K17.1
      show own_Go p e below s _ _ _ (T17.setTop (mkF m 60 #[.val (.int b0), .val (.int b1), .val (.int b2), .val (.int aq), .val (.int an), .val (.int ua), .val (.int ub), .val (.int uc), .val (.int (2 : Int32)), .val (.ref ui), .unset] [(.int d17)]))
      rcases hd17 with ⟨hS, hP1, hsz⟩ | ⟨hP1, hdd, hsz, hS⟩
      · have hq1 : ub = ua := hP1.elim (fun h => h.elim) (fun h => h.1)
        subst hS hsz
        show own_Go p e below s _ _ _ (T17.setTop (mkF m 60 #[.val (.int b0), .val (.int b1), .val (.int b2), .val (.int aq), .val (.int an), .val (.int ua), .val (.int ub), .val (.int uc), .val (.int (2 : Int32)), .val (.ref ui), .unset] [(.int d17)]))
        refine own_st (fun _ kont => XS.pop X17.here hx rfl (hb hby at_60) rfl rfl kont) ?_
        show own_Go p e below s _ _ _ (T17.setTop (mkF m 61 #[.val (.int b0), .val (.int b1), .val (.int b2), .val (.int aq), .val (.int an), .val (.int ua), .val (.int ub), .val (.int uc), .val (.int (2 : Int32)), .val (.ref ui), .unset] []))
        refine own_st (fun _ kont => XS.iload X17.here hx rfl (hb hby at_61) rfl kont) ?_
        show own_Go p e below s _ _ _ (T17.setTop (mkF m 63 #[.val (.int b0), .val (.int b1), .val (.int b2), .val (.int aq), .val (.int an), .val (.int ua), .val (.int ub), .val (.int uc), .val (.int (2 : Int32)), .val (.ref ui), .unset] [(.int (2 : Int32))]))
        refine own_st (fun _ kont => XS.iconst X17.here hx rfl (hb hby at_63) kont) ?_
        show own_Go p e below s _ _ _ (T17.setTop (mkF m 64 #[.val (.int b0), .val (.int b1), .val (.int b2), .val (.int aq), .val (.int an), .val (.int ua), .val (.int ub), .val (.int uc), .val (.int (2 : Int32)), .val (.ref ui), .unset] [(.int (3 : Int32)), (.int (2 : Int32))]))
        refine own_st (fun _ kont => XS.icmpYes X17.here hx rfl (pc0 := 64) (pc' := 75) rfl (hb hby at_64) rfl (by decide) (by decide) (by decide) kont) ?_
        show own_Go p e below s _ _ _ (T17.setTop (mkF m 75 #[.val (.int b0), .val (.int b1), .val (.int b2), .val (.int aq), .val (.int an), .val (.int ua), .val (.int ub), .val (.int uc), .val (.int (2 : Int32)), .val (.ref ui), .unset] []))
        exact J75 _ _ kf17 nf17 (fun u n => False ∨ (u = ua ∧ n = (0 : Int32))) ((0 : Int32) + 1) 2 X17 N17 sz17 EXui_17 Fk17 Fn17 Fs17 Fz17 Vk17 Vn17 T17h hz17 (by omega) (own_g2o _ _ _ hq1)
      · have hq1 : ub ≠ ua := fun h => hP1 _ (Or.inr ⟨h, rfl⟩)
        subst hS hsz
        show own_Go p e below s _ _ _ (T17.setTop (mkF m 60 #[.val (.int b0), .val (.int b1), .val (.int b2), .val (.int aq), .val (.int an), .val (.int ua), .val (.int ub), .val (.int uc), .val (.int (2 : Int32)), .val (.ref ui), .unset] [(.int d17)]))
        refine own_st (fun _ kont => XS.pop X17.here hx rfl (hb hby at_60) rfl rfl kont) ?_
        show own_Go p e below s _ _ _ (T17.setTop (mkF m 61 #[.val (.int b0), .val (.int b1), .val (.int b2), .val (.int aq), .val (.int an), .val (.int ua), .val (.int ub), .val (.int uc), .val (.int (2 : Int32)), .val (.ref ui), .unset] []))
        refine own_st (fun _ kont => XS.iload X17.here hx rfl (hb hby at_61) rfl kont) ?_
        show own_Go p e below s _ _ _ (T17.setTop (mkF m 63 #[.val (.int b0), .val (.int b1), .val (.int b2), .val (.int aq), .val (.int an), .val (.int ua), .val (.int ub), .val (.int uc), .val (.int (2 : Int32)), .val (.ref ui), .unset] [(.int (2 : Int32))]))
        refine own_st (fun _ kont => XS.iconst X17.here hx rfl (hb hby at_63) kont) ?_
        show own_Go p e below s _ _ _ (T17.setTop (mkF m 64 #[.val (.int b0), .val (.int b1), .val (.int b2), .val (.int aq), .val (.int an), .val (.int ua), .val (.int ub), .val (.int uc), .val (.int (2 : Int32)), .val (.ref ui), .unset] [(.int (3 : Int32)), (.int (2 : Int32))]))
        refine own_st (fun _ kont => XS.icmpYes X17.here hx rfl (pc0 := 64) (pc' := 75) rfl (hb hby at_64) rfl (by decide) (by decide) (by decide) kont) ?_
        show own_Go p e below s _ _ _ (T17.setTop (mkF m 75 #[.val (.int b0), .val (.int b1), .val (.int b2), .val (.int aq), .val (.int an), .val (.int ua), .val (.int ub), .val (.int uc), .val (.int (2 : Int32)), .val (.ref ui), .unset] []))
        exact J75 _ _ kf17 nf17 (fun u n => (False ∨ (u = ua ∧ n = (0 : Int32))) ∨ (u = ub ∧ n = ((0 : Int32) + 1))) (((0 : Int32) + 1) + 1) 2 X17 N17 sz17 EXui_17 Fk17 Fn17 Fs17 Fz17 Vk17 Vn17 T17h hz17 (by omega) (own_g2n _ _ _)
  · obtain rfl : k = (3 : Int32) := Int32.toInt_inj.mp hk
    show own_Go p e below s _ _ _ (T6.setTop (mkF m 33 #[.val (.int b0), .val (.int b1), .val (.int b2), .val (.int aq), .val (.int an), .val (.int ua), .val (.int ub), .val (.int uc), .val (.int (3 : Int32)), .val (.ref ui), .unset] []))
    refine own_st (fun _ kont => XS.iload X6.here hx rfl (hb hby at_33) rfl kont) ?_
    show own_Go p e below s _ _ _ (T6.setTop (mkF m 35 #[.val (.int b0), .val (.int b1), .val (.int b2), .val (.int aq), .val (.int an), .val (.int ua), .val (.int ub), .val (.int uc), .val (.int (3 : Int32)), .val (.ref ui), .unset] [(.int (3 : Int32))]))
    refine own_st (fun _ kont => XS.iconst X6.here hx rfl (hb hby at_35) kont) ?_
    show own_Go p e below s _ _ _ (T6.setTop (mkF m 36 #[.val (.int b0), .val (.int b1), .val (.int b2), .val (.int aq), .val (.int an), .val (.int ua), .val (.int ub), .val (.int uc), .val (.int (3 : Int32)), .val (.ref ui), .unset] [(.int (1 : Int32)), (.int (3 : Int32))]))
    refine own_st (fun _ kont => XS.icmpNo X6.here hx rfl (hb hby at_36) rfl (by decide) kont) ?_
    show own_Go p e below s _ _ _ (T6.setTop (mkF m 39 #[.val (.int b0), .val (.int b1), .val (.int b2), .val (.int aq), .val (.int an), .val (.int ua), .val (.int ub), .val (.int uc), .val (.int (3 : Int32)), .val (.ref ui), .unset] []))
    refine own_st (fun _ kont => XS.aload X6.here hx rfl (hb hby at_39) rfl rfl kont) ?_
    show own_Go p e below s _ _ _ (T6.setTop (mkF m 41 #[.val (.int b0), .val (.int b1), .val (.int b2), .val (.int aq), .val (.int an), .val (.int ua), .val (.int ub), .val (.int uc), .val (.int (3 : Int32)), .val (.ref ui), .unset] [(.ref ui)]))
    refine own_st (fun _ kont => XS.iload X6.here hx rfl (hb hby at_41) rfl kont) ?_
    show own_Go p e below s _ _ _ (T6.setTop (mkF m 43 #[.val (.int b0), .val (.int b1), .val (.int b2), .val (.int aq), .val (.int an), .val (.int ua), .val (.int ub), .val (.int uc), .val (.int (3 : Int32)), .val (.ref ui), .unset] [(.int ua), (.ref ui)]))
    refine own_cV X6 hx hml hZ hown (hw _ (List.mem_of_getElem? (i := 33) rfl)) (hw _ (List.mem_of_getElem? (i := 34) rfl)) (hw _ (List.mem_of_getElem? (i := 36) rfl)) (hw _ (List.mem_of_getElem? (i := 35) rfl)) (hw _ (List.mem_of_getElem? (i := 6) rfl)) (hw _ (List.mem_of_getElem? (i := 37) rfl)) (by decide) (own_rm6 l Z a0 hw ui ua ka na (fun _ => 0) (fun _ => 0) (fun _ _ => False) (0 : Int32) 0 T6.heap n0 sz6 Vk6 Vn6 Fk6 Fn6 Fs6 Fz6 EXui_6 own_T_nil (by rw [own_zero_all]; omega) (by omega) (by decide) (by decide) na1 fr_ui fr_ka fr_na nak nan kn) (rfl : T6.heap = T6.heap) EXui_6 (by decide) (W := 0) (by decide) (g := (mkF m 43 #[.val (.int b0), .val (.int b1), .val (.int b2), .val (.int aq), .val (.int an), .val (.int ua), .val (.int ub), .val (.int uc), .val (.int (3 : Int32)), .val (.ref ui), .unset] [(.int ua), (.ref ui)])) rfl rfl own_pd0 (argsL := [(.int ua)]) (rest := []) rfl rfl rfl (by show 2 * 0 + _ ≤ _; exact Nat.le_of_eq rfl) (hb hby at_43) (by decide) (by decide) ?_
    intro T18 L18 v18 X18 hQ18
    obtain ⟨d18, z18, kf18, nf18, S18, rfl, Nc18, K18, Fk18, Fn18, Fs18, Fz18, Vk18, Vn18, T18h, hz18, hl18, hu18, hd18⟩ := hQ18
    have N18 := Fr.app N6 Nc18
    have EXui_18 := EXui_6.keep K18
    have sz18 := Nat.le_trans sz6 K18.1
    show own_Go p e below s _ _ _ (T18.setTop (mkF m 46 #[.val (.int b0), .val (.int b1), .val (.int b2), .val (.int aq), .val (.int an), .val (.int ua), .val (.int ub), .val (.int uc), .val (.int (3 : Int32)), .val (.ref ui), .unset] [(.int d18)]))
    rcases hd18 with ⟨hS, hP0, hsz⟩ | ⟨hP0, hdd, hsz, hS⟩
    · exact hP0.elim
    · subst hS hsz
      show own_Go p e below s _ _ _ (T18.setTop (mkF m 46 #[.val (.int b0), .val (.int b1), .val (.int b2), .val (.int aq), .val (.int an), .val (.int ua), .val (.int ub), .val (.int uc), .val (.int (3 : Int32)), .val (.ref ui), .unset] [(.int d18)]))
      refine own_st (fun _ kont => XS.pop X18.here hx rfl (hb hby at_46) rfl rfl kont) ?_
      show own_Go p e below s _ _ _ (T18.setTop (mkF m 47 #[.val (.int b0), .val (.int b1), .val (.int b2), .val (.int aq), .val (.int an), .val (.int ua), .val (.int ub), .val (.int uc), .val (.int (3 : Int32)), .val (.ref ui), .unset] []))
      refine own_st (fun _ kont => XS.iload X18.here hx rfl (hb hby at_47) rfl kont) ?_
      show own_Go p e below s _ _ _ (T18.setTop (mkF m 49 #[.val (.int b0), .val (.int b1), .val (.int b2), .val (.int aq), .val (.int an), .val (.int ua), .val (.int ub), .val (.int uc), .val (.int (3 : Int32)), .val (.ref ui), .unset] [(.int (3 : Int32))]))
      refine own_st (fun _ kont => XS.iconst X18.here hx rfl (hb hby at_49) kont) ?_
      show own_Go p e below s _ _ _ (T18.setTop (mkF m 50 #[.val (.int b0), .val (.int b1), .val (.int b2), .val (.int aq), .val (.int an), .val (.int ua), .val (.int ub), .val (.int uc), .val (.int (3 : Int32)), .val (.ref ui), .unset] [(.int (2 : Int32)), (.int (3 : Int32))]))
      refine own_st (fun _ kont => XS.icmpNo X18.here hx rfl (hb hby at_50) rfl (by decide) kont) ?_
      show own_Go p e below s _ _ _ (T18.setTop (mkF m 53 #[.val (.int b0), .val (.int b1), .val (.int b2), .val (.int aq), .val (.int an), .val (.int ua), .val (.int ub), .val (.int uc), .val (.int (3 : Int32)), .val (.ref ui), .unset] []))
      refine own_st (fun _ kont => XS.aload X18.here hx rfl (hb hby at_53) rfl rfl kont) ?_
      show own_Go p e below s _ _ _ (T18.setTop (mkF m 55 #[.val (.int b0), .val (.int b1), .val (.int b2), .val (.int aq), .val (.int an), .val (.int ua), .val (.int ub), .val (.int uc), .val (.int (3 : Int32)), .val (.ref ui), .unset] [(.ref ui)]))
      refine own_st (fun _ kont => XS.iload X18.here hx rfl (hb hby at_55) rfl kont) ?_
      show own_Go p e below s _ _ _ (T18.setTop (mkF m 57 #[.val (.int b0), .val (.int b1), .val (.int b2), .val (.int aq), .val (.int an), .val (.int ua), .val (.int ub), .val (.int uc), .val (.int (3 : Int32)), .val (.ref ui), .unset] [(.int ub), (.ref ui)]))
      refine own_cV X18 hx hml hZ hown (hw _ (List.mem_of_getElem? (i := 33) rfl)) (hw _ (List.mem_of_getElem? (i := 34) rfl)) (hw _ (List.mem_of_getElem? (i := 36) rfl)) (hw _ (List.mem_of_getElem? (i := 35) rfl)) (hw _ (List.mem_of_getElem? (i := 6) rfl)) (hw _ (List.mem_of_getElem? (i := 37) rfl)) (by decide) (own_rm6 l Z a0 hw ui ub ka na kf18 nf18 (fun u n => False ∨ (u = ua ∧ n = (0 : Int32))) ((0 : Int32) + 1) 1 T18.heap n0 sz18 Vk18 Vn18 Fk18 Fn18 Fs18 Fz18 EXui_18 T18h hz18 (by omega) hl18 hu18 nb1 fr_ui fr_ka fr_na nak nan kn) (rfl : T18.heap = T18.heap) EXui_18 (by decide) (W := 0) (by decide) (g := (mkF m 57 #[.val (.int b0), .val (.int b1), .val (.int b2), .val (.int aq), .val (.int an), .val (.int ua), .val (.int ub), .val (.int uc), .val (.int (3 : Int32)), .val (.ref ui), .unset] [(.int ub), (.ref ui)])) rfl rfl own_pd0 (argsL := [(.int ub)]) (rest := []) rfl rfl rfl (by show 2 * 0 + _ ≤ _; exact Nat.le_of_eq rfl) (hb hby at_57) (by decide) (by decide) ?_
      intro T19 L19 v19 X19 hQ19
      obtain ⟨d19, z19, kf19, nf19, S19, rfl, Nc19, K19, Fk19, Fn19, Fs19, Fz19, Vk19, Vn19, T19h, hz19, hl19, hu19, hd19⟩ := hQ19
      have N19 := Fr.app N18 Nc19
      have EXui_19 := EXui_18.keep K19
      have sz19 := Nat.le_trans sz18 K19.1
      show own_Go p e below s _ _ _ (T19.setTop (mkF m 60 #[.val (.int b0), .val (.int b1), .val (.int b2), .val (.int aq), .val (.int an), .val (.int ua), .val (.int ub), .val (.int uc), .val (.int (3 : Int32)), .val (.ref ui), .unset] [(.int d19)]))
      rcases hd19 with ⟨hS, hP1, hsz⟩ | ⟨hP1, hdd, hsz, hS⟩
      · have hq1 : ub = ua := hP1.elim (fun h => h.elim) (fun h => h.1)
        subst hS hsz
        show own_Go p e below s _ _ _ (T19.setTop (mkF m 60 #[.val (.int b0), .val (.int b1), .val (.int b2), .val (.int aq), .val (.int an), .val (.int ua), .val (.int ub), .val (.int uc), .val (.int (3 : Int32)), .val (.ref ui), .unset] [(.int d19)]))
        refine own_st (fun _ kont => XS.pop X19.here hx rfl (hb hby at_60) rfl rfl kont) ?_
        show own_Go p e below s _ _ _ (T19.setTop (mkF m 61 #[.val (.int b0), .val (.int b1), .val (.int b2), .val (.int aq), .val (.int an), .val (.int ua), .val (.int ub), .val (.int uc), .val (.int (3 : Int32)), .val (.ref ui), .unset] []))
        refine own_st (fun _ kont => XS.iload X19.here hx rfl (hb hby at_61) rfl kont) ?_
        show own_Go p e below s _ _ _ (T19.setTop (mkF m 63 #[.val (.int b0), .val (.int b1), .val (.int b2), .val (.int aq), .val (.int an), .val (.int ua), .val (.int ub), .val (.int uc), .val (.int (3 : Int32)), .val (.ref ui), .unset] [(.int (3 : Int32))]))
        refine own_st (fun _ kont => XS.iconst X19.here hx rfl (hb hby at_63) kont) ?_
        show own_Go p e below s _ _ _ (T19.setTop (mkF m 64 #[.val (.int b0), .val (.int b1), .val (.int b2), .val (.int aq), .val (.int an), .val (.int ua), .val (.int ub), .val (.int uc), .val (.int (3 : Int32)), .val (.ref ui), .unset] [(.int (3 : Int32)), (.int (3 : Int32))]))
        refine own_st (fun _ kont => XS.icmpNo X19.here hx rfl (hb hby at_64) rfl (by decide) kont) ?_
        show own_Go p e below s _ _ _ (T19.setTop (mkF m 67 #[.val (.int b0), .val (.int b1), .val (.int b2), .val (.int aq), .val (.int an), .val (.int ua), .val (.int ub), .val (.int uc), .val (.int (3 : Int32)), .val (.ref ui), .unset] []))
        refine own_st (fun _ kont => XS.aload X19.here hx rfl (hb hby at_67) rfl rfl kont) ?_
        show own_Go p e below s _ _ _ (T19.setTop (mkF m 69 #[.val (.int b0), .val (.int b1), .val (.int b2), .val (.int aq), .val (.int an), .val (.int ua), .val (.int ub), .val (.int uc), .val (.int (3 : Int32)), .val (.ref ui), .unset] [(.ref ui)]))
        refine own_st (fun _ kont => XS.iload X19.here hx rfl (hb hby at_69) rfl kont) ?_
        show own_Go p e below s _ _ _ (T19.setTop (mkF m 71 #[.val (.int b0), .val (.int b1), .val (.int b2), .val (.int aq), .val (.int an), .val (.int ua), .val (.int ub), .val (.int uc), .val (.int (3 : Int32)), .val (.ref ui), .unset] [(.int uc), (.ref ui)]))
        refine own_cV X19 hx hml hZ hown (hw _ (List.mem_of_getElem? (i := 33) rfl)) (hw _ (List.mem_of_getElem? (i := 34) rfl)) (hw _ (List.mem_of_getElem? (i := 36) rfl)) (hw _ (List.mem_of_getElem? (i := 35) rfl)) (hw _ (List.mem_of_getElem? (i := 6) rfl)) (hw _ (List.mem_of_getElem? (i := 37) rfl)) (by decide) (own_rm6 l Z a0 hw ui uc ka na kf19 nf19 (fun u n => False ∨ (u = ua ∧ n = (0 : Int32))) ((0 : Int32) + 1) 2 T19.heap n0 sz19 Vk19 Vn19 Fk19 Fn19 Fs19 Fz19 EXui_19 T19h hz19 (by omega) hl19 hu19 nc1 fr_ui fr_ka fr_na nak nan kn) (rfl : T19.heap = T19.heap) EXui_19 (by decide) (W := 0) (by decide) (g := (mkF m 71 #[.val (.int b0), .val (.int b1), .val (.int b2), .val (.int aq), .val (.int an), .val (.int ua), .val (.int ub), .val (.int uc), .val (.int (3 : Int32)), .val (.ref ui), .unset] [(.int uc), (.ref ui)])) rfl rfl own_pd0 (argsL := [(.int uc)]) (rest := []) rfl rfl rfl (by show 2 * 0 + _ ≤ _; exact Nat.le_of_eq rfl) (hb hby at_71) (by decide) (by decide) ?_
        intro T20 L20 v20 X20 hQ20
        obtain ⟨d20, z20, kf20, nf20, S20, rfl, Nc20, K20, Fk20, Fn20, Fs20, Fz20, Vk20, Vn20, T20h, hz20, hl20, hu20, hd20⟩ := hQ20
        have N20 := Fr.app N19 Nc20
        have EXui_20 := EXui_19.keep K20
        have sz20 := Nat.le_trans sz19 K20.1
        show own_Go p e below s _ _ _ (T20.setTop (mkF m 74 #[.val (.int b0), .val (.int b1), .val (.int b2), .val (.int aq), .val (.int an), .val (.int ua), .val (.int ub), .val (.int uc), .val (.int (3 : Int32)), .val (.ref ui), .unset] [(.int d20)]))
        rcases hd20 with ⟨hS, hP2, hsz⟩ | ⟨hP2, hdd, hsz, hS⟩
        · have hq2 : uc = ua := hP2.elim (fun h => h.elim) (fun h => h.1)
          subst hS hsz
          show own_Go p e below s _ _ _ (T20.setTop (mkF m 74 #[.val (.int b0), .val (.int b1), .val (.int b2), .val (.int aq), .val (.int an), .val (.int ua), .val (.int ub), .val (.int uc), .val (.int (3 : Int32)), .val (.ref ui), .unset] [(.int d20)]))
          refine own_st (fun _ kont => XS.pop X20.here hx rfl (hb hby at_74) rfl rfl kont) ?_
          show own_Go p e below s _ _ _ (T20.setTop (mkF m 75 #[.val (.int b0), .val (.int b1), .val (.int b2), .val (.int aq), .val (.int an), .val (.int ua), .val (.int ub), .val (.int uc), .val (.int (3 : Int32)), .val (.ref ui), .unset] []))
          exact J75 _ _ kf20 nf20 (fun u n => False ∨ (u = ua ∧ n = (0 : Int32))) ((0 : Int32) + 1) 3 X20 N20 sz20 EXui_20 Fk20 Fn20 Fs20 Fz20 Vk20 Vn20 T20h hz20 (by omega) (own_g3oo _ _ _ hq1 hq2)
        · subst hS hsz
          show own_Go p e below s _ _ _ (T20.setTop (mkF m 74 #[.val (.int b0), .val (.int b1), .val (.int b2), .val (.int aq), .val (.int an), .val (.int ua), .val (.int ub), .val (.int uc), .val (.int (3 : Int32)), .val (.ref ui), .unset] [(.int d20)]))
          refine own_st (fun _ kont => XS.pop X20.here hx rfl (hb hby at_74) rfl rfl kont) ?_
          show own_Go p e below s _ _ _ (T20.setTop (mkF m 75 #[.val (.int b0), .val (.int b1), .val (.int b2), .val (.int aq), .val (.int an), .val (.int ua), .val (.int ub), .val (.int uc), .val (.int (3 : Int32)), .val (.ref ui), .unset] []))
          exact J75 _ _ kf20 nf20 (fun u n => (False ∨ (u = ua ∧ n = (0 : Int32))) ∨ (u = uc ∧ n = ((0 : Int32) + 1))) (((0 : Int32) + 1) + 1) 3 X20 N20 sz20 EXui_20 Fk20 Fn20 Fs20 Fz20 Vk20 Vn20 T20h hz20 (by omega) (own_g3on _ _ _ hq1)
      · have hq1 : ub ≠ ua := fun h => hP1 _ (Or.inr ⟨h, rfl⟩)
        subst hS hsz
        show own_Go p e below s _ _ _ (T19.setTop (mkF m 60 #[.val (.int b0), .val (.int b1), .val (.int b2), .val (.int aq), .val (.int an), .val (.int ua), .val (.int ub), .val (.int uc), .val (.int (3 : Int32)), .val (.ref ui), .unset] [(.int d19)]))
        refine own_st (fun _ kont => XS.pop X19.here hx rfl (hb hby at_60) rfl rfl kont) ?_
        show own_Go p e below s _ _ _ (T19.setTop (mkF m 61 #[.val (.int b0), .val (.int b1), .val (.int b2), .val (.int aq), .val (.int an), .val (.int ua), .val (.int ub), .val (.int uc), .val (.int (3 : Int32)), .val (.ref ui), .unset] []))
        refine own_st (fun _ kont => XS.iload X19.here hx rfl (hb hby at_61) rfl kont) ?_
        show own_Go p e below s _ _ _ (T19.setTop (mkF m 63 #[.val (.int b0), .val (.int b1), .val (.int b2), .val (.int aq), .val (.int an), .val (.int ua), .val (.int ub), .val (.int uc), .val (.int (3 : Int32)), .val (.ref ui), .unset] [(.int (3 : Int32))]))
        refine own_st (fun _ kont => XS.iconst X19.here hx rfl (hb hby at_63) kont) ?_
        show own_Go p e below s _ _ _ (T19.setTop (mkF m 64 #[.val (.int b0), .val (.int b1), .val (.int b2), .val (.int aq), .val (.int an), .val (.int ua), .val (.int ub), .val (.int uc), .val (.int (3 : Int32)), .val (.ref ui), .unset] [(.int (3 : Int32)), (.int (3 : Int32))]))
        refine own_st (fun _ kont => XS.icmpNo X19.here hx rfl (hb hby at_64) rfl (by decide) kont) ?_
        show own_Go p e below s _ _ _ (T19.setTop (mkF m 67 #[.val (.int b0), .val (.int b1), .val (.int b2), .val (.int aq), .val (.int an), .val (.int ua), .val (.int ub), .val (.int uc), .val (.int (3 : Int32)), .val (.ref ui), .unset] []))
        refine own_st (fun _ kont => XS.aload X19.here hx rfl (hb hby at_67) rfl rfl kont) ?_
        show own_Go p e below s _ _ _ (T19.setTop (mkF m 69 #[.val (.int b0), .val (.int b1), .val (.int b2), .val (.int aq), .val (.int an), .val (.int ua), .val (.int ub), .val (.int uc), .val (.int (3 : Int32)), .val (.ref ui), .unset] [(.ref ui)]))
        refine own_st (fun _ kont => XS.iload X19.here hx rfl (hb hby at_69) rfl kont) ?_
        show own_Go p e below s _ _ _ (T19.setTop (mkF m 71 #[.val (.int b0), .val (.int b1), .val (.int b2), .val (.int aq), .val (.int an), .val (.int ua), .val (.int ub), .val (.int uc), .val (.int (3 : Int32)), .val (.ref ui), .unset] [(.int uc), (.ref ui)]))
        refine own_cV X19 hx hml hZ hown (hw _ (List.mem_of_getElem? (i := 33) rfl)) (hw _ (List.mem_of_getElem? (i := 34) rfl)) (hw _ (List.mem_of_getElem? (i := 36) rfl)) (hw _ (List.mem_of_getElem? (i := 35) rfl)) (hw _ (List.mem_of_getElem? (i := 6) rfl)) (hw _ (List.mem_of_getElem? (i := 37) rfl)) (by decide) (own_rm6 l Z a0 hw ui uc ka na kf19 nf19 (fun u n => (False ∨ (u = ua ∧ n = (0 : Int32))) ∨ (u = ub ∧ n = ((0 : Int32) + 1))) (((0 : Int32) + 1) + 1) 2 T19.heap n0 sz19 Vk19 Vn19 Fk19 Fn19 Fs19 Fz19 EXui_19 T19h hz19 (by omega) hl19 hu19 nc1 fr_ui fr_ka fr_na nak nan kn) (rfl : T19.heap = T19.heap) EXui_19 (by decide) (W := 0) (by decide) (g := (mkF m 71 #[.val (.int b0), .val (.int b1), .val (.int b2), .val (.int aq), .val (.int an), .val (.int ua), .val (.int ub), .val (.int uc), .val (.int (3 : Int32)), .val (.ref ui), .unset] [(.int uc), (.ref ui)])) rfl rfl own_pd0 (argsL := [(.int uc)]) (rest := []) rfl rfl rfl (by show 2 * 0 + _ ≤ _; exact Nat.le_of_eq rfl) (hb hby at_71) (by decide) (by decide) ?_
        intro T21 L21 v21 X21 hQ21
        obtain ⟨d21, z21, kf21, nf21, S21, rfl, Nc21, K21, Fk21, Fn21, Fs21, Fz21, Vk21, Vn21, T21h, hz21, hl21, hu21, hd21⟩ := hQ21
        have N21 := Fr.app N19 Nc21
        have EXui_21 := EXui_19.keep K21
        have sz21 := Nat.le_trans sz19 K21.1
        show own_Go p e below s _ _ _ (T21.setTop (mkF m 74 #[.val (.int b0), .val (.int b1), .val (.int b2), .val (.int aq), .val (.int an), .val (.int ua), .val (.int ub), .val (.int uc), .val (.int (3 : Int32)), .val (.ref ui), .unset] [(.int d21)]))
        rcases hd21 with ⟨hS, hP2, hsz⟩ | ⟨hP2, hdd, hsz, hS⟩
        · have hq2 : uc = ua ∨ uc = ub := hP2.elim (fun h => h.elim (fun h => h.elim) (fun h => Or.inl h.1)) (fun h => Or.inr h.1)
          subst hS hsz
          show own_Go p e below s _ _ _ (T21.setTop (mkF m 74 #[.val (.int b0), .val (.int b1), .val (.int b2), .val (.int aq), .val (.int an), .val (.int ua), .val (.int ub), .val (.int uc), .val (.int (3 : Int32)), .val (.ref ui), .unset] [(.int d21)]))
          refine own_st (fun _ kont => XS.pop X21.here hx rfl (hb hby at_74) rfl rfl kont) ?_
          show own_Go p e below s _ _ _ (T21.setTop (mkF m 75 #[.val (.int b0), .val (.int b1), .val (.int b2), .val (.int aq), .val (.int an), .val (.int ua), .val (.int ub), .val (.int uc), .val (.int (3 : Int32)), .val (.ref ui), .unset] []))
          exact J75 _ _ kf21 nf21 (fun u n => (False ∨ (u = ua ∧ n = (0 : Int32))) ∨ (u = ub ∧ n = ((0 : Int32) + 1))) (((0 : Int32) + 1) + 1) 3 X21 N21 sz21 EXui_21 Fk21 Fn21 Fs21 Fz21 Vk21 Vn21 T21h hz21 (by omega) (own_g3no _ _ _ hq2)
        · subst hS hsz
          show own_Go p e below s _ _ _ (T21.setTop (mkF m 74 #[.val (.int b0), .val (.int b1), .val (.int b2), .val (.int aq), .val (.int an), .val (.int ua), .val (.int ub), .val (.int uc), .val (.int (3 : Int32)), .val (.ref ui), .unset] [(.int d21)]))
          refine own_st (fun _ kont => XS.pop X21.here hx rfl (hb hby at_74) rfl rfl kont) ?_
          show own_Go p e below s _ _ _ (T21.setTop (mkF m 75 #[.val (.int b0), .val (.int b1), .val (.int b2), .val (.int aq), .val (.int an), .val (.int ua), .val (.int ub), .val (.int uc), .val (.int (3 : Int32)), .val (.ref ui), .unset] []))
          exact J75 _ _ kf21 nf21 (fun u n => ((False ∨ (u = ua ∧ n = (0 : Int32))) ∨ (u = ub ∧ n = ((0 : Int32) + 1))) ∨ (u = uc ∧ n = (((0 : Int32) + 1) + 1))) ((((0 : Int32) + 1) + 1) + 1) 3 X21 N21 sz21 EXui_21 Fk21 Fn21 Fs21 Fz21 Vk21 Vn21 T21h hz21 (by omega) (own_g3nn _ _ _ hq1)
set_option maxRecDepth 65536 in
set_option maxHeartbeats 40000000 in
theorem own_comes {Post : Tables → Env → Array Value → State → Outcome → State → Prop} (hpost : ∀ tb e args s v u, (limb_1_1.after args s (.returned v) u = true ∧ limb_1_2.after args s (.returned v) u = true ∧ True) → FrameEnd s (.returned v) u (Jvm.fieldLocs frame_1_writes args s ++ Jvm.arrayLocs frame_1_arrays args s ++ Jvm.staticLocs frame_1_statics s) 16 192 → Post tb e args s (.returned v) u) :
    ArmFor flags0 classFile x code maxLocals ret World_1 tables_1 room_1 Calls_1 rest_1 Pre_1 Post := by
  intro l hfl _ _ p e ha hc hk s m args below hf hA hF happ hP
  obtain ⟨hcalls, hrest, hpre⟩ := hP
  obtain ⟨-, -, -, hnamed, -, -, -, hat⟩ := (Spec.applies_iff hf).mp happ
  obtain ⟨hg, hn⟩ := and_e (Cond.before_iff.mp (show (Jvm.Cond.and given_1 narrow_1).before args s = true from hpre))
  obtain ⟨gc, r0⟩ := and_e hg
  obtain ⟨k0, r1⟩ := and_e r0
  obtain ⟨k1, r2⟩ := and_e r1
  obtain ⟨k2, r3⟩ := and_e r2
  obtain ⟨k3, r4⟩ := and_e r3
  obtain ⟨w0, w1, w2, w3, w4, rfl⟩ : ∃ w0 w1 w2 w3 w4 : Value, args = #[w0, w1, w2, w3, w4] := by
    have hs : args.size = 5 := by simpa [Cond.value, given_1] using gc
    obtain ⟨L⟩ := args
    match L, hs with
    | [w0, w1, w2, w3, w4], _ => exact ⟨w0, w1, w2, w3, w4, rfl⟩
  have hw := fun d (hd : d ∈ tables_1) => atoms_spec (ws := Jvm.Cond.code x code maxLocals ret :: tables_1) hat d (List.mem_cons_of_mem _ hd)
  obtain ⟨i0, ei0⟩ := is_v k0
  obtain rfl : w0 = (.int i0) := Option.some.inj ei0
  obtain ⟨i1, ei1⟩ := is_v k1
  obtain rfl : w1 = (.int i1) := Option.some.inj ei1
  obtain ⟨i2, ei2⟩ := is_v k2
  obtain rfl : w2 = (.int i2) := Option.some.inj ei2
  obtain ⟨i3, ei3⟩ := is_v k3
  obtain rfl : w3 = (.int i3) := Option.some.inj ei3
  obtain ⟨i4, ei4⟩ := is_v r4
  obtain rfl : w4 = (.int i4) := Option.some.inj ei4
  obtain ⟨n, o, h1, h2, h3, _, L, rfl, ⟨rfl, N⟩, hq⟩ := own_rm0 l s _ hw i0 i1 i2 i3 i4 s.heap s.heap.size (Nat.le_refl _)  tables_1 p e ha hc hk s m _ below hf ((Spec.applies_iff_loose hf).mp happ).1 ⟨rfl, State.Warmed39.refl s, rfl⟩ trivial
  refine ⟨n, _, h1, h2, h3, hpost _ _ _ _ _ _ ⟨Cond.after_iff.mpr rfl, Cond.after_iff.mpr (eq_i res_at (Term.int_eval (1)) rfl), trivial⟩ ⟨hq.1, hq.2.1, (hq.2.2.sift fun y hy => Or.inr (N y hy)).mono (by decide) (by decide)⟩⟩
theorem main_1_1 : Claimed_1_1 := own_comes fun _ _ _ _ _ _ h hF => ⟨h.1, hF⟩
theorem main_1_2 : Claimed_1_2 := own_comes fun _ _ _ _ _ _ h hF => ⟨h.2.1, hF⟩
end Jvm.Pilot.@@N@@
namespace Jvm.Pilot.@@N@@
open Jvm Jvm.ClassFile Sem Op Lib Jvm.Free Jvm.Stand Jvm.Pilot.@@N@@.Jvm.D
/-! MADE BY PROGRAM (witnessworld.py) out of the Statement's table words and the real class files: 9 classes; the members and pool entries that the words name. The judged class is class 1, her method 1. -/
namespace start1
open Jvm.ClassFile
def u (s : String) : CpInfo := .utf8 (stringToUtf16 s)
/-- a pool by its gaps: so many unusable entries, then the entry; so many at the end -/
def gap : Nat → List CpInfo → List CpInfo
  | 0, r => r
  | n + 1, r => .unusable :: gap n r
def poolList (es : List (Nat × CpInfo)) (last : Nat) : List CpInfo := es.foldr (fun e r => gap e.1 (e.2 :: r)) (gap last [])
def pool (es : List (Nat × CpInfo)) (last : Nat) : Array CpInfo := ⟨poolList es last⟩
def fileOf (pool : Array CpInfo) (this : Nat) (attrs : Array Attribute := #[]) (ms : Array MethodInfo := #[]) (fl : Nat := 33) (sup : Nat := 0) (ifs : Array Nat := #[]) (fds : Array FieldInfo := #[]) : ClassFile where
  minorVersion := 0
  majorVersion := 65
  constantPool := pool
  accessFlags := fl
  thisClass := this
  superClass := sup
  interfaces := ifs
  fields := fds
  methods := ms
  attributes := attrs
def plain (name : String) (sup : Option ClassId) : Class where
  name := name
  kind := .ordinary
  loader := none
  accessFlags := 33
  super := sup
  interfaces := #[]
  cf := none
  fields := #[]
  methods := #[]
  instanceTypes := #[]
  staticTypes := #[]
  resolved := #[]
  callSites := []
  init := .initialized
  statics := none
  mirror := none

def pool0 : Array CpInfo := pool [(5, u "<init>"), (0, u "()V"), (1, .class_ 10), (1, u "java/lang/Object")] 113

def k0c0 : Code := { maxStack := 0, maxLocals := 1, code := object_method_1_code, exceptionTable := #[], attributes := #[] }
def k0m0 : Method := { name := "<init>", desc := "()V", sig := { parameters := [], returnType := none }, accessFlags := 1, code := some k0c0 }
/-- java/lang/Object -/
def k0 : Class := { plain "java/lang/Object" none with
  accessFlags := 33
  interfaces := #[]
  cf := some (fileOf pool0 8 #[] #[{ accessFlags := 1, nameIndex := 5, descriptorIndex := 6, attributes := #[] }] 33 0 #[] #[])
  fields := #[]
  methods := #[k0m0]
  instanceTypes := #[]
  staticTypes := #[]
  resolved := Array.replicate 124 none
  statics := none }

def pool1 : Array CpInfo := pool [(2, .class_ 4), (0, .nameAndType 5 6), (0, u "java/lang/Object"), (0, u "<init>"), (0, u "()V"), (0, .methodref 8 9), (0, .class_ 10), (0, .nameAndType 11 12), (0, u "com/example/hop_gate/hopgate/UserIndexFindPinLaw"), (0, u "fix"), (0, u "(I)I"), (0, .class_ 14), (0, u "com/example/hop_gate/hopgate/UserIndex"), (0, .methodref 13 3), (0, .methodref 13 17), (0, .nameAndType 18 12), (0, u "add"), (0, .methodref 13 20), (0, .nameAndType 21 12), (0, u "find"), (0, .methodref 8 23), (0, .nameAndType 24 25), (0, u "expected"), (0, u "(IIIII)I"), (2, .integer 2147483648), (2, u "law"), (0, u "(IIIII)Z")] 3

def k1m0 : Method := { name := "<init>", desc := "()V", sig := { parameters := [], returnType := none }, accessFlags := 1, code := none }
def k1c1 : Code := { maxStack := 7, maxLocals := 11, code := code, exceptionTable := #[], attributes := #[] }
def k1m1 : Method := { name := "law", desc := "(IIIII)Z", sig := { parameters := [.int, .int, .int, .int, .int], returnType := some .boolean }, accessFlags := 9, code := some k1c1 }
def k1c2 : Code := { maxStack := 2, maxLocals := 1, code := method_3_code, exceptionTable := #[], attributes := #[] }
def k1m2 : Method := { name := "fix", desc := "(I)I", sig := { parameters := [.int], returnType := some .int }, accessFlags := 10, code := some k1c2 }
def k1c3 : Code := { maxStack := 2, maxLocals := 5, code := method_4_code, exceptionTable := #[], attributes := #[] }
def k1m3 : Method := { name := "expected", desc := "(IIIII)I", sig := { parameters := [.int, .int, .int, .int, .int], returnType := some .int }, accessFlags := 10, code := some k1c3 }
/-- com/example/hop_gate/hopgate/UserIndexFindPinLaw -/
def k1 : Class := { plain "com/example/hop_gate/hopgate/UserIndexFindPinLaw" (some 0) with
  accessFlags := 49
  interfaces := #[]
  cf := some (fileOf pool1 8 #[] #[{ accessFlags := 1, nameIndex := 5, descriptorIndex := 6, attributes := #[] }, { accessFlags := 9, nameIndex := 31, descriptorIndex := 32, attributes := #[] }, { accessFlags := 10, nameIndex := 11, descriptorIndex := 12, attributes := #[] }, { accessFlags := 10, nameIndex := 24, descriptorIndex := 25, attributes := #[] }] 49 2 #[] #[])
  fields := #[]
  methods := #[k1m0, k1m1, k1m2, k1m3]
  instanceTypes := #[]
  staticTypes := #[]
  resolved := Array.replicate 36 none
  statics := none }

def pool2 : Array CpInfo := pool [(1, .methodref 2 3), (0, .class_ 4), (0, .nameAndType 5 6), (0, u "java/lang/Object"), (0, u "<init>"), (0, u "()V"), (0, .fieldref 8 9), (0, .class_ 10), (0, .nameAndType 11 12), (0, u "com/example/hop_gate/hopgate/UserIndex"), (0, u "keys"), (0, u "[I"), (0, .fieldref 8 14), (0, .nameAndType 15 12), (0, u "numbers"), (0, .fieldref 8 17), (0, .nameAndType 18 19), (0, u "shift"), (0, u "I"), (0, .fieldref 8 21), (0, .nameAndType 22 19), (0, u "size"), (0, .methodref 8 24), (0, .nameAndType 25 26), (0, u "place"), (0, u "(I)I"), (3, .integer 2654435769), (3, u "find"), (1, u "add")] 3

def k2c0 : Code := { maxStack := 2, maxLocals := 1, code := prog_59_method_1_code, exceptionTable := #[], attributes := #[] }
def k2m0 : Method := { name := "<init>", desc := "()V", sig := { parameters := [], returnType := none }, accessFlags := 0, code := some k2c0 }
def k2c1 : Code := { maxStack := 2, maxLocals := 3, code := prog_59_method_3_code, exceptionTable := #[], attributes := #[] }
def k2m1 : Method := { name := "find", desc := "(I)I", sig := { parameters := [.int], returnType := some .int }, accessFlags := 0, code := some k2c1 }
def k2c2 : Code := { maxStack := 4, maxLocals := 4, code := prog_59_method_4_code, exceptionTable := #[], attributes := #[] }
def k2m2 : Method := { name := "add", desc := "(I)I", sig := { parameters := [.int], returnType := some .int }, accessFlags := 0, code := some k2c2 }
def k2c3 : Code := { maxStack := 3, maxLocals := 3, code := prog_59_method_5_code, exceptionTable := #[], attributes := #[] }
def k2m3 : Method := { name := "place", desc := "(I)I", sig := { parameters := [.int], returnType := some .int }, accessFlags := 2, code := some k2c3 }
/-- com/example/hop_gate/hopgate/UserIndex -/
def k2 : Class := { plain "com/example/hop_gate/hopgate/UserIndex" (some 0) with
  accessFlags := 32
  interfaces := #[]
  cf := some (fileOf pool2 8 #[] #[{ accessFlags := 0, nameIndex := 5, descriptorIndex := 6, attributes := #[] }, { accessFlags := 0, nameIndex := 34, descriptorIndex := 26, attributes := #[] }, { accessFlags := 0, nameIndex := 36, descriptorIndex := 26, attributes := #[] }, { accessFlags := 2, nameIndex := 25, descriptorIndex := 26, attributes := #[] }] 32 2 #[] #[{ accessFlags := 2, nameIndex := 11, descriptorIndex := 12, attributes := #[] }, { accessFlags := 2, nameIndex := 15, descriptorIndex := 12, attributes := #[] }, { accessFlags := 2, nameIndex := 18, descriptorIndex := 19, attributes := #[] }, { accessFlags := 2, nameIndex := 22, descriptorIndex := 19, attributes := #[] }])
  fields := #[{ name := "keys", type := (.array .int), accessFlags := 2, slot := 0, constantValue := 0 }, { name := "numbers", type := (.array .int), accessFlags := 2, slot := 1, constantValue := 0 }, { name := "shift", type := .int, accessFlags := 2, slot := 2, constantValue := 0 }, { name := "size", type := .int, accessFlags := 2, slot := 3, constantValue := 0 }]
  methods := #[k2m0, k2m1, k2m2, k2m3]
  instanceTypes := #[(.array .int), (.array .int), .int, .int]
  staticTypes := #[]
  resolved := Array.replicate 40 none
  statics := none }

def pool3 : Array CpInfo := pool [(1, u "java/lang/Cloneable"), (0, .class_ 1), (0, u "java/lang/Object"), (0, .class_ 3)] 3

/-- java/lang/Cloneable -/
def k3 : Class := { plain "java/lang/Cloneable" (some 0) with
  accessFlags := 1537
  interfaces := #[]
  cf := some (fileOf pool3 2 #[] #[] 1537 4 #[] #[])
  fields := #[]
  methods := #[]
  instanceTypes := #[]
  staticTypes := #[]
  resolved := Array.replicate 8 none
  statics := none }

def pool4 : Array CpInfo := pool [(1, u "java/io/Serializable"), (0, .class_ 1), (0, u "java/lang/Object"), (0, .class_ 3)] 3

/-- java/io/Serializable -/
def k4 : Class := { plain "java/io/Serializable" (some 0) with
  accessFlags := 1537
  interfaces := #[]
  cf := some (fileOf pool4 2 #[] #[] 1537 4 #[] #[])
  fields := #[]
  methods := #[]
  instanceTypes := #[]
  staticTypes := #[]
  resolved := Array.replicate 8 none
  statics := none }

/-- the primitive byte -/
def k5 : Class := { plain "byte" none with kind := .primitive 'B', accessFlags := 0x411 }
/-- [B -/
def k6 : Class := { plain "[B" (some 0) with kind := .array 5 .byte, interfaces := #[3, 4], accessFlags := 1041 }

/-- the primitive int -/
def k7 : Class := { plain "int" none with kind := .primitive 'I', accessFlags := 0x411 }
/-- [I -/
def k8 : Class := { plain "[I" (some 0) with kind := .array 7 .int, interfaces := #[3, 4], accessFlags := 1041 }

def heap : Heap := #[]
def classes : Array Class := #[k0, k1, k2, k3, k4, k5, k6, k7, k8]
def interned : List (Array UInt16 × Addr) := []
def slotsUsed : Nat := 0
def theMethod : MethodId := ⟨1, 1⟩
def args0 : Array Value := #[.int 49, .int 50, .int 4, .int 60, .int 3]
def aboutOver (below : List Frame) : State where
  vm := { classes := classes, interned := interned.toArray }
  heap := heap
  slotsUsed := slotsUsed
  threads := #[{ frames := .invoking theMethod args0 :: below }]
def below0 : List Frame := [.native { method := ⟨0, 0⟩, args := #[] }]
def about1 : State := aboutOver below0
def p0 : Program := .bare "" "" ""
def e0 : Env := launch0.env 0 0 0
theorem w_frames : about1.frames = Frame.invoking theMethod args0 :: below0 := rfl
set_option maxRecDepth 65536 in
theorem w_args : argsFit about1.vm theMethod args0 = true := by decide +kernel
set_option maxRecDepth 65536 in
theorem w_heap : heapFits about1 = true := by decide +kernel
set_option maxRecDepth 65536 in
theorem w_runnable : about1.curStatus? = some .runnable := by decide +kernel
set_option maxRecDepth 65536 in
theorem w_alone : about1.alone = true := by decide +kernel
set_option maxRecDepth 65536 in
theorem w_named : about1.methodNamed? x = some theMethod := by decide +kernel
set_option maxRecDepth 65536 in
theorem w_hears : about1.hears theMethod below0 = true := by decide +kernel
set_option maxRecDepth 65536 in
theorem w_ripe : about1.ripe theMethod args0 below0 = true := by decide +kernel
theorem w_running : about1.status = .running := rfl
set_option maxRecDepth 65536 in
theorem w_room : about1.hasRoom e0.platform room_1 = true :=
  launch0.hasRoom_least _ room_1 (by decide +kernel) (by decide +kernel) (by decide +kernel) (by decide +kernel) (by decide +kernel) (by decide +kernel)
theorem allAtoms_all (ts : List Jvm.Cond) (a : Array Jvm.Value) (st : Jvm.State) : (allAtoms ts).before a st = ts.all (fun c => c.before a st) := by
  induction ts with
  | nil => rfl
  | cons c t ih =>
    show (Jvm.Cond.and c (allAtoms t)).before a st = _
    rw [Jvm.Cond.before_and, ih, List.all_cons]
def words1 : List Jvm.Cond := Jvm.Cond.code x code maxLocals ret :: tables_1
/-- a 'code' word, met by the world's own term for the bytes: nothing is compared byte by byte -/
theorem code_word {y : MethodName} {bytes : ByteArray} {mx : Nat} {rt : Option FieldType} {a : Array Value} {s : State} {m : MethodId} {meth : Method} {c : Code} (h1 : s.methodNamed? y = some m) (h2 : s.vm.method? m = some meth) (h3 : meth.code = some c) (h4 : c.code = bytes)
    (h5 : (c.maxLocals == mx && c.exceptionTable.isEmpty && decide (c.maxStack ≤ mostOperands) && decide (meth.sig.returnType = rt) && !meth.locks && decide (parseMethodDescriptor y.desc = some meth.sig)) = true) : (Jvm.Cond.code y bytes mx rt).before a s = true := by
  simp only [Bool.and_eq_true, beq_iff_eq, Bool.not_eq_true', decide_eq_true_eq] at h5
  obtain ⟨⟨⟨⟨⟨g1, g2⟩, g3⟩, g4⟩, g5⟩, g6⟩ := h5
  simp [Cond.before, Cond.holds, Cond.value, h1, h2, h3, h4, g1, g2, g3, g4, g5, g6]
def isCode : Jvm.Cond → Bool
  | .code _ _ _ _ => true
  | _ => false
theorem all_split {L : List Jvm.Cond} {P : Jvm.Cond → Bool} (h1 : L.all (fun c => isCode c || P c) = true) (h2 : ∀ c ∈ L.filter isCode, P c = true) : L.all P = true := by
  refine List.all_eq_true.mpr fun c hc => ?_
  have h := List.all_eq_true.mp h1 c hc
  rcases Bool.eq_false_or_eq_true (isCode c) with hi | hi
  · exact h2 c (List.mem_filter.mpr ⟨hc, hi⟩)
  · simpa [hi] using h
set_option maxRecDepth 65536 in
theorem w_c0 : (Jvm.Cond.code x code maxLocals ret).before args0 about1 = true := code_word (m := ⟨1, 1⟩) (meth := k1m1) (c := k1c1) (by decide +kernel) rfl rfl rfl (by decide +kernel)
set_option maxRecDepth 65536 in
theorem w_c1 : (Jvm.Cond.code ({ cls := "com/example/hop_gate/hopgate/UserIndexFindPinLaw", name := "fix", desc := "(I)I" } : Jvm.MethodName) method_3_code (1 : Nat) (Option.some Jvm.ClassFile.FieldType.int)).before args0 about1 = true := code_word (m := ⟨1, 2⟩) (meth := k1m2) (c := k1c2) (by decide +kernel) rfl rfl rfl (by decide +kernel)
set_option maxRecDepth 65536 in
theorem w_c2 : (Jvm.Cond.code ({ cls := "com/example/hop_gate/hopgate/UserIndex", name := "<init>", desc := "()V" } : Jvm.MethodName) prog_59_method_1_code (1 : Nat) (Option.none : Option Jvm.ClassFile.FieldType)).before args0 about1 = true := code_word (m := ⟨2, 0⟩) (meth := k2m0) (c := k2c0) (by decide +kernel) rfl rfl rfl (by decide +kernel)
set_option maxRecDepth 65536 in
theorem w_c3 : (Jvm.Cond.code ({ cls := "java/lang/Object", name := "<init>", desc := "()V" } : Jvm.MethodName) object_method_1_code (1 : Nat) (Option.none : Option Jvm.ClassFile.FieldType)).before args0 about1 = true := code_word (m := ⟨0, 0⟩) (meth := k0m0) (c := k0c0) (by decide +kernel) rfl rfl rfl (by decide +kernel)
set_option maxRecDepth 65536 in
theorem w_c4 : (Jvm.Cond.code ({ cls := "com/example/hop_gate/hopgate/UserIndex", name := "find", desc := "(I)I" } : Jvm.MethodName) prog_59_method_3_code (3 : Nat) (Option.some Jvm.ClassFile.FieldType.int)).before args0 about1 = true := code_word (m := ⟨2, 1⟩) (meth := k2m1) (c := k2c1) (by decide +kernel) rfl rfl rfl (by decide +kernel)
set_option maxRecDepth 65536 in
theorem w_c5 : (Jvm.Cond.code ({ cls := "com/example/hop_gate/hopgate/UserIndex", name := "place", desc := "(I)I" } : Jvm.MethodName) prog_59_method_5_code (3 : Nat) (Option.some Jvm.ClassFile.FieldType.int)).before args0 about1 = true := code_word (m := ⟨2, 3⟩) (meth := k2m3) (c := k2c3) (by decide +kernel) rfl rfl rfl (by decide +kernel)
set_option maxRecDepth 65536 in
theorem w_c6 : (Jvm.Cond.code ({ cls := "com/example/hop_gate/hopgate/UserIndexFindPinLaw", name := "expected", desc := "(IIIII)I" } : Jvm.MethodName) method_4_code (5 : Nat) (Option.some Jvm.ClassFile.FieldType.int)).before args0 about1 = true := code_word (m := ⟨1, 3⟩) (meth := k1m3) (c := k1c3) (by decide +kernel) rfl rfl rfl (by decide +kernel)
set_option maxRecDepth 65536 in
theorem w_c7 : (Jvm.Cond.code ({ cls := "com/example/hop_gate/hopgate/UserIndex", name := "add", desc := "(I)I" } : Jvm.MethodName) prog_59_method_4_code (4 : Nat) (Option.some Jvm.ClassFile.FieldType.int)).before args0 about1 = true := code_word (m := ⟨2, 2⟩) (meth := k2m2) (c := k2c2) (by decide +kernel) rfl rfl rfl (by decide +kernel)
def codes1 : List Jvm.Cond := [Jvm.Cond.code x code maxLocals ret, Jvm.Cond.code ({ cls := "com/example/hop_gate/hopgate/UserIndexFindPinLaw", name := "fix", desc := "(I)I" } : Jvm.MethodName) method_3_code (1 : Nat) (Option.some Jvm.ClassFile.FieldType.int), Jvm.Cond.code ({ cls := "com/example/hop_gate/hopgate/UserIndex", name := "<init>", desc := "()V" } : Jvm.MethodName) prog_59_method_1_code (1 : Nat) (Option.none : Option Jvm.ClassFile.FieldType), Jvm.Cond.code ({ cls := "java/lang/Object", name := "<init>", desc := "()V" } : Jvm.MethodName) object_method_1_code (1 : Nat) (Option.none : Option Jvm.ClassFile.FieldType), Jvm.Cond.code ({ cls := "com/example/hop_gate/hopgate/UserIndex", name := "find", desc := "(I)I" } : Jvm.MethodName) prog_59_method_3_code (3 : Nat) (Option.some Jvm.ClassFile.FieldType.int), Jvm.Cond.code ({ cls := "com/example/hop_gate/hopgate/UserIndex", name := "place", desc := "(I)I" } : Jvm.MethodName) prog_59_method_5_code (3 : Nat) (Option.some Jvm.ClassFile.FieldType.int), Jvm.Cond.code ({ cls := "com/example/hop_gate/hopgate/UserIndexFindPinLaw", name := "expected", desc := "(IIIII)I" } : Jvm.MethodName) method_4_code (5 : Nat) (Option.some Jvm.ClassFile.FieldType.int), Jvm.Cond.code ({ cls := "com/example/hop_gate/hopgate/UserIndex", name := "add", desc := "(I)I" } : Jvm.MethodName) prog_59_method_4_code (4 : Nat) (Option.some Jvm.ClassFile.FieldType.int)]
set_option maxRecDepth 65536 in
theorem codes_eq : words1.filter isCode = codes1 := rfl
theorem w_codes : ∀ c ∈ words1.filter isCode, c.before args0 about1 = true := by
  rw [codes_eq]
  intro c hc
  simp only [codes1, List.mem_cons, List.not_mem_nil, or_false] at hc
  rcases hc with rfl | rfl | rfl | rfl | rfl | rfl | rfl | rfl
  · exact w_c0
  · exact w_c1
  · exact w_c2
  · exact w_c3
  · exact w_c4
  · exact w_c5
  · exact w_c6
  · exact w_c7
set_option maxRecDepth 65536 in
theorem w_t1 : (words1.take 24).all (fun c => isCode c || c.before args0 about1) = true := by decide +kernel
set_option maxRecDepth 65536 in
theorem w_t2 : (words1.drop 24).all (fun c => isCode c || c.before args0 about1) = true := by decide +kernel
theorem w_tables : (allAtoms (Jvm.Cond.code x code maxLocals ret :: tables_1)).before args0 about1 = true := by
  rw [allAtoms_all]
  show words1.all (fun c => c.before args0 about1) = true
  refine all_split ?_ w_codes
  rw [← List.take_append_drop 24 words1, List.all_append, w_t1, w_t2]
  rfl
set_option maxRecDepth 65536 in
theorem w_case : (Jvm.Cond.and given_1 narrow_1).before args0 about1 = true := by decide +kernel
theorem w_applies : (headSpec (Jvm.Cond.code x code maxLocals ret :: tables_1) room_1).applies x e0.platform about1 = true :=
  (Spec.applies_iff w_frames).mpr ⟨w_running, w_runnable, w_alone, w_named, w_hears, w_ripe, w_room, w_tables⟩
theorem atStart : AtStart classFile x code maxLocals ret World_1 tables_1 room_1 Calls_1 rest_1 Pre_1 launch0 p0 e0 about1 theMethod args0 below0 :=
  ⟨lists_1, trivial, launch0.admits_env _ _ _, launch0.least_env, fairChoices_fair.cas, fairChoices_fair.clock, w_frames, w_args, w_heap, w_applies, trivial, trivial, w_case⟩
end start1
theorem witness_1 : WitnessClaimed_1 := ⟨start1.p0, start1.e0, start1.about1, start1.theMethod, start1.args0, start1.below0, start1.atStart⟩
end Jvm.Pilot.@@N@@
